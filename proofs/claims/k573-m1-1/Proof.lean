import JvmDerived
import JvmDerived.Pilot.@@N@@Statement
import JvmDerived.Pilot.@@N@@Code
set_option linter.unusedVariables false
set_option linter.unusedSimpArgs false
namespace Jvm.Pilot.@@N@@
open Jvm Jvm.ClassFile Sem Op Lib Jvm.Free Jvm.Stand Jvm.LawKit Jvm.RoadKit Bundle Jvm.Pilot.@@N@@.Jvm.D
theorem own_retI {p : Program} {l : Launch} {e : Env} {R : Room} {s : State} {m : MethodId} {args : Array Value} {below : List Frame} {meth : Method} {c : Code} {T : State} {locs : List Loc} {cells slots : Nat} (X : Stand p l e R s m args below meth c T locs cells slots) (hx : p.tables.exec = Jvm.exec) {pc : Nat} {Ls : Array Slot} {z : Int32} {rest : List Value} (hret : meth.sig.returnType = some .int) (hd : decode c.code pc = .ok (.ireturn, 1)) {fs : List Frame}
    (hl : ∀ (f : JFrame) (acts : List Action), f.method = m → f.locked = none → f.entered = [] → (doReturn e (T.setTop f) acts (some (.int z))).1 = T.setFrames fs) : Steps p.tables e below (T.setTop (mkF m pc Ls (.int z :: rest))) (T.setFrames fs) :=
  retOut X hx hret rfl (Or.inl ⟨rfl, Or.inl rfl, z, rfl⟩) hd hl
theorem own_retJ {p : Program} {l : Launch} {e : Env} {R : Room} {s : State} {m : MethodId} {args : Array Value} {below : List Frame} {meth : Method} {c : Code} {T : State} {locs : List Loc} {cells slots : Nat} (X : Stand p l e R s m args below meth c T locs cells slots) (hx : p.tables.exec = Jvm.exec) {pc : Nat} {Ls : Array Slot} {z : Int64} {rest : List Value} (hret : meth.sig.returnType = some .long) (hd : decode c.code pc = .ok (.lreturn, 1)) {fs : List Frame}
    (hl : ∀ (f : JFrame) (acts : List Action), f.method = m → f.locked = none → f.entered = [] → (doReturn e (T.setTop f) acts (some (.long z))).1 = T.setFrames fs) : Steps p.tables e below (T.setTop (mkF m pc Ls (.long z :: rest))) (T.setFrames fs) :=
  retOut X hx hret rfl (Or.inr (Or.inl ⟨rfl, rfl, z, rfl⟩)) hd hl
theorem own_retA {p : Program} {l : Launch} {e : Env} {R : Room} {s : State} {m : MethodId} {args : Array Value} {below : List Frame} {meth : Method} {c : Code} {T : State} {locs : List Loc} {cells slots : Nat} (X : Stand p l e R s m args below meth c T locs cells slots) (hx : p.tables.exec = Jvm.exec) {pc : Nat} {Ls : Array Slot} {w : Value} {rest : List Value} {t : FieldType} (hret : meth.sig.returnType = some t) (ht : t.isReference = true) (hn : narrow t w = w) (hw : w.isRef = true) (hd : decode c.code pc = .ok (.areturn, 1)) {fs : List Frame}
    (hl : ∀ (f : JFrame) (acts : List Action), f.method = m → f.locked = none → f.entered = [] → (doReturn e (T.setTop f) acts (some w)).1 = T.setFrames fs) : Steps p.tables e below (T.setTop (mkF m pc Ls (w :: rest))) (T.setFrames fs) :=
  retOut X hx hret hn (Or.inr (Or.inr (Or.inr (Or.inr ⟨rfl, ht, hw⟩)))) hd hl
theorem own_go {tb : Tables} {e : Env} {below : List Frame} {A B : State} {R : State → Outcome → Prop} (st : ∀ t, Steps tb e below A t → Steps tb e below B t) (h : ∃ U o, Steps tb e below A U ∧ R U o) : ∃ U o, Steps tb e below B U ∧ R U o := by
  obtain ⟨U, o, h1, h2⟩ := h
  exact ⟨U, o, st U h1, h2⟩
theorem own_via {tb : Tables} {e : Env} {below : List Frame} {A B : State} {R : State → Outcome → Prop} (st : Steps tb e below B A) (h : ∃ U o, Steps tb e below A U ∧ R U o) : ∃ U o, Steps tb e below B U ∧ R U o := by
  obtain ⟨U, o, h1, h2⟩ := h
  exact ⟨U, o, st.trans h1, h2⟩
theorem own_eqInt {t : Term} {k : Int32} {args : Array Value} {s : State} (h : (Jvm.Cond.eq t (.int k)).value args s none s [] = some true) : t.eval args s none [] s = some (.int k) := by
  cases ha : t.eval args s none [] s with
  | none => simp [Cond.value, ha] at h
  | some x => cases x <;> simp_all [Cond.value, Term.eval, Value.isRef]
theorem own_selP {s : State} {args : Array Value} {y : MethodName} {n : Nat} (hinst : (Jvm.Cond.instanceMethod y).before args s = true) (hp : (Jvm.Cond.privateMethod y).before args s = true) (hi : (Jvm.Cond.instantiable y.cls n).before args s = true) (hy : y.cls ≠ "java/lang/invoke/MethodHandle" ∧ y.cls ≠ "java/lang/invoke/VarHandle") : (Jvm.Cond.selects y.cls y y).before args s = true := by
  obtain ⟨c, k, h1, h2, -, h4, -, -⟩ := Cond.instantiable_spec hi
  simp only [Bool.or_eq_false_iff] at h4
  exact selects_self_of_private h1 h2 h4.1 (Cond.privateMethod_at hp) hinst hy
theorem own_mvMN {Z s : State} {a0 args : Array Value} {own host : String} {y : MethodName} {index : Nat} (hZ : Z.Warmed39 s.vm) (w : (Jvm.Cond.methodLinkNest own index y host).before a0 Z = true) : (Jvm.Cond.methodLinkNest own index y host).before args s = true := (Cond.methodLinkNest_wide hZ w :)
theorem own_stoV {Z : State} {h : Heap} {a y : Addr} {k : ClassId} {ty : FieldType} {n : Int32} {vs : List Value} {d : Value} {C : String} (F : Arv Z h a k ty n vs d) (O : Ovr Z k C) (I : Ins Z h y C true) : Sto Z h a (.ref y) := by
  obtain ⟨c, A, q, -⟩ := F
  exact Sto.ofV A q O I
theorem own_cat1 {v : Value} (h : v.isRef = true) : v.category = 1 := by cases v <;> simp_all [Value.isRef, Value.category]
theorem own_nref {t : FieldType} {v : Value} (h : v.isRef = true) : narrow t v = v := by cases v <;> simp_all [Value.isRef, narrow]
theorem own_narb (x : Int32) : nar .byte x.toInt8.toInt32 = x.toInt8.toInt32 := by simp [nar]
theorem own_w {Z : State} {a0 : Array Value} (hw : ∀ d ∈ tables_1, d.before a0 Z = true) (i : Nat) {d : Jvm.Cond} (h : tables_1[i]? = some d) : d.before a0 Z = true := hw _ (List.mem_of_getElem? h)
theorem own_bT {P : Prop} [Decidable P] (h : P) : (if P then (1 : Int32) else 0) = 1 := if_pos h
theorem own_bF {P : Prop} [Decidable P] (h : ¬ P) : (if P then (1 : Int32) else 0) = 0 := if_neg h
theorem own_narB {P : Prop} [Decidable P] : nar .boolean (if P then (1 : Int32) else 0) = (if P then (1 : Int32) else 0) := by split <;> rfl
theorem own_strA {Z : State} {a0 : Array Value} (hw : ∀ d ∈ tables_1, d.before a0 Z = true) : ∀ a ∈ Bundle.stringAtoms, a.before a0 Z = true := by
  intro a ha
  simp only [Bundle.stringAtoms, List.mem_cons, List.not_mem_nil, or_false] at ha
  rcases ha with rfl | rfl | rfl | rfl | rfl | rfl | rfl
  · exact (own_w hw 112 rfl)
  · exact (own_w hw 111 rfl)
  · exact (own_w hw 126 rfl)
  · exact (own_w hw 136 rfl)
  · exact (own_w hw 134 rfl)
  · exact (own_w hw 138 rfl)
  · exact (own_w hw 139 rfl)
def own_EL : List (String × Nat) := [("java/lang/String", 7)]
theorem own_EW {Z : State} {a0 : Array Value} (hw : ∀ d ∈ tables_1, d.before a0 Z = true) : EW Z a0 own_EL := (EW.cons (own_w hw 137 rfl) (by decide +kernel) EW.nil)
theorem own_safeA {Z : State} {EL : List (String × Nat)} {vm : Vm} {h : Heap} {a : Addr} {k : ClassId} {ty : FieldType} {n : Int32} {vs : List Value} {d : Value} (hal : Z.vm.Alike vm) (F : Arv Z h a k ty n vs d) (ht : ty ≠ .byte) : Safe Z EL vm h a := by
  obtain ⟨c, A, -⟩ := F
  exact Safe.arr hal A ht
theorem own_shr0 (n : Int32) : (n >>> ((0 : Int32) &&& 31)) = n := by
  apply Int32.toInt_inj.mp; rw [c_ishr n 0 0 (by decide)]; simp
theorem own_ch (x : Int32) : nar .char (x &&& 255).toUInt32.toUInt16.toUInt32.toInt32 = x &&& 255 := by
  show ((x &&& 255).toUInt32.toUInt16.toUInt32.toInt32).toUInt32.toUInt16.toUInt32.toInt32 = _
  rw [i2c_mask, i2c_mask]
theorem own_ch1 (x : Int32) : nar .char (x &&& 255) = x &&& 255 := i2c_mask x
theorem d24_0 : decode jdk_43_method_3_code 0 = .ok (.iload_n 0, 1) := by decide +kernel
theorem d24_1 : decode jdk_43_method_3_code 1 = .ok (.sipush 255, 3) := by decide +kernel
theorem d24_4 : decode jdk_43_method_3_code 4 = .ok (.if_icmp .gt 7, 3) := by decide +kernel
theorem d24_7 : decode jdk_43_method_3_code 7 = .ok (.iconst 1, 1) := by decide +kernel
theorem d24_8 : decode jdk_43_method_3_code 8 = .ok (.goto 4, 3) := by decide +kernel
theorem d24_12 : decode jdk_43_method_3_code 12 = .ok (.ireturn, 1) := by decide +kernel
abbrev own_y0 : MethodName := ⟨"java/lang/StringLatin1", "canEncode", "(C)Z"⟩
theorem ef_rmCan (m : MethodId) (ch : Int32) : entryFrame m #[(.int ch)] 1 = mkF m 0 #[.val (.int ch)] [] := by first | (simp [entryFrame, mkF, argsToLocals, Value.category]; done) | rfl
def Q_rmCan (Z : State) (ch : Int32) (h0 : Heap) (n0 : Nat) (v_ : Option Value) (h_ : Heap) (L_ : List Loc) : Prop := v_ = some (.int (1 : Int32)) ∧ Fr n0 L_ ∧ h_ = h0
theorem pn_0 : plainName "java/lang/StringLatin1" = true := by first | (simp [plainName, overriddenIn]; done) | decide +kernel
set_option maxRecDepth 65536 in
set_option maxHeartbeats 40000000 in
theorem rmCan (l : Launch) (Z : State) (a0 : Array Value) (hw : ∀ d ∈ tables_1, d.before a0 Z = true) (ws : List Jvm.Cond) (ch : Int32) (h0 : Heap) (n0 : Nat) (Z0 : n0 ≤ h0.size) (hch : ¬ ((255 : Int32) < ch)) :
    MetFree l own_y0 (head1 (Jvm.Cond.code own_y0 jdk_43_method_3_code 1 (some .boolean) :: ws) ({ frames := 0, cells := 0, slots := 0, locals := 0 } : Room)) (fun a_ U_ => a_ = #[(.int ch)] ∧ Z.Warmed39 U_.vm ∧ U_.heap = h0) (fun _ _ _ _ _ => True) (fun _ U_ o_ U2_ => ∃ v_ L_, o_ = .returned v_ ∧ Q_rmCan Z ch h0 n0 v_ U2_.heap L_ ∧ FrameEnd U_ o_ U2_ L_ ({ frames := 0, cells := 0, slots := 0, locals := 0 } : Room).cells ({ frames := 0, cells := 0, slots := 0, locals := 0 } : Room).slots) := by
  refine MetFree.of_bodySF (plainFor_of_name pn_0) hisR ?_
  intro p e s m args below meth c s₁ Bd hml0 hP hK
  obtain ⟨rfl, hZ, hh⟩ := hP
  have hx := Bd.exec
  have hby := Bd.bytes
  have hml : c.maxLocals = 1 := hml0
  have hown : s.vm.findClass "java/lang/StringLatin1" = some m.cls := findClass_of_methodNamed Bd.named
  have hnm := (name_of_methodNamed Bd.named Bd.method).1
  have X0 : Stand p l e ({ frames := 0, cells := 0, slots := 0, locals := 0 } : Room) s m #[(.int ch)] below meth c s₁ [] 0 0 := Stand.of_body Bd
  have e0 : s₁.heap = h0 := by rw [← hh, Bd.state]; rfl
  have N0 := Fr.nil n0
  refine own_go (A := s₁.setTop (mkF m 0 #[.val (.int ch)] [])) (fun t_ k_ => castTop (ef_rmCan m ch) k_) ?_
  refine own_go (A := s₁.setTop (mkF m 12 #[.val (.int ch)] [(.int (1 : Int32))])) (fun t_ k_ => ?_) ?_
  · show Steps p.tables e below (s₁.setTop (mkF m 0 #[.val (.int ch)] [])) t_
    refine XS.iloadN X0.here hx rfl (hb hby d24_0) rfl ?_
    show Steps p.tables e below (s₁.setTop (mkF m 1 #[.val (.int ch)] [(.int ch)])) t_
    refine XS.sipush X0.here hx rfl (hb hby d24_1) ?_
    show Steps p.tables e below (s₁.setTop (mkF m 4 #[.val (.int ch)] [(.int (255 : Int32)), (.int ch)])) t_
    refine XS.icmpNo X0.here hx rfl (hb hby d24_4) rfl (flt hch).2.2.1 ?_
    show Steps p.tables e below (s₁.setTop (mkF m 7 #[.val (.int ch)] [])) t_
    refine XS.iconst X0.here hx rfl (hb hby d24_7) ?_
    show Steps p.tables e below (s₁.setTop (mkF m 8 #[.val (.int ch)] [(.int (1 : Int32))])) t_
    refine XS.goto X0.here hx rfl (pc0 := 8) (pc' := 12) rfl (hb hby d24_8) (by decide) (by decide) ?_
    exact k_
  obtain ⟨fs1, hr1, hrun1, hended1, hW1, hsame1⟩ := X0.leave (v := some (.int (1 : Int32))) (fun h => by rw [Bd.returns] at h; cases h)
  refine ⟨_, _, ?_, hrun1, hended1, _, _, rfl, ?_, ⟨_, rfl⟩, hW1, hsame1.mono (by decide) (by decide)⟩
  · exact retN X0 hx (t := .boolean) Bd.returns (by simp) (hb hby d24_12) hr1
  · show Q_rmCan Z ch h0 n0 _ s₁.heap _
    rw [e0]
    exact ⟨rfl, N0, rfl⟩
theorem d25_0 : decode jdk_43_method_46_code 0 = .ok (.iconst 1, 1) := by decide +kernel
theorem d25_1 : decode jdk_43_method_46_code 1 = .ok (.newarray .byte, 2) := by decide +kernel
theorem d25_3 : decode jdk_43_method_46_code 3 = .ok (.dup, 1) := by decide +kernel
theorem d25_4 : decode jdk_43_method_46_code 4 = .ok (.iconst 0, 1) := by decide +kernel
theorem d25_5 : decode jdk_43_method_46_code 5 = .ok (.iload_n 0, 1) := by decide +kernel
theorem d25_6 : decode jdk_43_method_46_code 6 = .ok (.i2b, 1) := by decide +kernel
theorem d25_7 : decode jdk_43_method_46_code 7 = .ok (.bastore, 1) := by decide +kernel
theorem d25_8 : decode jdk_43_method_46_code 8 = .ok (.areturn, 1) := by decide +kernel
abbrev own_y1 : MethodName := ⟨"java/lang/StringLatin1", "toBytes", "(C)[B"⟩
theorem ef_rmToB (m : MethodId) (ch : Int32) : entryFrame m #[(.int ch)] 1 = mkF m 0 #[.val (.int ch)] [] := by first | (simp [entryFrame, mkF, argsToLocals, Value.category]; done) | rfl
def Q_rmToB (Z : State) (ch : Int32) (h0 : Heap) (n0 : Nat) (v_ : Option Value) (h_ : Heap) (L_ : List Loc) : Prop := ∃ d : Addr, ∃ k : ClassId, v_ = some (.ref d) ∧ Fr n0 L_ ∧ Keep h0 h_ [] ∧ h0.size ≤ d ∧ Arv Z h_ d k .byte (1 : Int32) [(.int (ch).toInt8.toInt32)] (.int (0 : Int32))
set_option maxRecDepth 65536 in
set_option maxHeartbeats 40000000 in
theorem rmToB (l : Launch) (Z : State) (a0 : Array Value) (hw : ∀ d ∈ tables_1, d.before a0 Z = true) (ws : List Jvm.Cond) (ch : Int32) (h0 : Heap) (n0 : Nat) (Z0 : n0 ≤ h0.size)  :
    MetFree l own_y1 (head1 (Jvm.Cond.code own_y1 jdk_43_method_46_code 1 (some (.array .byte)) :: ws) ({ frames := 0, cells := 1, slots := 1, locals := 0 } : Room)) (fun a_ U_ => a_ = #[(.int ch)] ∧ Z.Warmed39 U_.vm ∧ U_.heap = h0) (fun _ _ _ _ _ => True) (fun _ U_ o_ U2_ => ∃ v_ L_, o_ = .returned v_ ∧ Q_rmToB Z ch h0 n0 v_ U2_.heap L_ ∧ FrameEnd U_ o_ U2_ L_ ({ frames := 0, cells := 1, slots := 1, locals := 0 } : Room).cells ({ frames := 0, cells := 1, slots := 1, locals := 0 } : Room).slots) := by
  refine MetFree.of_bodySF (plainFor_of_name pn_0) hisR ?_
  intro p e s m args below meth c s₁ Bd hml0 hP hK
  obtain ⟨rfl, hZ, hh⟩ := hP
  have hx := Bd.exec
  have hby := Bd.bytes
  have hml : c.maxLocals = 1 := hml0
  have hown : s.vm.findClass "java/lang/StringLatin1" = some m.cls := findClass_of_methodNamed Bd.named
  have hnm := (name_of_methodNamed Bd.named Bd.method).1
  have X0 : Stand p l e ({ frames := 0, cells := 1, slots := 1, locals := 0 } : Room) s m #[(.int ch)] below meth c s₁ [] 0 0 := Stand.of_body Bd
  have e0 : s₁.heap = h0 := by rw [← hh, Bd.state]; rfl
  have N0 := Fr.nil n0
  refine own_go (A := s₁.setTop (mkF m 0 #[.val (.int ch)] [])) (fun t_ k_ => castTop (ef_rmToB m ch) k_) ?_
  refine own_go (A := s₁.setTop (mkF m 1 #[.val (.int ch)] [(.int (1 : Int32))])) (fun t_ k_ => ?_) ?_
  · show Steps p.tables e below (s₁.setTop (mkF m 0 #[.val (.int ch)] [])) t_
    refine XS.iconst X0.here hx rfl (hb hby d25_0) ?_
    exact k_
  obtain ⟨T1, h1, k1, X1, e1, E1, A1, st1⟩ := newP X0 hx hZ (own_w hw 126 rfl) e0 (g := (mkF m 1 #[.val (.int ch)] [(.int (1 : Int32))])) rfl (hb hby d25_1) rfl (by decide) (cap := 1) (by decide) (by decide) (by decide) (by decide)
  obtain ⟨b1, g1⟩ : ∃ z, z = h0.size := ⟨_, rfl⟩
  rw [← g1] at A1 st1
  refine own_go st1 ?_
  have K1 : Keep h0 h1 [] := (Keep.refl h0 []).ext E1
  have B1 : Arv Z h1 b1 k1 .byte (1 : Int32) [(.int (0 : Int32))] (.int (0 : Int32)) := (Arv.new A1 (by decide)).pad (pad_rep [] (.int (0 : Int32)) 1)
  refine own_go (A := T1.setTop (mkF m 7 #[.val (.int ch)] [(.int (ch).toInt8.toInt32), (.int (0 : Int32)), (.ref b1), (.ref b1)])) (fun t_ k_ => ?_) ?_
  · show Steps p.tables e below (T1.setTop (mkF m 3 #[.val (.int ch)] [(.ref b1)])) t_
    refine XS.dup X1.here hx rfl (hb hby d25_3) rfl rfl ?_
    show Steps p.tables e below (T1.setTop (mkF m 4 #[.val (.int ch)] [(.ref b1), (.ref b1)])) t_
    refine XS.iconst X1.here hx rfl (hb hby d25_4) ?_
    show Steps p.tables e below (T1.setTop (mkF m 5 #[.val (.int ch)] [(.int (0 : Int32)), (.ref b1), (.ref b1)])) t_
    refine XS.iloadN X1.here hx rfl (hb hby d25_5) rfl ?_
    show Steps p.tables e below (T1.setTop (mkF m 6 #[.val (.int ch)] [(.int ch), (.int (0 : Int32)), (.ref b1), (.ref b1)])) t_
    refine XS.i2b X1.here hx rfl (hb hby d25_6) rfl ?_
    exact k_
  obtain ⟨cl2, Ar2, q2, S2, M2, H2, G2⟩ := id B1
  have hin2 : ¬ ((0 : Int32) < 0 ∨ cl2.slots.size ≤ ((0 : Int32)).toNatClampNeg) := inb_of S2 ⟨by decide, by decide⟩
  obtain ⟨T3, h3, X3, e3, W3, st3⟩ := stB X1 hx hZ e1 Ar2 (j := (0 : Int32)) hin2 (g := (mkF m 7 #[.val (.int ch)] [(.int (ch).toInt8.toInt32), (.int (0 : Int32)), (.ref b1), (.ref b1)])) rfl rfl (hb hby d25_7)
  rw [own_narb] at W3
  have B3 : Arv Z h3 b1 k1 .byte (1 : Int32) [(.int (ch).toInt8.toInt32)] (.int (0 : Int32)) := Arv.set Ar2 q2 S2 M2 H2 G2 (fits_nar_byte _) W3 0 rfl (Nat.le_of_ble_eq_true rfl)
  refine own_go st3 ?_
  have K3 : Keep h0 h3 [] := K1.wr W3 (Or.inr (Nat.le_of_eq g1.symm))
  have N3 := Fr.snoc X3 N0 (Nat.le_trans Z0 (Nat.le_of_eq g1.symm))
  obtain ⟨fs4, hr4, hrun4, hended4, hW4, hsame4⟩ := X3.leave (v := some (.ref b1)) (fun h => by rw [Bd.returns] at h; cases h)
  refine ⟨_, _, ?_, hrun4, hended4, _, _, rfl, ?_, ⟨_, rfl⟩, hW4, hsame4.mono (by decide) (by decide)⟩
  · exact own_retA X3 hx Bd.returns rfl rfl rfl (hb hby d25_8) hr4
  · show Q_rmToB Z ch h0 n0 _ T3.heap _
    rw [e3]
    exact ⟨b1, k1, rfl, N3, K3, (Nat.le_of_eq g1.symm), B3⟩
theorem d26_0 : decode jdk_42_method_151_code 0 = .ok (.aload_n 0, 1) := by decide +kernel
theorem d26_1 : decode jdk_42_method_151_code 1 = .ok (.invokespecial 1, 3) := by decide +kernel
theorem d26_4 : decode jdk_42_method_151_code 4 = .ok (.aload_n 0, 1) := by decide +kernel
theorem d26_5 : decode jdk_42_method_151_code 5 = .ok (.aload_n 1, 1) := by decide +kernel
theorem d26_6 : decode jdk_42_method_151_code 6 = .ok (.putfield 9, 3) := by decide +kernel
theorem d26_9 : decode jdk_42_method_151_code 9 = .ok (.aload_n 0, 1) := by decide +kernel
theorem d26_10 : decode jdk_42_method_151_code 10 = .ok (.iload_n 2, 1) := by decide +kernel
theorem d26_11 : decode jdk_42_method_151_code 11 = .ok (.putfield 15, 3) := by decide +kernel
theorem d26_14 : decode jdk_42_method_151_code 14 = .ok (.return_, 1) := by decide +kernel
abbrev own_y2 : MethodName := ⟨"java/lang/String", "<init>", "([BB)V"⟩
theorem ef_rmSBB (m : MethodId) (a : Addr) (d : Addr) : entryFrame m #[(.ref a), (.ref d), (.int (0 : Int32))] 3 = mkF m 0 #[.val (.ref a), .val (.ref d), .val (.int (0 : Int32))] [] := by first | (simp [entryFrame, mkF, argsToLocals, Value.category]; done) | rfl
def Q_rmSBB (Z : State) (a : Addr) (d : Addr) (h0 : Heap) (n0 : Nat) (v_ : Option Value) (h_ : Heap) (L_ : List Loc) : Prop := v_ = none ∧ Fr n0 L_ ∧ Keep h0 h_ [a] ∧ Fld Z h_ a "java/lang/String" "value" "[B" (.ref d) ∧ Fld Z h_ a "java/lang/String" "coder" "B" (.int (0 : Int32))
theorem pn_1 : plainName "java/lang/String" = true := by first | (simp [plainName, overriddenIn]; done) | decide +kernel
set_option maxRecDepth 65536 in
set_option maxHeartbeats 40000000 in
theorem rmSBB (l : Launch) (Z : State) (a0 : Array Value) (hw : ∀ d ∈ tables_1, d.before a0 Z = true) (ws : List Jvm.Cond) (a : Addr) (d : Addr) (h0 : Heap) (n0 : Nat) (Z0 : n0 ≤ h0.size) (u0 : Exa Z h0 a "java/lang/String") (u1 : Fld Z h0 a "java/lang/String" "value" "[B" .null) (u2 : Fld Z h0 a "java/lang/String" "coder" "B" (.int (0 : Int32))) (u3 : n0 ≤ a) :
    MetFree l own_y2 (head1 (Jvm.Cond.code own_y2 jdk_42_method_151_code 3 none :: ws) ({ frames := 1, cells := 0, slots := 0, locals := 12 } : Room)) (fun a_ U_ => a_ = #[(.ref a), (.ref d), (.int (0 : Int32))] ∧ Z.Warmed39 U_.vm ∧ U_.heap = h0) (fun _ _ _ _ _ => True) (fun _ U_ o_ U2_ => ∃ v_ L_, o_ = .returned v_ ∧ Q_rmSBB Z a d h0 n0 v_ U2_.heap L_ ∧ FrameEnd U_ o_ U2_ L_ ({ frames := 1, cells := 0, slots := 0, locals := 12 } : Room).cells ({ frames := 1, cells := 0, slots := 0, locals := 12 } : Room).slots) := by
  refine MetFree.of_bodySF (plainFor_of_name pn_1) hisR ?_
  intro p e s m args below meth c s₁ Bd hml0 hP hK
  obtain ⟨rfl, hZ, hh⟩ := hP
  have hx := Bd.exec
  have hby := Bd.bytes
  have hml : c.maxLocals = 3 := hml0
  have hown : s.vm.findClass "java/lang/String" = some m.cls := findClass_of_methodNamed Bd.named
  have hnm := (name_of_methodNamed Bd.named Bd.method).1
  have X0 : Stand p l e ({ frames := 1, cells := 0, slots := 0, locals := 12 } : Room) s m #[(.ref a), (.ref d), (.int (0 : Int32))] below meth c s₁ [] 0 0 := Stand.of_body Bd
  have e0 : s₁.heap = h0 := by rw [← hh, Bd.state]; rfl
  have N0 := Fr.nil n0
  refine own_go (A := s₁.setTop (mkF m 0 #[.val (.ref a), .val (.ref d), .val (.int (0 : Int32))] [])) (fun t_ k_ => castTop (ef_rmSBB m a d) k_) ?_
  refine own_go (A := s₁.setTop (mkF m 1 #[.val (.ref a), .val (.ref d), .val (.int (0 : Int32))] [(.ref a)])) (fun t_ k_ => ?_) ?_
  · show Steps p.tables e below (s₁.setTop (mkF m 0 #[.val (.ref a), .val (.ref d), .val (.int (0 : Int32))] [])) t_
    refine XS.aloadN X0.here hx rfl (hb hby d26_0) rfl rfl ?_
    exact k_
  obtain ⟨T1, X1, e1, st1⟩ := initO X0 hx hZ hown (own_w hw 120 rfl) (own_w hw 19 rfl) (own_w hw 20 rfl) e0 (g := (mkF m 1 #[.val (.ref a), .val (.ref d), .val (.int (0 : Int32))] [(.ref a)])) rfl (by rw [hml]; rfl) rfl (hb hby d26_1) (by decide) (W := 0) (by show 2 * 0 + _ ≤ _; exact Nat.le_of_eq rfl) (by decide)
  refine own_go st1 ?_
  refine own_go (A := T1.setTop (mkF m 6 #[.val (.ref a), .val (.ref d), .val (.int (0 : Int32))] [(.ref d), (.ref a)])) (fun t_ k_ => ?_) ?_
  · show Steps p.tables e below (T1.setTop (mkF m 4 #[.val (.ref a), .val (.ref d), .val (.int (0 : Int32))] [])) t_
    refine XS.aloadN X1.here hx rfl (hb hby d26_4) rfl rfl ?_
    show Steps p.tables e below (T1.setTop (mkF m 5 #[.val (.ref a), .val (.ref d), .val (.int (0 : Int32))] [(.ref a)])) t_
    refine XS.aloadN X1.here hx rfl (hb hby d26_5) rfl rfl ?_
    exact k_
  obtain ⟨T2, h2, X2, e2, W2, st2⟩ := putF X1 hx hZ hown (host := "") (Or.inl (own_w hw 135 rfl)) Via.refl e1 u1 u0 (Or.inr ⟨(own_w hw 136 rfl), rfl, hnm⟩) (own_w hw 111 rfl) (ty := (.array .byte)) (by decide) rfl rfl (g := (mkF m 6 #[.val (.ref a), .val (.ref d), .val (.int (0 : Int32))] [(.ref d), (.ref a)])) rfl rfl (hb hby d26_6)
  have Fw2 : Fld Z h2 a "java/lang/String" "value" "[B" (.ref d) := u1.same W2
  refine own_go st2 ?_
  have K2 : Keep h0 h2 [a] := (Keep.refl h0 [a]).wr W2 (Or.inl (List.mem_of_getElem? (i := 0) rfl))
  have N2 := Fr.snoc X2 N0 u3
  refine own_go (A := T2.setTop (mkF m 11 #[.val (.ref a), .val (.ref d), .val (.int (0 : Int32))] [(.int (0 : Int32)), (.ref a)])) (fun t_ k_ => ?_) ?_
  · show Steps p.tables e below (T2.setTop (mkF m 9 #[.val (.ref a), .val (.ref d), .val (.int (0 : Int32))] [])) t_
    refine XS.aloadN X2.here hx rfl (hb hby d26_9) rfl rfl ?_
    show Steps p.tables e below (T2.setTop (mkF m 10 #[.val (.ref a), .val (.ref d), .val (.int (0 : Int32))] [(.ref a)])) t_
    refine XS.iloadN X2.here hx rfl (hb hby d26_10) rfl ?_
    exact k_
  obtain ⟨T3, h3, X3, e3, W3, st3⟩ := putFN X2 hx hZ hown (own_w hw 133 rfl) Via.refl e2 (u2.other W2 (Or.inr (slot_ne (Or.inr (own_w hw 134 rfl)) (Or.inr (own_w hw 136 rfl)) (by decide) (t := .byte) (t' := (.array .byte)) (by decide) (by decide)))) (u0.wr W2) (Or.inr ⟨(own_w hw 134 rfl), rfl, hnm⟩) (own_w hw 111 rfl) (ty := .byte) (v' := (.int (0 : Int32))) (by decide) rfl rfl (g := (mkF m 11 #[.val (.ref a), .val (.ref d), .val (.int (0 : Int32))] [(.int (0 : Int32)), (.ref a)])) rfl rfl (hb hby d26_11)
  have Fw3 : Fld Z h3 a "java/lang/String" "coder" "B" (.int (0 : Int32)) := (u2.other W2 (Or.inr (slot_ne (Or.inr (own_w hw 134 rfl)) (Or.inr (own_w hw 136 rfl)) (by decide) (t := .byte) (t' := (.array .byte)) (by decide) (by decide)))).same W3
  refine own_go st3 ?_
  have K3 : Keep h0 h3 [a] := K2.wr W3 (Or.inl (List.mem_of_getElem? (i := 0) rfl))
  have N3 := Fr.snoc X3 N2 u3
  obtain ⟨fs4, hr4, hrun4, hended4, hW4, hsame4⟩ := X3.leave (v := none) (fun _ => rfl)
  refine ⟨_, _, ?_, hrun4, hended4, _, _, rfl, ?_, ⟨_, rfl⟩, hW4, hsame4.mono (by decide) (by decide)⟩
  · exact X3.returnOut hx Bd.returns (hb hby d26_14) hr4
  · show Q_rmSBB Z a d h0 n0 _ T3.heap _
    rw [e3]
    exact ⟨rfl, N3, K3, (Fw2.other W3 (Or.inr (slot_ne (Or.inr (own_w hw 136 rfl)) (Or.inr (own_w hw 134 rfl)) (by decide) (t := (.array .byte)) (t' := .byte) (by decide) (by decide)))), Fw3⟩
theorem d23_0 : decode jdk_42_method_139_code 0 = .ok (.getstatic 38, 3) := by decide +kernel
theorem d23_3 : decode jdk_42_method_139_code 3 = .ok (.ifCond .eq 23, 3) := by decide +kernel
theorem d23_6 : decode jdk_42_method_139_code 6 = .ok (.iload_n 0, 1) := by decide +kernel
theorem pd_0 : parseMethodDescriptor "(C)Z" = some ⟨[.char], some .boolean⟩ := by decide +kernel
theorem d23_7 : decode jdk_42_method_139_code 7 = .ok (.invokestatic 1015, 3) := by decide +kernel
theorem d23_10 : decode jdk_42_method_139_code 10 = .ok (.ifCond .eq 16, 3) := by decide +kernel
theorem d23_13 : decode jdk_42_method_139_code 13 = .ok (.new 10, 3) := by decide +kernel
theorem d23_16 : decode jdk_42_method_139_code 16 = .ok (.dup, 1) := by decide +kernel
theorem d23_17 : decode jdk_42_method_139_code 17 = .ok (.iload_n 0, 1) := by decide +kernel
theorem pd_1 : parseMethodDescriptor "(C)[B" = some ⟨[.char], some (.array .byte)⟩ := by decide +kernel
theorem d23_18 : decode jdk_42_method_139_code 18 = .ok (.invokestatic 1018, 3) := by decide +kernel
theorem d23_21 : decode jdk_42_method_139_code 21 = .ok (.iconst 0, 1) := by decide +kernel
theorem pd_2 : parseMethodDescriptor "([BB)V" = some ⟨[(.array .byte), .byte], none⟩ := by decide +kernel
theorem d23_22 : decode jdk_42_method_139_code 22 = .ok (.invokespecial 209, 3) := by decide +kernel
theorem d23_25 : decode jdk_42_method_139_code 25 = .ok (.areturn, 1) := by decide +kernel
abbrev own_y3 : MethodName := ⟨"java/lang/String", "valueOf", "(C)Ljava/lang/String;"⟩
theorem ef_rmValOf (m : MethodId) (ch : Int32) : entryFrame m #[(.int ch)] 1 = mkF m 0 #[.val (.int ch)] [] := by first | (simp [entryFrame, mkF, argsToLocals, Value.category]; done) | rfl
def Q_rmValOf (Z : State) (ch : Int32) (cs : Int32) (h0 : Heap) (n0 : Nat) (v_ : Option Value) (h_ : Heap) (L_ : List Loc) : Prop := ∃ b : Addr, ∃ d : Addr, ∃ k : ClassId, v_ = some (.ref b) ∧ Fr n0 L_ ∧ Keep h0 h_ [] ∧ h0.size ≤ b ∧ h0.size ≤ d ∧ Exa Z h_ b "java/lang/String" ∧ Fld Z h_ b "java/lang/String" "value" "[B" (.ref d) ∧ Fld Z h_ b "java/lang/String" "coder" "B" (.int (0 : Int32)) ∧ Arv Z h_ d k .byte (1 : Int32) [(.int (ch).toInt8.toInt32)] (.int (0 : Int32))
set_option maxRecDepth 65536 in
set_option maxHeartbeats 40000000 in
theorem rmValOf (l : Launch) (Z : State) (a0 : Array Value) (hw : ∀ d ∈ tables_1, d.before a0 Z = true) (ws : List Jvm.Cond) (ch : Int32) (cs : Int32) (h0 : Heap) (n0 : Nat) (Z0 : n0 ≤ h0.size) (O0 : Old Z n0 h0) (u1 : Sta Z Z.heap "java/lang/String" "COMPACT_STRINGS" "Z" (.int cs)) (hcs : ¬ (cs = (0 : Int32))) (hch : ¬ ((255 : Int32) < ch)) :
    MetFree l own_y3 (head1 (Jvm.Cond.code own_y3 jdk_42_method_139_code 1 (some (.object "java/lang/String")) :: ws) ({ frames := 2, cells := 2, slots := 5, locals := 27 } : Room)) (fun a_ U_ => a_ = #[(.int ch)] ∧ Z.Warmed39 U_.vm ∧ U_.heap = h0) (fun _ _ _ _ _ => True) (fun _ U_ o_ U2_ => ∃ v_ L_, o_ = .returned v_ ∧ Q_rmValOf Z ch cs h0 n0 v_ U2_.heap L_ ∧ FrameEnd U_ o_ U2_ L_ ({ frames := 2, cells := 2, slots := 5, locals := 27 } : Room).cells ({ frames := 2, cells := 2, slots := 5, locals := 27 } : Room).slots) := by
  refine MetFree.of_bodySF (plainFor_of_name pn_1) hisR ?_
  intro p e s m args below meth c s₁ Bd hml0 hP hK
  obtain ⟨rfl, hZ, hh⟩ := hP
  have hx := Bd.exec
  have hby := Bd.bytes
  have hml : c.maxLocals = 1 := hml0
  have hown : s.vm.findClass "java/lang/String" = some m.cls := findClass_of_methodNamed Bd.named
  have hnm := (name_of_methodNamed Bd.named Bd.method).1
  have X0 : Stand p l e ({ frames := 2, cells := 2, slots := 5, locals := 27 } : Room) s m #[(.int ch)] below meth c s₁ [] 0 0 := Stand.of_body Bd
  have e0 : s₁.heap = h0 := by rw [← hh, Bd.state]; rfl
  have N0 := Fr.nil n0
  refine own_go (A := s₁.setTop (mkF m 0 #[.val (.int ch)] [])) (fun t_ k_ => castTop (ef_rmValOf m ch) k_) ?_
  obtain ⟨T1, X1, e1, st1⟩ := getS2 X0 hx hZ hown (host := "") (Or.inl (own_w hw 121 rfl)) Via.refl e0 (u1.ext O0.2) (g := (mkF m 0 #[.val (.int ch)] [])) rfl (hb hby d23_0)
  refine own_go st1 ?_
  refine own_go (A := T1.setTop (mkF m 7 #[.val (.int ch)] [(.int ch)])) (fun t_ k_ => ?_) ?_
  · show Steps p.tables e below (T1.setTop (mkF m 3 #[.val (.int ch)] [(.int cs)])) t_
    refine XS.ifNo X1.here hx rfl (hb hby d23_3) rfl ((if0 _ _).trans (feq hcs).1) ?_
    show Steps p.tables e below (T1.setTop (mkF m 6 #[.val (.int ch)] [])) t_
    refine XS.iloadN X1.here hx rfl (hb hby d23_6) rfl ?_
    exact k_
  obtain ⟨_, _, ⟨T2, L2, k2, n2⟩, -, X2, ⟨Lc2, hQ2, l2, y2, z2⟩, st2⟩ := Jvm.LawKit.callS X1 hx (y := own_y0) hown (mvT hZ (own_w hw 143 rfl)) (mvT hZ (own_w hw 144 rfl)) (mvT hZ (own_w hw 145 rfl)) (mvT hZ (own_w hw 146 rfl)) (by decide) (backOf (W := 0) (rmCan l Z a0 hw [] ch h0 n0 Z0 hch) hZ (own_w hw 146 rfl) (own_w hw 145 rfl) (by decide) (by decide)) (g := (mkF m 7 #[.val (.int ch)] [(.int ch)])) rfl (by rw [hml]; rfl) (argsL := [(.int ch)]) (rest := []) (lenOf pd_0 rfl) rfl (by show 2 * 0 + _ ≤ _; exact Nat.le_of_eq rfl) (hb hby d23_7) (fun _ _ => ⟨rfl, e1, (by decide : 0 + 0 ≤ _), (by decide : 0 + 0 ≤ _)⟩)
  dsimp only [Pt.U, Pt.locs, Pt.cells, Pt.slots] at X2 l2 y2 z2 st2 hQ2
  subst l2 y2 z2
  obtain ⟨rfl, N2q, eh2⟩ := hQ2
  have N2 := Fr.app N0 N2q
  refine own_go st2 ?_
  refine own_go (A := T2.setTop (mkF m 13 #[.val (.int ch)] [])) (fun t_ k_ => ?_) ?_
  · show Steps p.tables e below (T2.setTop (mkF m 10 #[.val (.int ch)] [(.int (1 : Int32))])) t_
    refine XS.ifNo X2.here hx rfl (hb hby d23_10) rfl ((if0 _ _).trans (feq (by decide : ¬ ((1 : Int32) = (0 : Int32)))).1) ?_
    exact k_
  obtain ⟨T3, h3, X3, e3, E3, A3, D3, -, st3⟩ := newO X2 hx hZ hown (own_w hw 147 rfl) (own_w hw 111 rfl) (own_w hw 112 rfl) eh2 (g := (mkF m 13 #[.val (.int ch)] [])) rfl (hb hby d23_13) (by decide) (by decide)
  obtain ⟨b3, g3⟩ : ∃ z, z = h0.size := ⟨_, rfl⟩
  rw [← g3] at A3 D3 st3
  refine own_go st3 ?_
  have K3 : Keep h0 h3 [] := (Keep.refl h0 []).ext E3
  have O3 := O0.ext E3
  have F3_coder : Fld Z h3 b3 "java/lang/String" "coder" "B" (.int (0 : Int32)) := D3 (Or.inr (own_w hw 134 rfl)) (ty := .byte) (by decide)
  have F3_value : Fld Z h3 b3 "java/lang/String" "value" "[B" .null := D3 (Or.inr (own_w hw 136 rfl)) (ty := (.array .byte)) (by decide)
  refine own_go (A := T3.setTop (mkF m 18 #[.val (.int ch)] [(.int ch), (.ref b3), (.ref b3)])) (fun t_ k_ => ?_) ?_
  · show Steps p.tables e below (T3.setTop (mkF m 16 #[.val (.int ch)] [(.ref b3)])) t_
    refine XS.dup X3.here hx rfl (hb hby d23_16) rfl rfl ?_
    show Steps p.tables e below (T3.setTop (mkF m 17 #[.val (.int ch)] [(.ref b3), (.ref b3)])) t_
    refine XS.iloadN X3.here hx rfl (hb hby d23_17) rfl ?_
    exact k_
  obtain ⟨_, _, ⟨T4, L4, k4, n4⟩, -, X4, ⟨Lc4, hQ4, l4, y4, z4⟩, st4⟩ := Jvm.LawKit.callS X3 hx (y := own_y1) hown (mvT hZ (own_w hw 148 rfl)) (mvT hZ (own_w hw 149 rfl)) (mvT hZ (own_w hw 145 rfl)) (mvT hZ (own_w hw 150 rfl)) (by decide) (backOf (W := 2) (rmToB l Z a0 hw [] ch h3 n0 (Nat.le_trans Z0 K3.1)) hZ (own_w hw 150 rfl) (own_w hw 145 rfl) (by decide) (by decide)) (g := (mkF m 18 #[.val (.int ch)] [(.int ch), (.ref b3), (.ref b3)])) rfl (by rw [hml]; rfl) (argsL := [(.int ch)]) (rest := [(.ref b3), (.ref b3)]) (lenOf pd_1 rfl) rfl (by show 2 * 0 + _ ≤ _; exact Nat.le_of_eq rfl) (hb hby d23_18) (fun _ _ => ⟨rfl, e3, (by decide : 1 + 1 ≤ _), (by decide : 4 + 1 ≤ _)⟩)
  dsimp only [Pt.U, Pt.locs, Pt.cells, Pt.slots] at X4 l4 y4 z4 st4 hQ4
  subst l4 y4 z4
  obtain ⟨d_4, k_4, rfl, N4q, Kc4, r4_0, r4_1⟩ := hQ4
  have N4 := Fr.app N2 N4q
  refine own_go st4 ?_
  have K4 : Keep h0 T4.heap [] := K3.trans Kc4 all0
  have O4 := O3.keep Kc4 all0
  refine own_go (A := T4.setTop (mkF m 22 #[.val (.int ch)] [(.int (0 : Int32)), (.ref d_4), (.ref b3), (.ref b3)])) (fun t_ k_ => ?_) ?_
  · show Steps p.tables e below (T4.setTop (mkF m 21 #[.val (.int ch)] [(.ref d_4), (.ref b3), (.ref b3)])) t_
    refine XS.iconst X4.here hx rfl (hb hby d23_21) ?_
    exact k_
  obtain ⟨_, _, ⟨T5, L5, k5, n5⟩, -, X5, ⟨Lc5, hQ5, l5, y5, z5⟩, st5⟩ := X4.specialBack hx (y := own_y2) rfl hown (mvT hZ (own_w hw 151 rfl)) (mvT hZ (own_w hw 152 rfl)) (mvT hZ (own_w hw 153 rfl)) (by decide) (backOf (W := 1) (rmSBB l Z a0 hw [] b3 d_4 T4.heap n0 (Nat.le_trans Z0 K4.1) (A3.keep Kc4) (F3_value.keep Kc4 nin0) (F3_coder.keep Kc4 nin0) (Nat.le_trans Z0 (Nat.le_of_eq g3.symm))) hZ (own_w hw 153 rfl) (own_w hw 112 rfl) (by decide) (by decide)) (g := (mkF m 22 #[.val (.int ch)] [(.int (0 : Int32)), (.ref d_4), (.ref b3), (.ref b3)])) rfl (by rw [hml]; rfl) (Steps.refl _) (a := b3) (argsL := [(.ref d_4), (.int (0 : Int32))]) (rest := [(.ref b3)]) (lenOf pd_2 rfl) rfl (by show 2 * 0 + _ ≤ _; exact Nat.le_of_eq rfl) (hb hby d23_22) (fun _ _ => ⟨rfl, rfl, (by decide : 2 + 0 ≤ _), (by decide : 5 + 0 ≤ _)⟩)
  dsimp only [Pt.U, Pt.locs, Pt.cells, Pt.slots] at X5 l5 y5 z5 st5 hQ5
  subst l5 y5 z5
  obtain ⟨rfl, N5q, Kc5, r5_0, r5_1⟩ := hQ5
  have N5 := Fr.app N4 N5q
  refine own_via st5 ?_
  have K5 : Keep h0 T5.heap [] := K4.trans Kc5 (allS (P := fun x => x ∈ _ ∨ _ ≤ x) (Or.inr (Nat.le_of_eq g3.symm)) all0)
  have O5 := O4.keep Kc5 (allS (P := fun x => n0 ≤ x) (Nat.le_trans Z0 (Nat.le_of_eq g3.symm)) all0)
  obtain ⟨fs6, hr6, hrun6, hended6, hW6, hsame6⟩ := X5.leave (v := some (.ref b3)) (fun h => by rw [Bd.returns] at h; cases h)
  refine ⟨_, _, ?_, hrun6, hended6, _, _, rfl, ?_, ⟨_, rfl⟩, hW6, hsame6.mono (by decide) (by decide)⟩
  · exact own_retA X5 hx Bd.returns rfl rfl rfl (hb hby d23_25) hr6
  · show Q_rmValOf Z ch cs h0 n0 _ T5.heap _
    exact ⟨b3, d_4, k_4, rfl, N5, K5, (Nat.le_of_eq g3.symm), (Nat.le_trans K3.1 r4_0), ((A3.keep Kc4).keep Kc5), r5_0, r5_1, (r4_1.keep Kc5 (ninS (Ne.symm (Nat.ne_of_lt (Nat.lt_of_lt_of_le A3.lt r4_0))) nin0))⟩
theorem d21_0 : decode jdk_52_method_21_code 0 = .ok (.iconst 0, 1) := by decide +kernel
theorem d21_1 : decode jdk_52_method_21_code 1 = .ok (.istore 5, 2) := by decide +kernel
theorem d21_3 : decode jdk_52_method_21_code 3 = .ok (.iload 5, 2) := by decide +kernel
theorem d21_5 : decode jdk_52_method_21_code 5 = .ok (.iload 4, 2) := by decide +kernel
theorem d21_7 : decode jdk_52_method_21_code 7 = .ok (.if_icmp .ge 37, 3) := by decide +kernel
theorem d21_10 : decode jdk_52_method_21_code 10 = .ok (.aload_n 0, 1) := by decide +kernel
theorem d21_11 : decode jdk_52_method_21_code 11 = .ok (.iload_n 1, 1) := by decide +kernel
theorem d21_12 : decode jdk_52_method_21_code 12 = .ok (.caload, 1) := by decide +kernel
theorem d21_13 : decode jdk_52_method_21_code 13 = .ok (.istore 6, 2) := by decide +kernel
theorem d21_15 : decode jdk_52_method_21_code 15 = .ok (.iload 6, 2) := by decide +kernel
theorem d21_17 : decode jdk_52_method_21_code 17 = .ok (.sipush 255, 3) := by decide +kernel
theorem d21_20 : decode jdk_52_method_21_code 20 = .ok (.if_icmp .le 6, 3) := by decide +kernel
theorem d21_26 : decode jdk_52_method_21_code 26 = .ok (.aload_n 2, 1) := by decide +kernel
theorem d21_27 : decode jdk_52_method_21_code 27 = .ok (.iload_n 3, 1) := by decide +kernel
theorem d21_28 : decode jdk_52_method_21_code 28 = .ok (.iload 6, 2) := by decide +kernel
theorem d21_30 : decode jdk_52_method_21_code 30 = .ok (.i2b, 1) := by decide +kernel
theorem d21_31 : decode jdk_52_method_21_code 31 = .ok (.bastore, 1) := by decide +kernel
theorem d21_32 : decode jdk_52_method_21_code 32 = .ok (.iinc 1 1, 3) := by decide +kernel
theorem d21_35 : decode jdk_52_method_21_code 35 = .ok (.iinc 3 1, 3) := by decide +kernel
theorem d21_38 : decode jdk_52_method_21_code 38 = .ok (.iinc 5 1, 3) := by decide +kernel
theorem d21_41 : decode jdk_52_method_21_code 41 = .ok (.goto (-38), 3) := by decide +kernel
theorem d21_44 : decode jdk_52_method_21_code 44 = .ok (.iload 4, 2) := by decide +kernel
theorem d21_46 : decode jdk_52_method_21_code 46 = .ok (.ireturn, 1) := by decide +kernel
abbrev own_y4 : MethodName := ⟨"java/lang/StringUTF16", "compress", "([CI[BII)I"⟩
theorem ef_rmCmpL2 (m : MethodId) (sr : Addr) (ds : Addr) : entryFrame m #[(.ref sr), (.int (0 : Int32)), (.ref ds), (.int (0 : Int32)), (.int (2 : Int32))] 7 = mkF m 0 #[.val (.ref sr), .val (.int (0 : Int32)), .val (.ref ds), .val (.int (0 : Int32)), .val (.int (2 : Int32)), .unset, .unset] [] := by first | (simp [entryFrame, mkF, argsToLocals, Value.category]; done) | rfl
def Q_rmCmpL2 (Z : State) (sr : Addr) (ds : Addr) (kc : ClassId) (kb : ClassId) (ch0 : Int32) (ch1 : Int32) (h0 : Heap) (n0 : Nat) (v_ : Option Value) (h_ : Heap) (L_ : List Loc) : Prop := v_ = some (.int (2 : Int32)) ∧ Fr n0 L_ ∧ Keep h0 h_ [ds] ∧ Arv Z h_ ds kb .byte (2 : Int32) [(.int (ch0).toInt8.toInt32), (.int (ch1).toInt8.toInt32)] (.int (0 : Int32))
theorem pn_2 : plainName "java/lang/StringUTF16" = true := by first | (simp [plainName, overriddenIn]; done) | decide +kernel
set_option maxRecDepth 65536 in
set_option maxHeartbeats 40000000 in
theorem rmCmpL2 (l : Launch) (Z : State) (a0 : Array Value) (hw : ∀ d ∈ tables_1, d.before a0 Z = true) (ws : List Jvm.Cond) (sr : Addr) (ds : Addr) (kc : ClassId) (kb : ClassId) (ch0 : Int32) (ch1 : Int32) (h0 : Heap) (n0 : Nat) (Z0 : n0 ≤ h0.size) (u0 : Arv Z h0 sr kc .char (2 : Int32) [(.int ch0), (.int ch1)] (.int (0 : Int32))) (u1 : Arv Z h0 ds kb .byte (2 : Int32) [(.int (0 : Int32)), (.int (0 : Int32))] (.int (0 : Int32))) (u2 : n0 ≤ ds) (u3 : sr ≠ ds) (hch0 : ¬ ((255 : Int32) < ch0)) (hch1 : ¬ ((255 : Int32) < ch1)) :
    MetFree l own_y4 (head1 (Jvm.Cond.code own_y4 jdk_52_method_21_code 7 (some .int) :: ws) ({ frames := 0, cells := 0, slots := 0, locals := 0 } : Room)) (fun a_ U_ => a_ = #[(.ref sr), (.int (0 : Int32)), (.ref ds), (.int (0 : Int32)), (.int (2 : Int32))] ∧ Z.Warmed39 U_.vm ∧ U_.heap = h0) (fun _ _ _ _ _ => True) (fun _ U_ o_ U2_ => ∃ v_ L_, o_ = .returned v_ ∧ Q_rmCmpL2 Z sr ds kc kb ch0 ch1 h0 n0 v_ U2_.heap L_ ∧ FrameEnd U_ o_ U2_ L_ ({ frames := 0, cells := 0, slots := 0, locals := 0 } : Room).cells ({ frames := 0, cells := 0, slots := 0, locals := 0 } : Room).slots) := by
  refine MetFree.of_bodySF (plainFor_of_name pn_2) hisR ?_
  intro p e s m args below meth c s₁ Bd hml0 hP hK
  obtain ⟨rfl, hZ, hh⟩ := hP
  have hx := Bd.exec
  have hby := Bd.bytes
  have hml : c.maxLocals = 7 := hml0
  have hown : s.vm.findClass "java/lang/StringUTF16" = some m.cls := findClass_of_methodNamed Bd.named
  have hnm := (name_of_methodNamed Bd.named Bd.method).1
  have X0 : Stand p l e ({ frames := 0, cells := 0, slots := 0, locals := 0 } : Room) s m #[(.ref sr), (.int (0 : Int32)), (.ref ds), (.int (0 : Int32)), (.int (2 : Int32))] below meth c s₁ [] 0 0 := Stand.of_body Bd
  have e0 : s₁.heap = h0 := by rw [← hh, Bd.state]; rfl
  have N0 := Fr.nil n0
  refine own_go (A := s₁.setTop (mkF m 0 #[.val (.ref sr), .val (.int (0 : Int32)), .val (.ref ds), .val (.int (0 : Int32)), .val (.int (2 : Int32)), .unset, .unset] [])) (fun t_ k_ => castTop (ef_rmCmpL2 m sr ds) k_) ?_
  obtain ⟨cl1, Ar1, q1, S1, M1, H1, G1⟩ := id u0
  have hin1 : ¬ ((0 : Int32) < 0 ∨ cl1.slots.size ≤ ((0 : Int32)).toNatClampNeg) := inb_of S1 ⟨by decide, by decide⟩
  have hat1 : cl1.slots[((0 : Int32)).toNatClampNeg]? = some (.int ch0) := Has.at H1 hin1 rfl
  refine own_go (A := s₁.setTop (mkF m 31 #[.val (.ref sr), .val (.int (0 : Int32)), .val (.ref ds), .val (.int (0 : Int32)), .val (.int (2 : Int32)), .val (.int (0 : Int32)), .val (.int ch0)] [(.int (ch0).toInt8.toInt32), (.int (0 : Int32)), (.ref ds)])) (fun t_ k_ => ?_) ?_
  · show Steps p.tables e below (s₁.setTop (mkF m 0 #[.val (.ref sr), .val (.int (0 : Int32)), .val (.ref ds), .val (.int (0 : Int32)), .val (.int (2 : Int32)), .unset, .unset] [])) t_
    refine XS.iconst X0.here hx rfl (hb hby d21_0) ?_
    show Steps p.tables e below (s₁.setTop (mkF m 1 #[.val (.ref sr), .val (.int (0 : Int32)), .val (.ref ds), .val (.int (0 : Int32)), .val (.int (2 : Int32)), .unset, .unset] [(.int (0 : Int32))])) t_
    refine XS.istore X0.here hx rfl (hb hby d21_1) rfl (l' := #[.val (.ref sr), .val (.int (0 : Int32)), .val (.ref ds), .val (.int (0 : Int32)), .val (.int (2 : Int32)), .val (.int (0 : Int32)), .unset]) rfl ?_
    show Steps p.tables e below (s₁.setTop (mkF m 3 #[.val (.ref sr), .val (.int (0 : Int32)), .val (.ref ds), .val (.int (0 : Int32)), .val (.int (2 : Int32)), .val (.int (0 : Int32)), .unset] [])) t_
    refine XS.iload X0.here hx rfl (hb hby d21_3) rfl ?_
    show Steps p.tables e below (s₁.setTop (mkF m 5 #[.val (.ref sr), .val (.int (0 : Int32)), .val (.ref ds), .val (.int (0 : Int32)), .val (.int (2 : Int32)), .val (.int (0 : Int32)), .unset] [(.int (0 : Int32))])) t_
    refine XS.iload X0.here hx rfl (hb hby d21_5) rfl ?_
    show Steps p.tables e below (s₁.setTop (mkF m 7 #[.val (.ref sr), .val (.int (0 : Int32)), .val (.ref ds), .val (.int (0 : Int32)), .val (.int (2 : Int32)), .val (.int (0 : Int32)), .unset] [(.int (2 : Int32)), (.int (0 : Int32))])) t_
    refine XS.icmpNo X0.here hx rfl (hb hby d21_7) rfl (tlt (by decide : (0 : Int32) < (2 : Int32))).2.1 ?_
    show Steps p.tables e below (s₁.setTop (mkF m 10 #[.val (.ref sr), .val (.int (0 : Int32)), .val (.ref ds), .val (.int (0 : Int32)), .val (.int (2 : Int32)), .val (.int (0 : Int32)), .unset] [])) t_
    refine XS.aloadN X0.here hx rfl (hb hby d21_10) rfl rfl ?_
    show Steps p.tables e below (s₁.setTop (mkF m 11 #[.val (.ref sr), .val (.int (0 : Int32)), .val (.ref ds), .val (.int (0 : Int32)), .val (.int (2 : Int32)), .val (.int (0 : Int32)), .unset] [(.ref sr)])) t_
    refine XS.iloadN X0.here hx rfl (hb hby d21_11) rfl ?_
    show Steps p.tables e below (s₁.setTop (mkF m 12 #[.val (.ref sr), .val (.int (0 : Int32)), .val (.ref ds), .val (.int (0 : Int32)), .val (.int (2 : Int32)), .val (.int (0 : Int32)), .unset] [(.int (0 : Int32)), (.ref sr)])) t_
    refine X0.caload hx (j := (0 : Int32)) (v := (.int ch0)) (by rw [e0]; exact Ar1.1) (State.isArrayOf_alike hZ.alike Ar1.2.1) Ar1.2.2 hin1 hat1 (g := (mkF m 12 #[.val (.ref sr), .val (.int (0 : Int32)), .val (.ref ds), .val (.int (0 : Int32)), .val (.int (2 : Int32)), .val (.int (0 : Int32)), .unset] [(.int (0 : Int32)), (.ref sr)])) rfl rfl (hb hby d21_12) _ ?_
    show Steps p.tables e below (s₁.setTop (mkF m 13 #[.val (.ref sr), .val (.int (0 : Int32)), .val (.ref ds), .val (.int (0 : Int32)), .val (.int (2 : Int32)), .val (.int (0 : Int32)), .unset] [(.int ch0)])) t_
    refine XS.istore X0.here hx rfl (hb hby d21_13) rfl (l' := #[.val (.ref sr), .val (.int (0 : Int32)), .val (.ref ds), .val (.int (0 : Int32)), .val (.int (2 : Int32)), .val (.int (0 : Int32)), .val (.int ch0)]) rfl ?_
    show Steps p.tables e below (s₁.setTop (mkF m 15 #[.val (.ref sr), .val (.int (0 : Int32)), .val (.ref ds), .val (.int (0 : Int32)), .val (.int (2 : Int32)), .val (.int (0 : Int32)), .val (.int ch0)] [])) t_
    refine XS.iload X0.here hx rfl (hb hby d21_15) rfl ?_
    show Steps p.tables e below (s₁.setTop (mkF m 17 #[.val (.ref sr), .val (.int (0 : Int32)), .val (.ref ds), .val (.int (0 : Int32)), .val (.int (2 : Int32)), .val (.int (0 : Int32)), .val (.int ch0)] [(.int ch0)])) t_
    refine XS.sipush X0.here hx rfl (hb hby d21_17) ?_
    show Steps p.tables e below (s₁.setTop (mkF m 20 #[.val (.ref sr), .val (.int (0 : Int32)), .val (.ref ds), .val (.int (0 : Int32)), .val (.int (2 : Int32)), .val (.int (0 : Int32)), .val (.int ch0)] [(.int (255 : Int32)), (.int ch0)])) t_
    refine XS.icmpYes X0.here hx rfl (pc0 := 20) (pc' := 26) rfl (hb hby d21_20) rfl (flt hch0).2.2.2 (by decide) (by decide) ?_
    show Steps p.tables e below (s₁.setTop (mkF m 26 #[.val (.ref sr), .val (.int (0 : Int32)), .val (.ref ds), .val (.int (0 : Int32)), .val (.int (2 : Int32)), .val (.int (0 : Int32)), .val (.int ch0)] [])) t_
    refine XS.aloadN X0.here hx rfl (hb hby d21_26) rfl rfl ?_
    show Steps p.tables e below (s₁.setTop (mkF m 27 #[.val (.ref sr), .val (.int (0 : Int32)), .val (.ref ds), .val (.int (0 : Int32)), .val (.int (2 : Int32)), .val (.int (0 : Int32)), .val (.int ch0)] [(.ref ds)])) t_
    refine XS.iloadN X0.here hx rfl (hb hby d21_27) rfl ?_
    show Steps p.tables e below (s₁.setTop (mkF m 28 #[.val (.ref sr), .val (.int (0 : Int32)), .val (.ref ds), .val (.int (0 : Int32)), .val (.int (2 : Int32)), .val (.int (0 : Int32)), .val (.int ch0)] [(.int (0 : Int32)), (.ref ds)])) t_
    refine XS.iload X0.here hx rfl (hb hby d21_28) rfl ?_
    show Steps p.tables e below (s₁.setTop (mkF m 30 #[.val (.ref sr), .val (.int (0 : Int32)), .val (.ref ds), .val (.int (0 : Int32)), .val (.int (2 : Int32)), .val (.int (0 : Int32)), .val (.int ch0)] [(.int ch0), (.int (0 : Int32)), (.ref ds)])) t_
    refine XS.i2b X0.here hx rfl (hb hby d21_30) rfl ?_
    exact k_
  obtain ⟨cl2, Ar2, q2, S2, M2, H2, G2⟩ := id u1
  have hin2 : ¬ ((0 : Int32) < 0 ∨ cl2.slots.size ≤ ((0 : Int32)).toNatClampNeg) := inb_of S2 ⟨by decide, by decide⟩
  obtain ⟨T3, h3, X3, e3, W3, st3⟩ := stB X0 hx hZ e0 Ar2 (j := (0 : Int32)) hin2 (g := (mkF m 31 #[.val (.ref sr), .val (.int (0 : Int32)), .val (.ref ds), .val (.int (0 : Int32)), .val (.int (2 : Int32)), .val (.int (0 : Int32)), .val (.int ch0)] [(.int (ch0).toInt8.toInt32), (.int (0 : Int32)), (.ref ds)])) rfl rfl (hb hby d21_31)
  rw [own_narb] at W3
  have B3 : Arv Z h3 ds kb .byte (2 : Int32) [(.int (ch0).toInt8.toInt32), (.int (0 : Int32))] (.int (0 : Int32)) := Arv.set Ar2 q2 S2 M2 H2 G2 (fits_nar_byte _) W3 0 rfl (Nat.le_of_ble_eq_true rfl)
  refine own_go st3 ?_
  have K3 : Keep h0 h3 [ds] := (Keep.refl h0 [ds]).wr W3 (Or.inl (List.mem_of_getElem? (i := 0) rfl))
  have N3 := Fr.snoc X3 N0 u2
  obtain ⟨cl4, Ar4, q4, S4, M4, H4, G4⟩ := id (u0.other W3 u3)
  have hin4 : ¬ ((1 : Int32) < 0 ∨ cl4.slots.size ≤ ((1 : Int32)).toNatClampNeg) := inb_of S4 ⟨by decide, by decide⟩
  have hat4 : cl4.slots[((1 : Int32)).toNatClampNeg]? = some (.int ch1) := Has.at H4 hin4 rfl
  refine own_go (A := T3.setTop (mkF m 31 #[.val (.ref sr), .val (.int (1 : Int32)), .val (.ref ds), .val (.int (1 : Int32)), .val (.int (2 : Int32)), .val (.int (1 : Int32)), .val (.int ch1)] [(.int (ch1).toInt8.toInt32), (.int (1 : Int32)), (.ref ds)])) (fun t_ k_ => ?_) ?_
  · show Steps p.tables e below (T3.setTop (mkF m 32 #[.val (.ref sr), .val (.int (0 : Int32)), .val (.ref ds), .val (.int (0 : Int32)), .val (.int (2 : Int32)), .val (.int (0 : Int32)), .val (.int ch0)] [])) t_
    refine XS.iinc X3.here hx rfl (hb hby d21_32) rfl (l' := #[.val (.ref sr), .val (.int (1 : Int32)), .val (.ref ds), .val (.int (0 : Int32)), .val (.int (2 : Int32)), .val (.int (0 : Int32)), .val (.int ch0)]) rfl ?_
    show Steps p.tables e below (T3.setTop (mkF m 35 #[.val (.ref sr), .val (.int (1 : Int32)), .val (.ref ds), .val (.int (0 : Int32)), .val (.int (2 : Int32)), .val (.int (0 : Int32)), .val (.int ch0)] [])) t_
    refine XS.iinc X3.here hx rfl (hb hby d21_35) rfl (l' := #[.val (.ref sr), .val (.int (1 : Int32)), .val (.ref ds), .val (.int (1 : Int32)), .val (.int (2 : Int32)), .val (.int (0 : Int32)), .val (.int ch0)]) rfl ?_
    show Steps p.tables e below (T3.setTop (mkF m 38 #[.val (.ref sr), .val (.int (1 : Int32)), .val (.ref ds), .val (.int (1 : Int32)), .val (.int (2 : Int32)), .val (.int (0 : Int32)), .val (.int ch0)] [])) t_
    refine XS.iinc X3.here hx rfl (hb hby d21_38) rfl (l' := #[.val (.ref sr), .val (.int (1 : Int32)), .val (.ref ds), .val (.int (1 : Int32)), .val (.int (2 : Int32)), .val (.int (1 : Int32)), .val (.int ch0)]) rfl ?_
    show Steps p.tables e below (T3.setTop (mkF m 41 #[.val (.ref sr), .val (.int (1 : Int32)), .val (.ref ds), .val (.int (1 : Int32)), .val (.int (2 : Int32)), .val (.int (1 : Int32)), .val (.int ch0)] [])) t_
    refine XS.goto X3.here hx rfl (pc0 := 41) (pc' := 3) rfl (hb hby d21_41) (by decide) (by decide) ?_
    show Steps p.tables e below (T3.setTop (mkF m 3 #[.val (.ref sr), .val (.int (1 : Int32)), .val (.ref ds), .val (.int (1 : Int32)), .val (.int (2 : Int32)), .val (.int (1 : Int32)), .val (.int ch0)] [])) t_
    refine XS.iload X3.here hx rfl (hb hby d21_3) rfl ?_
    show Steps p.tables e below (T3.setTop (mkF m 5 #[.val (.ref sr), .val (.int (1 : Int32)), .val (.ref ds), .val (.int (1 : Int32)), .val (.int (2 : Int32)), .val (.int (1 : Int32)), .val (.int ch0)] [(.int (1 : Int32))])) t_
    refine XS.iload X3.here hx rfl (hb hby d21_5) rfl ?_
    show Steps p.tables e below (T3.setTop (mkF m 7 #[.val (.ref sr), .val (.int (1 : Int32)), .val (.ref ds), .val (.int (1 : Int32)), .val (.int (2 : Int32)), .val (.int (1 : Int32)), .val (.int ch0)] [(.int (2 : Int32)), (.int (1 : Int32))])) t_
    refine XS.icmpNo X3.here hx rfl (hb hby d21_7) rfl (tlt (by decide : (1 : Int32) < (2 : Int32))).2.1 ?_
    show Steps p.tables e below (T3.setTop (mkF m 10 #[.val (.ref sr), .val (.int (1 : Int32)), .val (.ref ds), .val (.int (1 : Int32)), .val (.int (2 : Int32)), .val (.int (1 : Int32)), .val (.int ch0)] [])) t_
    refine XS.aloadN X3.here hx rfl (hb hby d21_10) rfl rfl ?_
    show Steps p.tables e below (T3.setTop (mkF m 11 #[.val (.ref sr), .val (.int (1 : Int32)), .val (.ref ds), .val (.int (1 : Int32)), .val (.int (2 : Int32)), .val (.int (1 : Int32)), .val (.int ch0)] [(.ref sr)])) t_
    refine XS.iloadN X3.here hx rfl (hb hby d21_11) rfl ?_
    show Steps p.tables e below (T3.setTop (mkF m 12 #[.val (.ref sr), .val (.int (1 : Int32)), .val (.ref ds), .val (.int (1 : Int32)), .val (.int (2 : Int32)), .val (.int (1 : Int32)), .val (.int ch0)] [(.int (1 : Int32)), (.ref sr)])) t_
    refine X3.caload hx (j := (1 : Int32)) (v := (.int ch1)) (by rw [e3]; exact Ar4.1) (State.isArrayOf_alike hZ.alike Ar4.2.1) Ar4.2.2 hin4 hat4 (g := (mkF m 12 #[.val (.ref sr), .val (.int (1 : Int32)), .val (.ref ds), .val (.int (1 : Int32)), .val (.int (2 : Int32)), .val (.int (1 : Int32)), .val (.int ch0)] [(.int (1 : Int32)), (.ref sr)])) rfl rfl (hb hby d21_12) _ ?_
    show Steps p.tables e below (T3.setTop (mkF m 13 #[.val (.ref sr), .val (.int (1 : Int32)), .val (.ref ds), .val (.int (1 : Int32)), .val (.int (2 : Int32)), .val (.int (1 : Int32)), .val (.int ch0)] [(.int ch1)])) t_
    refine XS.istore X3.here hx rfl (hb hby d21_13) rfl (l' := #[.val (.ref sr), .val (.int (1 : Int32)), .val (.ref ds), .val (.int (1 : Int32)), .val (.int (2 : Int32)), .val (.int (1 : Int32)), .val (.int ch1)]) rfl ?_
    show Steps p.tables e below (T3.setTop (mkF m 15 #[.val (.ref sr), .val (.int (1 : Int32)), .val (.ref ds), .val (.int (1 : Int32)), .val (.int (2 : Int32)), .val (.int (1 : Int32)), .val (.int ch1)] [])) t_
    refine XS.iload X3.here hx rfl (hb hby d21_15) rfl ?_
    show Steps p.tables e below (T3.setTop (mkF m 17 #[.val (.ref sr), .val (.int (1 : Int32)), .val (.ref ds), .val (.int (1 : Int32)), .val (.int (2 : Int32)), .val (.int (1 : Int32)), .val (.int ch1)] [(.int ch1)])) t_
    refine XS.sipush X3.here hx rfl (hb hby d21_17) ?_
    show Steps p.tables e below (T3.setTop (mkF m 20 #[.val (.ref sr), .val (.int (1 : Int32)), .val (.ref ds), .val (.int (1 : Int32)), .val (.int (2 : Int32)), .val (.int (1 : Int32)), .val (.int ch1)] [(.int (255 : Int32)), (.int ch1)])) t_
    refine XS.icmpYes X3.here hx rfl (pc0 := 20) (pc' := 26) rfl (hb hby d21_20) rfl (flt hch1).2.2.2 (by decide) (by decide) ?_
    show Steps p.tables e below (T3.setTop (mkF m 26 #[.val (.ref sr), .val (.int (1 : Int32)), .val (.ref ds), .val (.int (1 : Int32)), .val (.int (2 : Int32)), .val (.int (1 : Int32)), .val (.int ch1)] [])) t_
    refine XS.aloadN X3.here hx rfl (hb hby d21_26) rfl rfl ?_
    show Steps p.tables e below (T3.setTop (mkF m 27 #[.val (.ref sr), .val (.int (1 : Int32)), .val (.ref ds), .val (.int (1 : Int32)), .val (.int (2 : Int32)), .val (.int (1 : Int32)), .val (.int ch1)] [(.ref ds)])) t_
    refine XS.iloadN X3.here hx rfl (hb hby d21_27) rfl ?_
    show Steps p.tables e below (T3.setTop (mkF m 28 #[.val (.ref sr), .val (.int (1 : Int32)), .val (.ref ds), .val (.int (1 : Int32)), .val (.int (2 : Int32)), .val (.int (1 : Int32)), .val (.int ch1)] [(.int (1 : Int32)), (.ref ds)])) t_
    refine XS.iload X3.here hx rfl (hb hby d21_28) rfl ?_
    show Steps p.tables e below (T3.setTop (mkF m 30 #[.val (.ref sr), .val (.int (1 : Int32)), .val (.ref ds), .val (.int (1 : Int32)), .val (.int (2 : Int32)), .val (.int (1 : Int32)), .val (.int ch1)] [(.int ch1), (.int (1 : Int32)), (.ref ds)])) t_
    refine XS.i2b X3.here hx rfl (hb hby d21_30) rfl ?_
    exact k_
  obtain ⟨cl5, Ar5, q5, S5, M5, H5, G5⟩ := id B3
  have hin5 : ¬ ((1 : Int32) < 0 ∨ cl5.slots.size ≤ ((1 : Int32)).toNatClampNeg) := inb_of S5 ⟨by decide, by decide⟩
  obtain ⟨T6, h6, X6, e6, W6, st6⟩ := stB X3 hx hZ e3 Ar5 (j := (1 : Int32)) hin5 (g := (mkF m 31 #[.val (.ref sr), .val (.int (1 : Int32)), .val (.ref ds), .val (.int (1 : Int32)), .val (.int (2 : Int32)), .val (.int (1 : Int32)), .val (.int ch1)] [(.int (ch1).toInt8.toInt32), (.int (1 : Int32)), (.ref ds)])) rfl rfl (hb hby d21_31)
  rw [own_narb] at W6
  have B6 : Arv Z h6 ds kb .byte (2 : Int32) [(.int (ch0).toInt8.toInt32), (.int (ch1).toInt8.toInt32)] (.int (0 : Int32)) := Arv.set Ar5 q5 S5 M5 H5 G5 (fits_nar_byte _) W6 1 rfl (Nat.le_of_ble_eq_true rfl)
  refine own_go st6 ?_
  have K6 : Keep h0 h6 [ds] := K3.wr W6 (Or.inl (List.mem_of_getElem? (i := 0) rfl))
  have N6 := Fr.snoc X6 N3 u2
  refine own_go (A := T6.setTop (mkF m 46 #[.val (.ref sr), .val (.int (2 : Int32)), .val (.ref ds), .val (.int (2 : Int32)), .val (.int (2 : Int32)), .val (.int (2 : Int32)), .val (.int ch1)] [(.int (2 : Int32))])) (fun t_ k_ => ?_) ?_
  · show Steps p.tables e below (T6.setTop (mkF m 32 #[.val (.ref sr), .val (.int (1 : Int32)), .val (.ref ds), .val (.int (1 : Int32)), .val (.int (2 : Int32)), .val (.int (1 : Int32)), .val (.int ch1)] [])) t_
    refine XS.iinc X6.here hx rfl (hb hby d21_32) rfl (l' := #[.val (.ref sr), .val (.int (2 : Int32)), .val (.ref ds), .val (.int (1 : Int32)), .val (.int (2 : Int32)), .val (.int (1 : Int32)), .val (.int ch1)]) rfl ?_
    show Steps p.tables e below (T6.setTop (mkF m 35 #[.val (.ref sr), .val (.int (2 : Int32)), .val (.ref ds), .val (.int (1 : Int32)), .val (.int (2 : Int32)), .val (.int (1 : Int32)), .val (.int ch1)] [])) t_
    refine XS.iinc X6.here hx rfl (hb hby d21_35) rfl (l' := #[.val (.ref sr), .val (.int (2 : Int32)), .val (.ref ds), .val (.int (2 : Int32)), .val (.int (2 : Int32)), .val (.int (1 : Int32)), .val (.int ch1)]) rfl ?_
    show Steps p.tables e below (T6.setTop (mkF m 38 #[.val (.ref sr), .val (.int (2 : Int32)), .val (.ref ds), .val (.int (2 : Int32)), .val (.int (2 : Int32)), .val (.int (1 : Int32)), .val (.int ch1)] [])) t_
    refine XS.iinc X6.here hx rfl (hb hby d21_38) rfl (l' := #[.val (.ref sr), .val (.int (2 : Int32)), .val (.ref ds), .val (.int (2 : Int32)), .val (.int (2 : Int32)), .val (.int (2 : Int32)), .val (.int ch1)]) rfl ?_
    show Steps p.tables e below (T6.setTop (mkF m 41 #[.val (.ref sr), .val (.int (2 : Int32)), .val (.ref ds), .val (.int (2 : Int32)), .val (.int (2 : Int32)), .val (.int (2 : Int32)), .val (.int ch1)] [])) t_
    refine XS.goto X6.here hx rfl (pc0 := 41) (pc' := 3) rfl (hb hby d21_41) (by decide) (by decide) ?_
    show Steps p.tables e below (T6.setTop (mkF m 3 #[.val (.ref sr), .val (.int (2 : Int32)), .val (.ref ds), .val (.int (2 : Int32)), .val (.int (2 : Int32)), .val (.int (2 : Int32)), .val (.int ch1)] [])) t_
    refine XS.iload X6.here hx rfl (hb hby d21_3) rfl ?_
    show Steps p.tables e below (T6.setTop (mkF m 5 #[.val (.ref sr), .val (.int (2 : Int32)), .val (.ref ds), .val (.int (2 : Int32)), .val (.int (2 : Int32)), .val (.int (2 : Int32)), .val (.int ch1)] [(.int (2 : Int32))])) t_
    refine XS.iload X6.here hx rfl (hb hby d21_5) rfl ?_
    show Steps p.tables e below (T6.setTop (mkF m 7 #[.val (.ref sr), .val (.int (2 : Int32)), .val (.ref ds), .val (.int (2 : Int32)), .val (.int (2 : Int32)), .val (.int (2 : Int32)), .val (.int ch1)] [(.int (2 : Int32)), (.int (2 : Int32))])) t_
    refine XS.icmpYes X6.here hx rfl (pc0 := 7) (pc' := 44) rfl (hb hby d21_7) rfl (flt (by decide : ¬ ((2 : Int32) < (2 : Int32)))).2.1 (by decide) (by decide) ?_
    show Steps p.tables e below (T6.setTop (mkF m 44 #[.val (.ref sr), .val (.int (2 : Int32)), .val (.ref ds), .val (.int (2 : Int32)), .val (.int (2 : Int32)), .val (.int (2 : Int32)), .val (.int ch1)] [])) t_
    refine XS.iload X6.here hx rfl (hb hby d21_44) rfl ?_
    exact k_
  obtain ⟨fs7, hr7, hrun7, hended7, hW7, hsame7⟩ := X6.leave (v := some (.int (2 : Int32))) (fun h => by rw [Bd.returns] at h; cases h)
  refine ⟨_, _, ?_, hrun7, hended7, _, _, rfl, ?_, ⟨_, rfl⟩, hW7, hsame7.mono (by decide) (by decide)⟩
  · exact own_retI X6 hx Bd.returns (hb hby d21_46) hr7
  · show Q_rmCmpL2 Z sr ds kc kb ch0 ch1 h0 n0 _ T6.heap _
    rw [e6]
    exact ⟨rfl, N6, K6, B6⟩
theorem d20_0 : decode jdk_52_method_16_code 0 = .ok (.iload_n 2, 1) := by decide +kernel
theorem d20_1 : decode jdk_52_method_16_code 1 = .ok (.newarray .byte, 2) := by decide +kernel
theorem d20_3 : decode jdk_52_method_16_code 3 = .ok (.astore_n 3, 1) := by decide +kernel
theorem d20_4 : decode jdk_52_method_16_code 4 = .ok (.aload_n 0, 1) := by decide +kernel
theorem d20_5 : decode jdk_52_method_16_code 5 = .ok (.iload_n 1, 1) := by decide +kernel
theorem d20_6 : decode jdk_52_method_16_code 6 = .ok (.aload_n 3, 1) := by decide +kernel
theorem d20_7 : decode jdk_52_method_16_code 7 = .ok (.iconst 0, 1) := by decide +kernel
theorem d20_8 : decode jdk_52_method_16_code 8 = .ok (.iload_n 2, 1) := by decide +kernel
theorem pd_3 : parseMethodDescriptor "([CI[BII)I" = some ⟨[(.array .char), .int, (.array .byte), .int, .int], some .int⟩ := by decide +kernel
theorem d20_9 : decode jdk_52_method_16_code 9 = .ok (.invokestatic 115, 3) := by decide +kernel
theorem d20_12 : decode jdk_52_method_16_code 12 = .ok (.istore 4, 2) := by decide +kernel
theorem d20_14 : decode jdk_52_method_16_code 14 = .ok (.iload 4, 2) := by decide +kernel
theorem d20_16 : decode jdk_52_method_16_code 16 = .ok (.iload_n 2, 1) := by decide +kernel
theorem d20_17 : decode jdk_52_method_16_code 17 = .ok (.if_icmp .eq 40, 3) := by decide +kernel
theorem d20_57 : decode jdk_52_method_16_code 57 = .ok (.aload_n 3, 1) := by decide +kernel
theorem d20_58 : decode jdk_52_method_16_code 58 = .ok (.areturn, 1) := by decide +kernel
abbrev own_y5 : MethodName := ⟨"java/lang/StringUTF16", "compress", "([CII)[B"⟩
theorem ef_rmCmp2 (m : MethodId) (sr : Addr) : entryFrame m #[(.ref sr), (.int (0 : Int32)), (.int (2 : Int32))] 6 = mkF m 0 #[.val (.ref sr), .val (.int (0 : Int32)), .val (.int (2 : Int32)), .unset, .unset, .unset] [] := by first | (simp [entryFrame, mkF, argsToLocals, Value.category]; done) | rfl
def Q_rmCmp2 (Z : State) (sr : Addr) (kc : ClassId) (ch0 : Int32) (ch1 : Int32) (h0 : Heap) (n0 : Nat) (v_ : Option Value) (h_ : Heap) (L_ : List Loc) : Prop := ∃ d : Addr, ∃ k : ClassId, v_ = some (.ref d) ∧ Fr n0 L_ ∧ Keep h0 h_ [] ∧ h0.size ≤ d ∧ Arv Z h_ d k .byte (2 : Int32) [(.int (ch0).toInt8.toInt32), (.int (ch1).toInt8.toInt32)] (.int (0 : Int32))
set_option maxRecDepth 65536 in
set_option maxHeartbeats 40000000 in
theorem rmCmp2 (l : Launch) (Z : State) (a0 : Array Value) (hw : ∀ d ∈ tables_1, d.before a0 Z = true) (ws : List Jvm.Cond) (sr : Addr) (kc : ClassId) (ch0 : Int32) (ch1 : Int32) (h0 : Heap) (n0 : Nat) (Z0 : n0 ≤ h0.size) (u0 : Arv Z h0 sr kc .char (2 : Int32) [(.int ch0), (.int ch1)] (.int (0 : Int32))) (hch0 : ¬ ((255 : Int32) < ch0)) (hch1 : ¬ ((255 : Int32) < ch1)) :
    MetFree l own_y5 (head1 (Jvm.Cond.code own_y5 jdk_52_method_16_code 6 (some (.array .byte)) :: ws) ({ frames := 1, cells := 1, slots := 2, locals := 18 } : Room)) (fun a_ U_ => a_ = #[(.ref sr), (.int (0 : Int32)), (.int (2 : Int32))] ∧ Z.Warmed39 U_.vm ∧ U_.heap = h0) (fun _ _ _ _ _ => True) (fun _ U_ o_ U2_ => ∃ v_ L_, o_ = .returned v_ ∧ Q_rmCmp2 Z sr kc ch0 ch1 h0 n0 v_ U2_.heap L_ ∧ FrameEnd U_ o_ U2_ L_ ({ frames := 1, cells := 1, slots := 2, locals := 18 } : Room).cells ({ frames := 1, cells := 1, slots := 2, locals := 18 } : Room).slots) := by
  refine MetFree.of_bodySF (plainFor_of_name pn_2) hisR ?_
  intro p e s m args below meth c s₁ Bd hml0 hP hK
  obtain ⟨rfl, hZ, hh⟩ := hP
  have hx := Bd.exec
  have hby := Bd.bytes
  have hml : c.maxLocals = 6 := hml0
  have hown : s.vm.findClass "java/lang/StringUTF16" = some m.cls := findClass_of_methodNamed Bd.named
  have hnm := (name_of_methodNamed Bd.named Bd.method).1
  have X0 : Stand p l e ({ frames := 1, cells := 1, slots := 2, locals := 18 } : Room) s m #[(.ref sr), (.int (0 : Int32)), (.int (2 : Int32))] below meth c s₁ [] 0 0 := Stand.of_body Bd
  have e0 : s₁.heap = h0 := by rw [← hh, Bd.state]; rfl
  have N0 := Fr.nil n0
  refine own_go (A := s₁.setTop (mkF m 0 #[.val (.ref sr), .val (.int (0 : Int32)), .val (.int (2 : Int32)), .unset, .unset, .unset] [])) (fun t_ k_ => castTop (ef_rmCmp2 m sr) k_) ?_
  refine own_go (A := s₁.setTop (mkF m 1 #[.val (.ref sr), .val (.int (0 : Int32)), .val (.int (2 : Int32)), .unset, .unset, .unset] [(.int (2 : Int32))])) (fun t_ k_ => ?_) ?_
  · show Steps p.tables e below (s₁.setTop (mkF m 0 #[.val (.ref sr), .val (.int (0 : Int32)), .val (.int (2 : Int32)), .unset, .unset, .unset] [])) t_
    refine XS.iloadN X0.here hx rfl (hb hby d20_0) rfl ?_
    exact k_
  obtain ⟨T1, h1, k1, X1, e1, E1, A1, st1⟩ := newP X0 hx hZ (own_w hw 126 rfl) e0 (g := (mkF m 1 #[.val (.ref sr), .val (.int (0 : Int32)), .val (.int (2 : Int32)), .unset, .unset, .unset] [(.int (2 : Int32))])) rfl (hb hby d20_1) rfl (by decide) (cap := 2) (by decide) (by decide) (by decide) (by decide)
  obtain ⟨b1, g1⟩ : ∃ z, z = h0.size := ⟨_, rfl⟩
  rw [← g1] at A1 st1
  refine own_go st1 ?_
  have K1 : Keep h0 h1 [] := (Keep.refl h0 []).ext E1
  have B1 : Arv Z h1 b1 k1 .byte (2 : Int32) [(.int (0 : Int32)), (.int (0 : Int32))] (.int (0 : Int32)) := (Arv.new A1 (by decide)).pad (pad_rep [] (.int (0 : Int32)) 2)
  refine own_go (A := T1.setTop (mkF m 9 #[.val (.ref sr), .val (.int (0 : Int32)), .val (.int (2 : Int32)), .val (.ref b1), .unset, .unset] [(.int (2 : Int32)), (.int (0 : Int32)), (.ref b1), (.int (0 : Int32)), (.ref sr)])) (fun t_ k_ => ?_) ?_
  · show Steps p.tables e below (T1.setTop (mkF m 3 #[.val (.ref sr), .val (.int (0 : Int32)), .val (.int (2 : Int32)), .unset, .unset, .unset] [(.ref b1)])) t_
    refine XS.astoreN X1.here hx rfl (hb hby d20_3) rfl rfl (l' := #[.val (.ref sr), .val (.int (0 : Int32)), .val (.int (2 : Int32)), .val (.ref b1), .unset, .unset]) rfl ?_
    show Steps p.tables e below (T1.setTop (mkF m 4 #[.val (.ref sr), .val (.int (0 : Int32)), .val (.int (2 : Int32)), .val (.ref b1), .unset, .unset] [])) t_
    refine XS.aloadN X1.here hx rfl (hb hby d20_4) rfl rfl ?_
    show Steps p.tables e below (T1.setTop (mkF m 5 #[.val (.ref sr), .val (.int (0 : Int32)), .val (.int (2 : Int32)), .val (.ref b1), .unset, .unset] [(.ref sr)])) t_
    refine XS.iloadN X1.here hx rfl (hb hby d20_5) rfl ?_
    show Steps p.tables e below (T1.setTop (mkF m 6 #[.val (.ref sr), .val (.int (0 : Int32)), .val (.int (2 : Int32)), .val (.ref b1), .unset, .unset] [(.int (0 : Int32)), (.ref sr)])) t_
    refine XS.aloadN X1.here hx rfl (hb hby d20_6) rfl rfl ?_
    show Steps p.tables e below (T1.setTop (mkF m 7 #[.val (.ref sr), .val (.int (0 : Int32)), .val (.int (2 : Int32)), .val (.ref b1), .unset, .unset] [(.ref b1), (.int (0 : Int32)), (.ref sr)])) t_
    refine XS.iconst X1.here hx rfl (hb hby d20_7) ?_
    show Steps p.tables e below (T1.setTop (mkF m 8 #[.val (.ref sr), .val (.int (0 : Int32)), .val (.int (2 : Int32)), .val (.ref b1), .unset, .unset] [(.int (0 : Int32)), (.ref b1), (.int (0 : Int32)), (.ref sr)])) t_
    refine XS.iloadN X1.here hx rfl (hb hby d20_8) rfl ?_
    exact k_
  obtain ⟨_, _, ⟨T2, L2, k2, n2⟩, -, X2, ⟨Lc2, hQ2, l2, y2, z2⟩, st2⟩ := Jvm.LawKit.callS X1 hx (y := own_y4) hown (mvT hZ (own_w hw 127 rfl)) (mvT hZ (own_w hw 128 rfl)) (mvT hZ (own_w hw 124 rfl)) (mvT hZ (own_w hw 129 rfl)) (by decide) (backOf (W := 0) (rmCmpL2 l Z a0 hw [] sr b1 kc k1 ch0 ch1 h1 n0 (Nat.le_trans Z0 K1.1) (u0.ext E1) B1 (Nat.le_trans Z0 (Nat.le_of_eq g1.symm)) (Nat.ne_of_lt (Nat.lt_of_lt_of_le u0.lt (Nat.le_of_eq g1.symm))) hch0 hch1) hZ (own_w hw 129 rfl) (own_w hw 124 rfl) (by decide) (by decide)) (g := (mkF m 9 #[.val (.ref sr), .val (.int (0 : Int32)), .val (.int (2 : Int32)), .val (.ref b1), .unset, .unset] [(.int (2 : Int32)), (.int (0 : Int32)), (.ref b1), (.int (0 : Int32)), (.ref sr)])) rfl (by rw [hml]; rfl) (argsL := [(.ref sr), (.int (0 : Int32)), (.ref b1), (.int (0 : Int32)), (.int (2 : Int32))]) (rest := []) (lenOf pd_3 rfl) rfl (by show 2 * 0 + _ ≤ _; exact Nat.le_of_eq rfl) (hb hby d20_9) (fun _ _ => ⟨rfl, e1, (by decide : 1 + 0 ≤ _), (by decide : 2 + 0 ≤ _)⟩)
  dsimp only [Pt.U, Pt.locs, Pt.cells, Pt.slots] at X2 l2 y2 z2 st2 hQ2
  subst l2 y2 z2
  obtain ⟨rfl, N2q, Kc2, r2_0⟩ := hQ2
  have N2 := Fr.app N0 N2q
  refine own_go st2 ?_
  have K2 : Keep h0 T2.heap [] := K1.trans Kc2 (allS (P := fun x => x ∈ _ ∨ _ ≤ x) (Or.inr (Nat.le_of_eq g1.symm)) all0)
  refine own_go (A := T2.setTop (mkF m 58 #[.val (.ref sr), .val (.int (0 : Int32)), .val (.int (2 : Int32)), .val (.ref b1), .val (.int (2 : Int32)), .unset] [(.ref b1)])) (fun t_ k_ => ?_) ?_
  · show Steps p.tables e below (T2.setTop (mkF m 12 #[.val (.ref sr), .val (.int (0 : Int32)), .val (.int (2 : Int32)), .val (.ref b1), .unset, .unset] [(.int (2 : Int32))])) t_
    refine XS.istore X2.here hx rfl (hb hby d20_12) rfl (l' := #[.val (.ref sr), .val (.int (0 : Int32)), .val (.int (2 : Int32)), .val (.ref b1), .val (.int (2 : Int32)), .unset]) rfl ?_
    show Steps p.tables e below (T2.setTop (mkF m 14 #[.val (.ref sr), .val (.int (0 : Int32)), .val (.int (2 : Int32)), .val (.ref b1), .val (.int (2 : Int32)), .unset] [])) t_
    refine XS.iload X2.here hx rfl (hb hby d20_14) rfl ?_
    show Steps p.tables e below (T2.setTop (mkF m 16 #[.val (.ref sr), .val (.int (0 : Int32)), .val (.int (2 : Int32)), .val (.ref b1), .val (.int (2 : Int32)), .unset] [(.int (2 : Int32))])) t_
    refine XS.iloadN X2.here hx rfl (hb hby d20_16) rfl ?_
    show Steps p.tables e below (T2.setTop (mkF m 17 #[.val (.ref sr), .val (.int (0 : Int32)), .val (.int (2 : Int32)), .val (.ref b1), .val (.int (2 : Int32)), .unset] [(.int (2 : Int32)), (.int (2 : Int32))])) t_
    refine XS.icmpYes X2.here hx rfl (pc0 := 17) (pc' := 57) rfl (hb hby d20_17) rfl (teq (by decide : (2 : Int32) = (2 : Int32))).1 (by decide) (by decide) ?_
    show Steps p.tables e below (T2.setTop (mkF m 57 #[.val (.ref sr), .val (.int (0 : Int32)), .val (.int (2 : Int32)), .val (.ref b1), .val (.int (2 : Int32)), .unset] [])) t_
    refine XS.aloadN X2.here hx rfl (hb hby d20_57) rfl rfl ?_
    exact k_
  obtain ⟨fs3, hr3, hrun3, hended3, hW3, hsame3⟩ := X2.leave (v := some (.ref b1)) (fun h => by rw [Bd.returns] at h; cases h)
  refine ⟨_, _, ?_, hrun3, hended3, _, _, rfl, ?_, ⟨_, rfl⟩, hW3, hsame3.mono (by decide) (by decide)⟩
  · exact own_retA X2 hx Bd.returns rfl rfl rfl (hb hby d20_58) hr3
  · show Q_rmCmp2 Z sr kc ch0 ch1 h0 n0 _ T2.heap _
    exact ⟨b1, k1, rfl, N2, K2, (Nat.le_of_eq g1.symm), r2_0⟩
theorem d22_0 : decode jdk_52_method_15_code 0 = .ok (.iload_n 1, 1) := by decide +kernel
theorem d22_1 : decode jdk_52_method_15_code 1 = .ok (.aload_n 0, 1) := by decide +kernel
theorem d22_2 : decode jdk_52_method_15_code 2 = .ok (.arraylength, 1) := by decide +kernel
theorem d22_3 : decode jdk_52_method_15_code 3 = .ok (.isub, 1) := by decide +kernel
theorem d22_4 : decode jdk_52_method_15_code 4 = .ok (.bipush 31, 2) := by decide +kernel
theorem d22_6 : decode jdk_52_method_15_code 6 = .ok (.iushr, 1) := by decide +kernel
theorem d22_7 : decode jdk_52_method_15_code 7 = .ok (.i2b, 1) := by decide +kernel
theorem d22_8 : decode jdk_52_method_15_code 8 = .ok (.ireturn, 1) := by decide +kernel
abbrev own_y6 : MethodName := ⟨"java/lang/StringUTF16", "coderFromArrayLen", "([BI)B"⟩
theorem ef_rmCfa2 (m : MethodId) (d : Addr) : entryFrame m #[(.ref d), (.int (2 : Int32))] 2 = mkF m 0 #[.val (.ref d), .val (.int (2 : Int32))] [] := by first | (simp [entryFrame, mkF, argsToLocals, Value.category]; done) | rfl
def Q_rmCfa2 (Z : State) (d : Addr) (k : ClassId) (vs : List Value) (h0 : Heap) (n0 : Nat) (v_ : Option Value) (h_ : Heap) (L_ : List Loc) : Prop := v_ = some (.int (0 : Int32)) ∧ Fr n0 L_ ∧ h_ = h0
set_option maxRecDepth 65536 in
set_option maxHeartbeats 40000000 in
theorem rmCfa2 (l : Launch) (Z : State) (a0 : Array Value) (hw : ∀ d ∈ tables_1, d.before a0 Z = true) (ws : List Jvm.Cond) (d : Addr) (k : ClassId) (vs : List Value) (h0 : Heap) (n0 : Nat) (Z0 : n0 ≤ h0.size) (u0 : Arv Z h0 d k .byte (2 : Int32) vs (.int (0 : Int32))) :
    MetFree l own_y6 (head1 (Jvm.Cond.code own_y6 jdk_52_method_15_code 2 (some .byte) :: ws) ({ frames := 0, cells := 0, slots := 0, locals := 0 } : Room)) (fun a_ U_ => a_ = #[(.ref d), (.int (2 : Int32))] ∧ Z.Warmed39 U_.vm ∧ U_.heap = h0) (fun _ _ _ _ _ => True) (fun _ U_ o_ U2_ => ∃ v_ L_, o_ = .returned v_ ∧ Q_rmCfa2 Z d k vs h0 n0 v_ U2_.heap L_ ∧ FrameEnd U_ o_ U2_ L_ ({ frames := 0, cells := 0, slots := 0, locals := 0 } : Room).cells ({ frames := 0, cells := 0, slots := 0, locals := 0 } : Room).slots) := by
  refine MetFree.of_bodySF (plainFor_of_name pn_2) hisR ?_
  intro p e s m args below meth c s₁ Bd hml0 hP hK
  obtain ⟨rfl, hZ, hh⟩ := hP
  have hx := Bd.exec
  have hby := Bd.bytes
  have hml : c.maxLocals = 2 := hml0
  have hown : s.vm.findClass "java/lang/StringUTF16" = some m.cls := findClass_of_methodNamed Bd.named
  have hnm := (name_of_methodNamed Bd.named Bd.method).1
  have X0 : Stand p l e ({ frames := 0, cells := 0, slots := 0, locals := 0 } : Room) s m #[(.ref d), (.int (2 : Int32))] below meth c s₁ [] 0 0 := Stand.of_body Bd
  have e0 : s₁.heap = h0 := by rw [← hh, Bd.state]; rfl
  have N0 := Fr.nil n0
  refine own_go (A := s₁.setTop (mkF m 0 #[.val (.ref d), .val (.int (2 : Int32))] [])) (fun t_ k_ => castTop (ef_rmCfa2 m d) k_) ?_
  obtain ⟨cl1, Ar1, q1, S1, M1, H1, G1⟩ := id u0
  refine own_go (A := s₁.setTop (mkF m 8 #[.val (.ref d), .val (.int (2 : Int32))] [(.int ((((0 : Int32)).toUInt32 >>> ((31 : Int32) &&& 31).toUInt32).toInt32).toInt8.toInt32)])) (fun t_ k_ => ?_) ?_
  · show Steps p.tables e below (s₁.setTop (mkF m 0 #[.val (.ref d), .val (.int (2 : Int32))] [])) t_
    refine XS.iloadN X0.here hx rfl (hb hby d22_0) rfl ?_
    show Steps p.tables e below (s₁.setTop (mkF m 1 #[.val (.ref d), .val (.int (2 : Int32))] [(.int (2 : Int32))])) t_
    refine XS.aloadN X0.here hx rfl (hb hby d22_1) rfl rfl ?_
    show Steps p.tables e below (s₁.setTop (mkF m 2 #[.val (.ref d), .val (.int (2 : Int32))] [(.ref d), (.int (2 : Int32))])) t_
    refine X0.arraylength hx (by rw [e0]; exact Ar1.1) (State.isArrayOf_alike hZ.alike Ar1.2.1) (g := (mkF m 2 #[.val (.ref d), .val (.int (2 : Int32))] [(.ref d), (.int (2 : Int32))])) rfl rfl (hb hby d22_2) _ ?_
    rw [len_of S1 M1]
    show Steps p.tables e below (s₁.setTop (mkF m 3 #[.val (.ref d), .val (.int (2 : Int32))] [(.int (2 : Int32)), (.int (2 : Int32))])) t_
    refine XS.isub X0.here hx rfl (hb hby d22_3) rfl ?_
    show Steps p.tables e below (s₁.setTop (mkF m 4 #[.val (.ref d), .val (.int (2 : Int32))] [(.int (0 : Int32))])) t_
    refine XS.bipush X0.here hx rfl (hb hby d22_4) ?_
    show Steps p.tables e below (s₁.setTop (mkF m 6 #[.val (.ref d), .val (.int (2 : Int32))] [(.int (31 : Int32)), (.int (0 : Int32))])) t_
    refine XS.iushr X0.here hx rfl (hb hby d22_6) rfl ?_
    show Steps p.tables e below (s₁.setTop (mkF m 7 #[.val (.ref d), .val (.int (2 : Int32))] [(.int (((0 : Int32)).toUInt32 >>> ((31 : Int32) &&& 31).toUInt32).toInt32)])) t_
    refine XS.i2b X0.here hx rfl (hb hby d22_7) rfl ?_
    exact k_
  obtain ⟨fs2, hr2, hrun2, hended2, hW2, hsame2⟩ := X0.leave (v := some (.int (nar .byte ((((0 : Int32)).toUInt32 >>> ((31 : Int32) &&& 31).toUInt32).toInt32).toInt8.toInt32))) (fun h => by rw [Bd.returns] at h; cases h)
  refine ⟨_, _, ?_, hrun2, hended2, _, _, rfl, ?_, ⟨_, rfl⟩, hW2, hsame2.mono (by decide) (by decide)⟩
  · exact retN X0 hx (t := .byte) Bd.returns (by simp) (hb hby d22_8) hr2
  · show Q_rmCfa2 Z d k vs h0 n0 _ s₁.heap _
    rw [e0]
    exact ⟨rfl, N0, rfl⟩
theorem d19_0 : decode jdk_42_method_149_code 0 = .ok (.aload_n 0, 1) := by decide +kernel
theorem d19_1 : decode jdk_42_method_149_code 1 = .ok (.invokespecial 1, 3) := by decide +kernel
theorem d19_4 : decode jdk_42_method_149_code 4 = .ok (.iload_n 3, 1) := by decide +kernel
theorem d19_5 : decode jdk_42_method_149_code 5 = .ok (.ifCond .ne 22, 3) := by decide +kernel
theorem d19_27 : decode jdk_42_method_149_code 27 = .ok (.getstatic 38, 3) := by decide +kernel
theorem d19_30 : decode jdk_42_method_149_code 30 = .ok (.ifCond .eq 28, 3) := by decide +kernel
theorem d19_33 : decode jdk_42_method_149_code 33 = .ok (.aload_n 1, 1) := by decide +kernel
theorem d19_34 : decode jdk_42_method_149_code 34 = .ok (.iload_n 2, 1) := by decide +kernel
theorem d19_35 : decode jdk_42_method_149_code 35 = .ok (.iload_n 3, 1) := by decide +kernel
theorem pd_4 : parseMethodDescriptor "([CII)[B" = some ⟨[(.array .char), .int, .int], some (.array .byte)⟩ := by decide +kernel
theorem d19_36 : decode jdk_42_method_149_code 36 = .ok (.invokestatic 177, 3) := by decide +kernel
theorem d19_39 : decode jdk_42_method_149_code 39 = .ok (.astore 5, 2) := by decide +kernel
theorem d19_41 : decode jdk_42_method_149_code 41 = .ok (.aload_n 0, 1) := by decide +kernel
theorem d19_42 : decode jdk_42_method_149_code 42 = .ok (.aload 5, 2) := by decide +kernel
theorem d19_44 : decode jdk_42_method_149_code 44 = .ok (.iload_n 3, 1) := by decide +kernel
theorem pd_5 : parseMethodDescriptor "([BI)B" = some ⟨[(.array .byte), .int], some .byte⟩ := by decide +kernel
theorem d19_45 : decode jdk_42_method_149_code 45 = .ok (.invokestatic 47, 3) := by decide +kernel
theorem d19_48 : decode jdk_42_method_149_code 48 = .ok (.putfield 15, 3) := by decide +kernel
theorem d19_51 : decode jdk_42_method_149_code 51 = .ok (.aload_n 0, 1) := by decide +kernel
theorem d19_52 : decode jdk_42_method_149_code 52 = .ok (.aload 5, 2) := by decide +kernel
theorem d19_54 : decode jdk_42_method_149_code 54 = .ok (.putfield 9, 3) := by decide +kernel
theorem d19_57 : decode jdk_42_method_149_code 57 = .ok (.return_, 1) := by decide +kernel
abbrev own_y7 : MethodName := ⟨"java/lang/String", "<init>", "([CIILjava/lang/Void;)V"⟩
theorem ef_rmSCV2 (m : MethodId) (a : Addr) (sr : Addr) : entryFrame m #[(.ref a), (.ref sr), (.int (0 : Int32)), (.int (2 : Int32)), .null] 6 = mkF m 0 #[.val (.ref a), .val (.ref sr), .val (.int (0 : Int32)), .val (.int (2 : Int32)), .val .null, .unset] [] := by first | (simp [entryFrame, mkF, argsToLocals, Value.category]; done) | rfl
def Q_rmSCV2 (Z : State) (a : Addr) (sr : Addr) (cs : Int32) (kc : ClassId) (ch0 : Int32) (ch1 : Int32) (h0 : Heap) (n0 : Nat) (v_ : Option Value) (h_ : Heap) (L_ : List Loc) : Prop := ∃ d : Addr, ∃ k : ClassId, v_ = none ∧ Fr n0 L_ ∧ Keep h0 h_ [a] ∧ h0.size ≤ d ∧ Fld Z h_ a "java/lang/String" "value" "[B" (.ref d) ∧ Fld Z h_ a "java/lang/String" "coder" "B" (.int (0 : Int32)) ∧ Arv Z h_ d k .byte (2 : Int32) [(.int (ch0).toInt8.toInt32), (.int (ch1).toInt8.toInt32)] (.int (0 : Int32))
set_option maxRecDepth 65536 in
set_option maxHeartbeats 40000000 in
theorem rmSCV2 (l : Launch) (Z : State) (a0 : Array Value) (hw : ∀ d ∈ tables_1, d.before a0 Z = true) (ws : List Jvm.Cond) (a : Addr) (sr : Addr) (cs : Int32) (kc : ClassId) (ch0 : Int32) (ch1 : Int32) (h0 : Heap) (n0 : Nat) (Z0 : n0 ≤ h0.size) (O0 : Old Z n0 h0) (u1 : Sta Z Z.heap "java/lang/String" "COMPACT_STRINGS" "Z" (.int cs)) (hcs : ¬ (cs = (0 : Int32))) (u3 : Exa Z h0 a "java/lang/String") (u4 : Fld Z h0 a "java/lang/String" "value" "[B" .null) (u5 : Fld Z h0 a "java/lang/String" "coder" "B" (.int (0 : Int32))) (u6 : n0 ≤ a) (u7 : Arv Z h0 sr kc .char (2 : Int32) [(.int ch0), (.int ch1)] (.int (0 : Int32))) (hch0 : ¬ ((255 : Int32) < ch0)) (hch1 : ¬ ((255 : Int32) < ch1)) :
    MetFree l own_y7 (head1 (Jvm.Cond.code own_y7 jdk_42_method_149_code 6 none :: ws) ({ frames := 2, cells := 1, slots := 2, locals := 35 } : Room)) (fun a_ U_ => a_ = #[(.ref a), (.ref sr), (.int (0 : Int32)), (.int (2 : Int32)), .null] ∧ Z.Warmed39 U_.vm ∧ U_.heap = h0) (fun _ _ _ _ _ => True) (fun _ U_ o_ U2_ => ∃ v_ L_, o_ = .returned v_ ∧ Q_rmSCV2 Z a sr cs kc ch0 ch1 h0 n0 v_ U2_.heap L_ ∧ FrameEnd U_ o_ U2_ L_ ({ frames := 2, cells := 1, slots := 2, locals := 35 } : Room).cells ({ frames := 2, cells := 1, slots := 2, locals := 35 } : Room).slots) := by
  refine MetFree.of_bodySF (plainFor_of_name pn_1) hisR ?_
  intro p e s m args below meth c s₁ Bd hml0 hP hK
  obtain ⟨rfl, hZ, hh⟩ := hP
  have hx := Bd.exec
  have hby := Bd.bytes
  have hml : c.maxLocals = 6 := hml0
  have hown : s.vm.findClass "java/lang/String" = some m.cls := findClass_of_methodNamed Bd.named
  have hnm := (name_of_methodNamed Bd.named Bd.method).1
  have X0 : Stand p l e ({ frames := 2, cells := 1, slots := 2, locals := 35 } : Room) s m #[(.ref a), (.ref sr), (.int (0 : Int32)), (.int (2 : Int32)), .null] below meth c s₁ [] 0 0 := Stand.of_body Bd
  have e0 : s₁.heap = h0 := by rw [← hh, Bd.state]; rfl
  have N0 := Fr.nil n0
  refine own_go (A := s₁.setTop (mkF m 0 #[.val (.ref a), .val (.ref sr), .val (.int (0 : Int32)), .val (.int (2 : Int32)), .val .null, .unset] [])) (fun t_ k_ => castTop (ef_rmSCV2 m a sr) k_) ?_
  refine own_go (A := s₁.setTop (mkF m 1 #[.val (.ref a), .val (.ref sr), .val (.int (0 : Int32)), .val (.int (2 : Int32)), .val .null, .unset] [(.ref a)])) (fun t_ k_ => ?_) ?_
  · show Steps p.tables e below (s₁.setTop (mkF m 0 #[.val (.ref a), .val (.ref sr), .val (.int (0 : Int32)), .val (.int (2 : Int32)), .val .null, .unset] [])) t_
    refine XS.aloadN X0.here hx rfl (hb hby d19_0) rfl rfl ?_
    exact k_
  obtain ⟨T1, X1, e1, st1⟩ := initO X0 hx hZ hown (own_w hw 120 rfl) (own_w hw 19 rfl) (own_w hw 20 rfl) e0 (g := (mkF m 1 #[.val (.ref a), .val (.ref sr), .val (.int (0 : Int32)), .val (.int (2 : Int32)), .val .null, .unset] [(.ref a)])) rfl (by rw [hml]; rfl) rfl (hb hby d19_1) (by decide) (W := 0) (by show 2 * 0 + _ ≤ _; exact Nat.le_of_eq rfl) (by decide)
  refine own_go st1 ?_
  refine own_go (A := T1.setTop (mkF m 27 #[.val (.ref a), .val (.ref sr), .val (.int (0 : Int32)), .val (.int (2 : Int32)), .val .null, .unset] [])) (fun t_ k_ => ?_) ?_
  · show Steps p.tables e below (T1.setTop (mkF m 4 #[.val (.ref a), .val (.ref sr), .val (.int (0 : Int32)), .val (.int (2 : Int32)), .val .null, .unset] [])) t_
    refine XS.iloadN X1.here hx rfl (hb hby d19_4) rfl ?_
    show Steps p.tables e below (T1.setTop (mkF m 5 #[.val (.ref a), .val (.ref sr), .val (.int (0 : Int32)), .val (.int (2 : Int32)), .val .null, .unset] [(.int (2 : Int32))])) t_
    refine XS.ifYes X1.here hx rfl (pc0 := 5) (pc' := 27) rfl (hb hby d19_5) rfl ((if0 _ _).trans (feq (by decide : ¬ ((2 : Int32) = (0 : Int32)))).2) (by decide) (by decide) ?_
    exact k_
  obtain ⟨T2, X2, e2, st2⟩ := getS2 X1 hx hZ hown (host := "") (Or.inl (own_w hw 121 rfl)) Via.refl e1 (u1.ext O0.2) (g := (mkF m 27 #[.val (.ref a), .val (.ref sr), .val (.int (0 : Int32)), .val (.int (2 : Int32)), .val .null, .unset] [])) rfl (hb hby d19_27)
  refine own_go st2 ?_
  refine own_go (A := T2.setTop (mkF m 36 #[.val (.ref a), .val (.ref sr), .val (.int (0 : Int32)), .val (.int (2 : Int32)), .val .null, .unset] [(.int (2 : Int32)), (.int (0 : Int32)), (.ref sr)])) (fun t_ k_ => ?_) ?_
  · show Steps p.tables e below (T2.setTop (mkF m 30 #[.val (.ref a), .val (.ref sr), .val (.int (0 : Int32)), .val (.int (2 : Int32)), .val .null, .unset] [(.int cs)])) t_
    refine XS.ifNo X2.here hx rfl (hb hby d19_30) rfl ((if0 _ _).trans (feq hcs).1) ?_
    show Steps p.tables e below (T2.setTop (mkF m 33 #[.val (.ref a), .val (.ref sr), .val (.int (0 : Int32)), .val (.int (2 : Int32)), .val .null, .unset] [])) t_
    refine XS.aloadN X2.here hx rfl (hb hby d19_33) rfl rfl ?_
    show Steps p.tables e below (T2.setTop (mkF m 34 #[.val (.ref a), .val (.ref sr), .val (.int (0 : Int32)), .val (.int (2 : Int32)), .val .null, .unset] [(.ref sr)])) t_
    refine XS.iloadN X2.here hx rfl (hb hby d19_34) rfl ?_
    show Steps p.tables e below (T2.setTop (mkF m 35 #[.val (.ref a), .val (.ref sr), .val (.int (0 : Int32)), .val (.int (2 : Int32)), .val .null, .unset] [(.int (0 : Int32)), (.ref sr)])) t_
    refine XS.iloadN X2.here hx rfl (hb hby d19_35) rfl ?_
    exact k_
  obtain ⟨_, _, ⟨T3, L3, k3, n3⟩, -, X3, ⟨Lc3, hQ3, l3, y3, z3⟩, st3⟩ := Jvm.LawKit.callS X2 hx (y := own_y5) hown (mvT hZ (own_w hw 122 rfl)) (mvT hZ (own_w hw 123 rfl)) (mvT hZ (own_w hw 124 rfl)) (mvT hZ (own_w hw 125 rfl)) (by decide) (backOf (W := 0) (rmCmp2 l Z a0 hw [] sr kc ch0 ch1 h0 n0 Z0 u7 hch0 hch1) hZ (own_w hw 125 rfl) (own_w hw 124 rfl) (by decide) (by decide)) (g := (mkF m 36 #[.val (.ref a), .val (.ref sr), .val (.int (0 : Int32)), .val (.int (2 : Int32)), .val .null, .unset] [(.int (2 : Int32)), (.int (0 : Int32)), (.ref sr)])) rfl (by rw [hml]; rfl) (argsL := [(.ref sr), (.int (0 : Int32)), (.int (2 : Int32))]) (rest := []) (lenOf pd_4 rfl) rfl (by show 2 * 0 + _ ≤ _; exact Nat.le_of_eq rfl) (hb hby d19_36) (fun _ _ => ⟨rfl, e2, (by decide : 0 + 1 ≤ _), (by decide : 0 + 2 ≤ _)⟩)
  dsimp only [Pt.U, Pt.locs, Pt.cells, Pt.slots] at X3 l3 y3 z3 st3 hQ3
  subst l3 y3 z3
  obtain ⟨d_3, k_3, rfl, N3q, Kc3, r3_0, r3_1⟩ := hQ3
  have N3 := Fr.app N0 N3q
  refine own_go st3 ?_
  have K3 : Keep h0 T3.heap [a] := (Keep.refl h0 [a]).trans Kc3 all0
  have O3 := O0.keep Kc3 all0
  refine own_go (A := T3.setTop (mkF m 45 #[.val (.ref a), .val (.ref sr), .val (.int (0 : Int32)), .val (.int (2 : Int32)), .val .null, .val (.ref d_3)] [(.int (2 : Int32)), (.ref d_3), (.ref a)])) (fun t_ k_ => ?_) ?_
  · show Steps p.tables e below (T3.setTop (mkF m 39 #[.val (.ref a), .val (.ref sr), .val (.int (0 : Int32)), .val (.int (2 : Int32)), .val .null, .unset] [(.ref d_3)])) t_
    refine XS.astore X3.here hx rfl (hb hby d19_39) rfl rfl (l' := #[.val (.ref a), .val (.ref sr), .val (.int (0 : Int32)), .val (.int (2 : Int32)), .val .null, .val (.ref d_3)]) rfl ?_
    show Steps p.tables e below (T3.setTop (mkF m 41 #[.val (.ref a), .val (.ref sr), .val (.int (0 : Int32)), .val (.int (2 : Int32)), .val .null, .val (.ref d_3)] [])) t_
    refine XS.aloadN X3.here hx rfl (hb hby d19_41) rfl rfl ?_
    show Steps p.tables e below (T3.setTop (mkF m 42 #[.val (.ref a), .val (.ref sr), .val (.int (0 : Int32)), .val (.int (2 : Int32)), .val .null, .val (.ref d_3)] [(.ref a)])) t_
    refine XS.aload X3.here hx rfl (hb hby d19_42) rfl rfl ?_
    show Steps p.tables e below (T3.setTop (mkF m 44 #[.val (.ref a), .val (.ref sr), .val (.int (0 : Int32)), .val (.int (2 : Int32)), .val .null, .val (.ref d_3)] [(.ref d_3), (.ref a)])) t_
    refine XS.iloadN X3.here hx rfl (hb hby d19_44) rfl ?_
    exact k_
  obtain ⟨_, _, ⟨T4, L4, k4, n4⟩, -, X4, ⟨Lc4, hQ4, l4, y4, z4⟩, st4⟩ := Jvm.LawKit.callS X3 hx (y := own_y6) hown (mvT hZ (own_w hw 130 rfl)) (mvT hZ (own_w hw 131 rfl)) (mvT hZ (own_w hw 124 rfl)) (mvT hZ (own_w hw 132 rfl)) (by decide) (backOf (W := 1) (rmCfa2 l Z a0 hw [] d_3 k_3 [(.int (ch0).toInt8.toInt32), (.int (ch1).toInt8.toInt32)] T3.heap n0 (Nat.le_trans Z0 K3.1) r3_1) hZ (own_w hw 132 rfl) (own_w hw 124 rfl) (by decide) (by decide)) (g := (mkF m 45 #[.val (.ref a), .val (.ref sr), .val (.int (0 : Int32)), .val (.int (2 : Int32)), .val .null, .val (.ref d_3)] [(.int (2 : Int32)), (.ref d_3), (.ref a)])) rfl (by rw [hml]; rfl) (argsL := [(.ref d_3), (.int (2 : Int32))]) (rest := [(.ref a)]) (lenOf pd_5 rfl) rfl (by show 2 * 0 + _ ≤ _; exact Nat.le_of_eq rfl) (hb hby d19_45) (fun _ _ => ⟨rfl, rfl, (by decide : 1 + 0 ≤ _), (by decide : 2 + 0 ≤ _)⟩)
  dsimp only [Pt.U, Pt.locs, Pt.cells, Pt.slots] at X4 l4 y4 z4 st4 hQ4
  subst l4 y4 z4
  obtain ⟨rfl, N4q, eh4⟩ := hQ4
  have N4 := Fr.app N3 N4q
  refine own_go st4 ?_
  obtain ⟨T5, h5, X5, e5, W5, st5⟩ := putFN X4 hx hZ hown (own_w hw 133 rfl) Via.refl eh4 (u5.keep Kc3 nin0) (u3.keep Kc3) (Or.inr ⟨(own_w hw 134 rfl), rfl, hnm⟩) (own_w hw 111 rfl) (ty := .byte) (v' := (.int (0 : Int32))) (by decide) rfl rfl (g := (mkF m 48 #[.val (.ref a), .val (.ref sr), .val (.int (0 : Int32)), .val (.int (2 : Int32)), .val .null, .val (.ref d_3)] [(.int (0 : Int32)), (.ref a)])) rfl rfl (hb hby d19_48)
  have Fw5 : Fld Z h5 a "java/lang/String" "coder" "B" (.int (0 : Int32)) := (u5.keep Kc3 nin0).same W5
  refine own_go st5 ?_
  have K5 : Keep h0 h5 [a] := K3.wr W5 (Or.inl (List.mem_of_getElem? (i := 0) rfl))
  have O5 := O3.wr W5 u6
  have N5 := Fr.snoc X5 N4 u6
  refine own_go (A := T5.setTop (mkF m 54 #[.val (.ref a), .val (.ref sr), .val (.int (0 : Int32)), .val (.int (2 : Int32)), .val .null, .val (.ref d_3)] [(.ref d_3), (.ref a)])) (fun t_ k_ => ?_) ?_
  · show Steps p.tables e below (T5.setTop (mkF m 51 #[.val (.ref a), .val (.ref sr), .val (.int (0 : Int32)), .val (.int (2 : Int32)), .val .null, .val (.ref d_3)] [])) t_
    refine XS.aloadN X5.here hx rfl (hb hby d19_51) rfl rfl ?_
    show Steps p.tables e below (T5.setTop (mkF m 52 #[.val (.ref a), .val (.ref sr), .val (.int (0 : Int32)), .val (.int (2 : Int32)), .val .null, .val (.ref d_3)] [(.ref a)])) t_
    refine XS.aload X5.here hx rfl (hb hby d19_52) rfl rfl ?_
    exact k_
  obtain ⟨T6, h6, X6, e6, W6, st6⟩ := putF X5 hx hZ hown (host := "") (Or.inl (own_w hw 135 rfl)) Via.refl e5 ((u4.keep Kc3 nin0).other W5 (Or.inr (slot_ne (Or.inr (own_w hw 136 rfl)) (Or.inr (own_w hw 134 rfl)) (by decide) (t := (.array .byte)) (t' := .byte) (by decide) (by decide)))) ((u3.keep Kc3).wr W5) (Or.inr ⟨(own_w hw 136 rfl), rfl, hnm⟩) (own_w hw 111 rfl) (ty := (.array .byte)) (by decide) rfl rfl (g := (mkF m 54 #[.val (.ref a), .val (.ref sr), .val (.int (0 : Int32)), .val (.int (2 : Int32)), .val .null, .val (.ref d_3)] [(.ref d_3), (.ref a)])) rfl rfl (hb hby d19_54)
  have Fw6 : Fld Z h6 a "java/lang/String" "value" "[B" (.ref d_3) := ((u4.keep Kc3 nin0).other W5 (Or.inr (slot_ne (Or.inr (own_w hw 136 rfl)) (Or.inr (own_w hw 134 rfl)) (by decide) (t := (.array .byte)) (t' := .byte) (by decide) (by decide)))).same W6
  refine own_go st6 ?_
  have K6 : Keep h0 h6 [a] := K5.wr W6 (Or.inl (List.mem_of_getElem? (i := 0) rfl))
  have O6 := O5.wr W6 u6
  have N6 := Fr.snoc X6 N5 u6
  obtain ⟨fs7, hr7, hrun7, hended7, hW7, hsame7⟩ := X6.leave (v := none) (fun _ => rfl)
  refine ⟨_, _, ?_, hrun7, hended7, _, _, rfl, ?_, ⟨_, rfl⟩, hW7, hsame7.mono (by decide) (by decide)⟩
  · exact X6.returnOut hx Bd.returns (hb hby d19_57) hr7
  · show Q_rmSCV2 Z a sr cs kc ch0 ch1 h0 n0 _ T6.heap _
    rw [e6]
    exact ⟨d_3, k_3, rfl, N6, K6, r3_0, Fw6, (Fw5.other W6 (Or.inr (slot_ne (Or.inr (own_w hw 134 rfl)) (Or.inr (own_w hw 136 rfl)) (by decide) (t := .byte) (t' := (.array .byte)) (by decide) (by decide)))), ((r3_1.other W5 (Ne.symm (Nat.ne_of_lt (Nat.lt_of_lt_of_le u3.lt r3_0)))).other W6 (Ne.symm (Nat.ne_of_lt (Nat.lt_of_lt_of_le u3.lt r3_0))))⟩
theorem d18_0 : decode jdk_42_method_3_code 0 = .ok (.aload_n 0, 1) := by decide +kernel
theorem d18_1 : decode jdk_42_method_3_code 1 = .ok (.aload_n 1, 1) := by decide +kernel
theorem d18_2 : decode jdk_42_method_3_code 2 = .ok (.iconst 0, 1) := by decide +kernel
theorem d18_3 : decode jdk_42_method_3_code 3 = .ok (.aload_n 1, 1) := by decide +kernel
theorem d18_4 : decode jdk_42_method_3_code 4 = .ok (.arraylength, 1) := by decide +kernel
theorem d18_5 : decode jdk_42_method_3_code 5 = .ok (.aconst_null, 1) := by decide +kernel
theorem pd_6 : parseMethodDescriptor "([CIILjava/lang/Void;)V" = some ⟨[(.array .char), .int, .int, (.object "java/lang/Void")], none⟩ := by decide +kernel
theorem d18_6 : decode jdk_42_method_3_code 6 = .ok (.invokespecial 27, 3) := by decide +kernel
theorem d18_9 : decode jdk_42_method_3_code 9 = .ok (.return_, 1) := by decide +kernel
abbrev own_y8 : MethodName := ⟨"java/lang/String", "<init>", "([C)V"⟩
theorem ef_rmSC2 (m : MethodId) (a : Addr) (sr : Addr) : entryFrame m #[(.ref a), (.ref sr)] 2 = mkF m 0 #[.val (.ref a), .val (.ref sr)] [] := by first | (simp [entryFrame, mkF, argsToLocals, Value.category]; done) | rfl
def Q_rmSC2 (Z : State) (a : Addr) (sr : Addr) (cs : Int32) (kc : ClassId) (ch0 : Int32) (ch1 : Int32) (h0 : Heap) (n0 : Nat) (v_ : Option Value) (h_ : Heap) (L_ : List Loc) : Prop := ∃ d : Addr, ∃ k : ClassId, v_ = none ∧ Fr n0 L_ ∧ Keep h0 h_ [a] ∧ h0.size ≤ d ∧ Fld Z h_ a "java/lang/String" "value" "[B" (.ref d) ∧ Fld Z h_ a "java/lang/String" "coder" "B" (.int (0 : Int32)) ∧ Arv Z h_ d k .byte (2 : Int32) [(.int (ch0).toInt8.toInt32), (.int (ch1).toInt8.toInt32)] (.int (0 : Int32))
set_option maxRecDepth 65536 in
set_option maxHeartbeats 40000000 in
theorem rmSC2 (l : Launch) (Z : State) (a0 : Array Value) (hw : ∀ d ∈ tables_1, d.before a0 Z = true) (ws : List Jvm.Cond) (a : Addr) (sr : Addr) (cs : Int32) (kc : ClassId) (ch0 : Int32) (ch1 : Int32) (h0 : Heap) (n0 : Nat) (Z0 : n0 ≤ h0.size) (O0 : Old Z n0 h0) (u1 : Sta Z Z.heap "java/lang/String" "COMPACT_STRINGS" "Z" (.int cs)) (hcs : ¬ (cs = (0 : Int32))) (u3 : Exa Z h0 a "java/lang/String") (u4 : Fld Z h0 a "java/lang/String" "value" "[B" .null) (u5 : Fld Z h0 a "java/lang/String" "coder" "B" (.int (0 : Int32))) (u6 : n0 ≤ a) (u7 : Arv Z h0 sr kc .char (2 : Int32) [(.int ch0), (.int ch1)] (.int (0 : Int32))) (hch0 : ¬ ((255 : Int32) < ch0)) (hch1 : ¬ ((255 : Int32) < ch1)) :
    MetFree l own_y8 (head1 (Jvm.Cond.code own_y8 jdk_42_method_3_code 2 none :: ws) ({ frames := 3, cells := 1, slots := 2, locals := 52 } : Room)) (fun a_ U_ => a_ = #[(.ref a), (.ref sr)] ∧ Z.Warmed39 U_.vm ∧ U_.heap = h0) (fun _ _ _ _ _ => True) (fun _ U_ o_ U2_ => ∃ v_ L_, o_ = .returned v_ ∧ Q_rmSC2 Z a sr cs kc ch0 ch1 h0 n0 v_ U2_.heap L_ ∧ FrameEnd U_ o_ U2_ L_ ({ frames := 3, cells := 1, slots := 2, locals := 52 } : Room).cells ({ frames := 3, cells := 1, slots := 2, locals := 52 } : Room).slots) := by
  refine MetFree.of_bodySF (plainFor_of_name pn_1) hisR ?_
  intro p e s m args below meth c s₁ Bd hml0 hP hK
  obtain ⟨rfl, hZ, hh⟩ := hP
  have hx := Bd.exec
  have hby := Bd.bytes
  have hml : c.maxLocals = 2 := hml0
  have hown : s.vm.findClass "java/lang/String" = some m.cls := findClass_of_methodNamed Bd.named
  have hnm := (name_of_methodNamed Bd.named Bd.method).1
  have X0 : Stand p l e ({ frames := 3, cells := 1, slots := 2, locals := 52 } : Room) s m #[(.ref a), (.ref sr)] below meth c s₁ [] 0 0 := Stand.of_body Bd
  have e0 : s₁.heap = h0 := by rw [← hh, Bd.state]; rfl
  have N0 := Fr.nil n0
  refine own_go (A := s₁.setTop (mkF m 0 #[.val (.ref a), .val (.ref sr)] [])) (fun t_ k_ => castTop (ef_rmSC2 m a sr) k_) ?_
  obtain ⟨cl1, Ar1, q1, S1, M1, H1, G1⟩ := id u7
  refine own_go (A := s₁.setTop (mkF m 6 #[.val (.ref a), .val (.ref sr)] [.null, (.int (2 : Int32)), (.int (0 : Int32)), (.ref sr), (.ref a)])) (fun t_ k_ => ?_) ?_
  · show Steps p.tables e below (s₁.setTop (mkF m 0 #[.val (.ref a), .val (.ref sr)] [])) t_
    refine XS.aloadN X0.here hx rfl (hb hby d18_0) rfl rfl ?_
    show Steps p.tables e below (s₁.setTop (mkF m 1 #[.val (.ref a), .val (.ref sr)] [(.ref a)])) t_
    refine XS.aloadN X0.here hx rfl (hb hby d18_1) rfl rfl ?_
    show Steps p.tables e below (s₁.setTop (mkF m 2 #[.val (.ref a), .val (.ref sr)] [(.ref sr), (.ref a)])) t_
    refine XS.iconst X0.here hx rfl (hb hby d18_2) ?_
    show Steps p.tables e below (s₁.setTop (mkF m 3 #[.val (.ref a), .val (.ref sr)] [(.int (0 : Int32)), (.ref sr), (.ref a)])) t_
    refine XS.aloadN X0.here hx rfl (hb hby d18_3) rfl rfl ?_
    show Steps p.tables e below (s₁.setTop (mkF m 4 #[.val (.ref a), .val (.ref sr)] [(.ref sr), (.int (0 : Int32)), (.ref sr), (.ref a)])) t_
    refine X0.arraylength hx (by rw [e0]; exact Ar1.1) (State.isArrayOf_alike hZ.alike Ar1.2.1) (g := (mkF m 4 #[.val (.ref a), .val (.ref sr)] [(.ref sr), (.int (0 : Int32)), (.ref sr), (.ref a)])) rfl rfl (hb hby d18_4) _ ?_
    rw [len_of S1 M1]
    show Steps p.tables e below (s₁.setTop (mkF m 5 #[.val (.ref a), .val (.ref sr)] [(.int (2 : Int32)), (.int (0 : Int32)), (.ref sr), (.ref a)])) t_
    refine XS.aconstNull X0.here hx rfl (hb hby d18_5) ?_
    exact k_
  obtain ⟨_, _, ⟨T2, L2, k2, n2⟩, -, X2, ⟨Lc2, hQ2, l2, y2, z2⟩, st2⟩ := X0.specialBack hx (y := own_y7) rfl hown (mvT hZ (own_w hw 116 rfl)) (mvT hZ (own_w hw 117 rfl)) (mvT hZ (own_w hw 119 rfl)) (by decide) (backOf (W := 0) (rmSCV2 l Z a0 hw [] a sr cs kc ch0 ch1 h0 n0 Z0 O0 u1 hcs u3 u4 u5 u6 u7 hch0 hch1) hZ (own_w hw 119 rfl) (own_w hw 112 rfl) (by decide) (by decide)) (g := (mkF m 6 #[.val (.ref a), .val (.ref sr)] [.null, (.int (2 : Int32)), (.int (0 : Int32)), (.ref sr), (.ref a)])) rfl (by rw [hml]; rfl) (Steps.refl _) (a := a) (argsL := [(.ref sr), (.int (0 : Int32)), (.int (2 : Int32)), .null]) (rest := []) (lenOf pd_6 rfl) rfl (by show 2 * 0 + _ ≤ _; exact Nat.le_of_eq rfl) (hb hby d18_6) (fun _ _ => ⟨rfl, e0, (by decide : 0 + 1 ≤ _), (by decide : 0 + 2 ≤ _)⟩)
  dsimp only [Pt.U, Pt.locs, Pt.cells, Pt.slots] at X2 l2 y2 z2 st2 hQ2
  subst l2 y2 z2
  obtain ⟨d_2, k_2, rfl, N2q, Kc2, r2_0, r2_1, r2_2, r2_3⟩ := hQ2
  have N2 := Fr.app N0 N2q
  refine own_via st2 ?_
  have K2 : Keep h0 T2.heap [a] := (Keep.refl h0 [a]).trans Kc2 (allS (P := fun x => x ∈ _ ∨ _ ≤ x) (Or.inl (List.mem_of_getElem? (i := 0) rfl)) all0)
  have O2 := O0.keep Kc2 (allS (P := fun x => n0 ≤ x) u6 all0)
  obtain ⟨fs3, hr3, hrun3, hended3, hW3, hsame3⟩ := X2.leave (v := none) (fun _ => rfl)
  refine ⟨_, _, ?_, hrun3, hended3, _, _, rfl, ?_, ⟨_, rfl⟩, hW3, hsame3.mono (by decide) (by decide)⟩
  · exact X2.returnOut hx Bd.returns (hb hby d18_9) hr3
  · show Q_rmSC2 Z a sr cs kc ch0 ch1 h0 n0 _ T2.heap _
    exact ⟨d_2, k_2, rfl, N2, K2, r2_0, r2_1, r2_2, r2_3⟩
theorem ef_rmCmpL3 (m : MethodId) (sr : Addr) (ds : Addr) : entryFrame m #[(.ref sr), (.int (0 : Int32)), (.ref ds), (.int (0 : Int32)), (.int (3 : Int32))] 7 = mkF m 0 #[.val (.ref sr), .val (.int (0 : Int32)), .val (.ref ds), .val (.int (0 : Int32)), .val (.int (3 : Int32)), .unset, .unset] [] := by first | (simp [entryFrame, mkF, argsToLocals, Value.category]; done) | rfl
def Q_rmCmpL3 (Z : State) (sr : Addr) (ds : Addr) (kc : ClassId) (kb : ClassId) (ch0 : Int32) (ch1 : Int32) (ch2 : Int32) (h0 : Heap) (n0 : Nat) (v_ : Option Value) (h_ : Heap) (L_ : List Loc) : Prop := v_ = some (.int (3 : Int32)) ∧ Fr n0 L_ ∧ Keep h0 h_ [ds] ∧ Arv Z h_ ds kb .byte (3 : Int32) [(.int (ch0).toInt8.toInt32), (.int (ch1).toInt8.toInt32), (.int (ch2).toInt8.toInt32)] (.int (0 : Int32))
set_option maxRecDepth 65536 in
set_option maxHeartbeats 40000000 in
theorem rmCmpL3 (l : Launch) (Z : State) (a0 : Array Value) (hw : ∀ d ∈ tables_1, d.before a0 Z = true) (ws : List Jvm.Cond) (sr : Addr) (ds : Addr) (kc : ClassId) (kb : ClassId) (ch0 : Int32) (ch1 : Int32) (ch2 : Int32) (h0 : Heap) (n0 : Nat) (Z0 : n0 ≤ h0.size) (u0 : Arv Z h0 sr kc .char (3 : Int32) [(.int ch0), (.int ch1), (.int ch2)] (.int (0 : Int32))) (u1 : Arv Z h0 ds kb .byte (3 : Int32) [(.int (0 : Int32)), (.int (0 : Int32)), (.int (0 : Int32))] (.int (0 : Int32))) (u2 : n0 ≤ ds) (u3 : sr ≠ ds) (hch0 : ¬ ((255 : Int32) < ch0)) (hch1 : ¬ ((255 : Int32) < ch1)) (hch2 : ¬ ((255 : Int32) < ch2)) :
    MetFree l own_y4 (head1 (Jvm.Cond.code own_y4 jdk_52_method_21_code 7 (some .int) :: ws) ({ frames := 0, cells := 0, slots := 0, locals := 0 } : Room)) (fun a_ U_ => a_ = #[(.ref sr), (.int (0 : Int32)), (.ref ds), (.int (0 : Int32)), (.int (3 : Int32))] ∧ Z.Warmed39 U_.vm ∧ U_.heap = h0) (fun _ _ _ _ _ => True) (fun _ U_ o_ U2_ => ∃ v_ L_, o_ = .returned v_ ∧ Q_rmCmpL3 Z sr ds kc kb ch0 ch1 ch2 h0 n0 v_ U2_.heap L_ ∧ FrameEnd U_ o_ U2_ L_ ({ frames := 0, cells := 0, slots := 0, locals := 0 } : Room).cells ({ frames := 0, cells := 0, slots := 0, locals := 0 } : Room).slots) := by
  refine MetFree.of_bodySF (plainFor_of_name pn_2) hisR ?_
  intro p e s m args below meth c s₁ Bd hml0 hP hK
  obtain ⟨rfl, hZ, hh⟩ := hP
  have hx := Bd.exec
  have hby := Bd.bytes
  have hml : c.maxLocals = 7 := hml0
  have hown : s.vm.findClass "java/lang/StringUTF16" = some m.cls := findClass_of_methodNamed Bd.named
  have hnm := (name_of_methodNamed Bd.named Bd.method).1
  have X0 : Stand p l e ({ frames := 0, cells := 0, slots := 0, locals := 0 } : Room) s m #[(.ref sr), (.int (0 : Int32)), (.ref ds), (.int (0 : Int32)), (.int (3 : Int32))] below meth c s₁ [] 0 0 := Stand.of_body Bd
  have e0 : s₁.heap = h0 := by rw [← hh, Bd.state]; rfl
  have N0 := Fr.nil n0
  refine own_go (A := s₁.setTop (mkF m 0 #[.val (.ref sr), .val (.int (0 : Int32)), .val (.ref ds), .val (.int (0 : Int32)), .val (.int (3 : Int32)), .unset, .unset] [])) (fun t_ k_ => castTop (ef_rmCmpL3 m sr ds) k_) ?_
  obtain ⟨cl1, Ar1, q1, S1, M1, H1, G1⟩ := id u0
  have hin1 : ¬ ((0 : Int32) < 0 ∨ cl1.slots.size ≤ ((0 : Int32)).toNatClampNeg) := inb_of S1 ⟨by decide, by decide⟩
  have hat1 : cl1.slots[((0 : Int32)).toNatClampNeg]? = some (.int ch0) := Has.at H1 hin1 rfl
  refine own_go (A := s₁.setTop (mkF m 31 #[.val (.ref sr), .val (.int (0 : Int32)), .val (.ref ds), .val (.int (0 : Int32)), .val (.int (3 : Int32)), .val (.int (0 : Int32)), .val (.int ch0)] [(.int (ch0).toInt8.toInt32), (.int (0 : Int32)), (.ref ds)])) (fun t_ k_ => ?_) ?_
  · show Steps p.tables e below (s₁.setTop (mkF m 0 #[.val (.ref sr), .val (.int (0 : Int32)), .val (.ref ds), .val (.int (0 : Int32)), .val (.int (3 : Int32)), .unset, .unset] [])) t_
    refine XS.iconst X0.here hx rfl (hb hby d21_0) ?_
    show Steps p.tables e below (s₁.setTop (mkF m 1 #[.val (.ref sr), .val (.int (0 : Int32)), .val (.ref ds), .val (.int (0 : Int32)), .val (.int (3 : Int32)), .unset, .unset] [(.int (0 : Int32))])) t_
    refine XS.istore X0.here hx rfl (hb hby d21_1) rfl (l' := #[.val (.ref sr), .val (.int (0 : Int32)), .val (.ref ds), .val (.int (0 : Int32)), .val (.int (3 : Int32)), .val (.int (0 : Int32)), .unset]) rfl ?_
    show Steps p.tables e below (s₁.setTop (mkF m 3 #[.val (.ref sr), .val (.int (0 : Int32)), .val (.ref ds), .val (.int (0 : Int32)), .val (.int (3 : Int32)), .val (.int (0 : Int32)), .unset] [])) t_
    refine XS.iload X0.here hx rfl (hb hby d21_3) rfl ?_
    show Steps p.tables e below (s₁.setTop (mkF m 5 #[.val (.ref sr), .val (.int (0 : Int32)), .val (.ref ds), .val (.int (0 : Int32)), .val (.int (3 : Int32)), .val (.int (0 : Int32)), .unset] [(.int (0 : Int32))])) t_
    refine XS.iload X0.here hx rfl (hb hby d21_5) rfl ?_
    show Steps p.tables e below (s₁.setTop (mkF m 7 #[.val (.ref sr), .val (.int (0 : Int32)), .val (.ref ds), .val (.int (0 : Int32)), .val (.int (3 : Int32)), .val (.int (0 : Int32)), .unset] [(.int (3 : Int32)), (.int (0 : Int32))])) t_
    refine XS.icmpNo X0.here hx rfl (hb hby d21_7) rfl (tlt (by decide : (0 : Int32) < (3 : Int32))).2.1 ?_
    show Steps p.tables e below (s₁.setTop (mkF m 10 #[.val (.ref sr), .val (.int (0 : Int32)), .val (.ref ds), .val (.int (0 : Int32)), .val (.int (3 : Int32)), .val (.int (0 : Int32)), .unset] [])) t_
    refine XS.aloadN X0.here hx rfl (hb hby d21_10) rfl rfl ?_
    show Steps p.tables e below (s₁.setTop (mkF m 11 #[.val (.ref sr), .val (.int (0 : Int32)), .val (.ref ds), .val (.int (0 : Int32)), .val (.int (3 : Int32)), .val (.int (0 : Int32)), .unset] [(.ref sr)])) t_
    refine XS.iloadN X0.here hx rfl (hb hby d21_11) rfl ?_
    show Steps p.tables e below (s₁.setTop (mkF m 12 #[.val (.ref sr), .val (.int (0 : Int32)), .val (.ref ds), .val (.int (0 : Int32)), .val (.int (3 : Int32)), .val (.int (0 : Int32)), .unset] [(.int (0 : Int32)), (.ref sr)])) t_
    refine X0.caload hx (j := (0 : Int32)) (v := (.int ch0)) (by rw [e0]; exact Ar1.1) (State.isArrayOf_alike hZ.alike Ar1.2.1) Ar1.2.2 hin1 hat1 (g := (mkF m 12 #[.val (.ref sr), .val (.int (0 : Int32)), .val (.ref ds), .val (.int (0 : Int32)), .val (.int (3 : Int32)), .val (.int (0 : Int32)), .unset] [(.int (0 : Int32)), (.ref sr)])) rfl rfl (hb hby d21_12) _ ?_
    show Steps p.tables e below (s₁.setTop (mkF m 13 #[.val (.ref sr), .val (.int (0 : Int32)), .val (.ref ds), .val (.int (0 : Int32)), .val (.int (3 : Int32)), .val (.int (0 : Int32)), .unset] [(.int ch0)])) t_
    refine XS.istore X0.here hx rfl (hb hby d21_13) rfl (l' := #[.val (.ref sr), .val (.int (0 : Int32)), .val (.ref ds), .val (.int (0 : Int32)), .val (.int (3 : Int32)), .val (.int (0 : Int32)), .val (.int ch0)]) rfl ?_
    show Steps p.tables e below (s₁.setTop (mkF m 15 #[.val (.ref sr), .val (.int (0 : Int32)), .val (.ref ds), .val (.int (0 : Int32)), .val (.int (3 : Int32)), .val (.int (0 : Int32)), .val (.int ch0)] [])) t_
    refine XS.iload X0.here hx rfl (hb hby d21_15) rfl ?_
    show Steps p.tables e below (s₁.setTop (mkF m 17 #[.val (.ref sr), .val (.int (0 : Int32)), .val (.ref ds), .val (.int (0 : Int32)), .val (.int (3 : Int32)), .val (.int (0 : Int32)), .val (.int ch0)] [(.int ch0)])) t_
    refine XS.sipush X0.here hx rfl (hb hby d21_17) ?_
    show Steps p.tables e below (s₁.setTop (mkF m 20 #[.val (.ref sr), .val (.int (0 : Int32)), .val (.ref ds), .val (.int (0 : Int32)), .val (.int (3 : Int32)), .val (.int (0 : Int32)), .val (.int ch0)] [(.int (255 : Int32)), (.int ch0)])) t_
    refine XS.icmpYes X0.here hx rfl (pc0 := 20) (pc' := 26) rfl (hb hby d21_20) rfl (flt hch0).2.2.2 (by decide) (by decide) ?_
    show Steps p.tables e below (s₁.setTop (mkF m 26 #[.val (.ref sr), .val (.int (0 : Int32)), .val (.ref ds), .val (.int (0 : Int32)), .val (.int (3 : Int32)), .val (.int (0 : Int32)), .val (.int ch0)] [])) t_
    refine XS.aloadN X0.here hx rfl (hb hby d21_26) rfl rfl ?_
    show Steps p.tables e below (s₁.setTop (mkF m 27 #[.val (.ref sr), .val (.int (0 : Int32)), .val (.ref ds), .val (.int (0 : Int32)), .val (.int (3 : Int32)), .val (.int (0 : Int32)), .val (.int ch0)] [(.ref ds)])) t_
    refine XS.iloadN X0.here hx rfl (hb hby d21_27) rfl ?_
    show Steps p.tables e below (s₁.setTop (mkF m 28 #[.val (.ref sr), .val (.int (0 : Int32)), .val (.ref ds), .val (.int (0 : Int32)), .val (.int (3 : Int32)), .val (.int (0 : Int32)), .val (.int ch0)] [(.int (0 : Int32)), (.ref ds)])) t_
    refine XS.iload X0.here hx rfl (hb hby d21_28) rfl ?_
    show Steps p.tables e below (s₁.setTop (mkF m 30 #[.val (.ref sr), .val (.int (0 : Int32)), .val (.ref ds), .val (.int (0 : Int32)), .val (.int (3 : Int32)), .val (.int (0 : Int32)), .val (.int ch0)] [(.int ch0), (.int (0 : Int32)), (.ref ds)])) t_
    refine XS.i2b X0.here hx rfl (hb hby d21_30) rfl ?_
    exact k_
  obtain ⟨cl2, Ar2, q2, S2, M2, H2, G2⟩ := id u1
  have hin2 : ¬ ((0 : Int32) < 0 ∨ cl2.slots.size ≤ ((0 : Int32)).toNatClampNeg) := inb_of S2 ⟨by decide, by decide⟩
  obtain ⟨T3, h3, X3, e3, W3, st3⟩ := stB X0 hx hZ e0 Ar2 (j := (0 : Int32)) hin2 (g := (mkF m 31 #[.val (.ref sr), .val (.int (0 : Int32)), .val (.ref ds), .val (.int (0 : Int32)), .val (.int (3 : Int32)), .val (.int (0 : Int32)), .val (.int ch0)] [(.int (ch0).toInt8.toInt32), (.int (0 : Int32)), (.ref ds)])) rfl rfl (hb hby d21_31)
  rw [own_narb] at W3
  have B3 : Arv Z h3 ds kb .byte (3 : Int32) [(.int (ch0).toInt8.toInt32), (.int (0 : Int32)), (.int (0 : Int32))] (.int (0 : Int32)) := Arv.set Ar2 q2 S2 M2 H2 G2 (fits_nar_byte _) W3 0 rfl (Nat.le_of_ble_eq_true rfl)
  refine own_go st3 ?_
  have K3 : Keep h0 h3 [ds] := (Keep.refl h0 [ds]).wr W3 (Or.inl (List.mem_of_getElem? (i := 0) rfl))
  have N3 := Fr.snoc X3 N0 u2
  obtain ⟨cl4, Ar4, q4, S4, M4, H4, G4⟩ := id (u0.other W3 u3)
  have hin4 : ¬ ((1 : Int32) < 0 ∨ cl4.slots.size ≤ ((1 : Int32)).toNatClampNeg) := inb_of S4 ⟨by decide, by decide⟩
  have hat4 : cl4.slots[((1 : Int32)).toNatClampNeg]? = some (.int ch1) := Has.at H4 hin4 rfl
  refine own_go (A := T3.setTop (mkF m 31 #[.val (.ref sr), .val (.int (1 : Int32)), .val (.ref ds), .val (.int (1 : Int32)), .val (.int (3 : Int32)), .val (.int (1 : Int32)), .val (.int ch1)] [(.int (ch1).toInt8.toInt32), (.int (1 : Int32)), (.ref ds)])) (fun t_ k_ => ?_) ?_
  · show Steps p.tables e below (T3.setTop (mkF m 32 #[.val (.ref sr), .val (.int (0 : Int32)), .val (.ref ds), .val (.int (0 : Int32)), .val (.int (3 : Int32)), .val (.int (0 : Int32)), .val (.int ch0)] [])) t_
    refine XS.iinc X3.here hx rfl (hb hby d21_32) rfl (l' := #[.val (.ref sr), .val (.int (1 : Int32)), .val (.ref ds), .val (.int (0 : Int32)), .val (.int (3 : Int32)), .val (.int (0 : Int32)), .val (.int ch0)]) rfl ?_
    show Steps p.tables e below (T3.setTop (mkF m 35 #[.val (.ref sr), .val (.int (1 : Int32)), .val (.ref ds), .val (.int (0 : Int32)), .val (.int (3 : Int32)), .val (.int (0 : Int32)), .val (.int ch0)] [])) t_
    refine XS.iinc X3.here hx rfl (hb hby d21_35) rfl (l' := #[.val (.ref sr), .val (.int (1 : Int32)), .val (.ref ds), .val (.int (1 : Int32)), .val (.int (3 : Int32)), .val (.int (0 : Int32)), .val (.int ch0)]) rfl ?_
    show Steps p.tables e below (T3.setTop (mkF m 38 #[.val (.ref sr), .val (.int (1 : Int32)), .val (.ref ds), .val (.int (1 : Int32)), .val (.int (3 : Int32)), .val (.int (0 : Int32)), .val (.int ch0)] [])) t_
    refine XS.iinc X3.here hx rfl (hb hby d21_38) rfl (l' := #[.val (.ref sr), .val (.int (1 : Int32)), .val (.ref ds), .val (.int (1 : Int32)), .val (.int (3 : Int32)), .val (.int (1 : Int32)), .val (.int ch0)]) rfl ?_
    show Steps p.tables e below (T3.setTop (mkF m 41 #[.val (.ref sr), .val (.int (1 : Int32)), .val (.ref ds), .val (.int (1 : Int32)), .val (.int (3 : Int32)), .val (.int (1 : Int32)), .val (.int ch0)] [])) t_
    refine XS.goto X3.here hx rfl (pc0 := 41) (pc' := 3) rfl (hb hby d21_41) (by decide) (by decide) ?_
    show Steps p.tables e below (T3.setTop (mkF m 3 #[.val (.ref sr), .val (.int (1 : Int32)), .val (.ref ds), .val (.int (1 : Int32)), .val (.int (3 : Int32)), .val (.int (1 : Int32)), .val (.int ch0)] [])) t_
    refine XS.iload X3.here hx rfl (hb hby d21_3) rfl ?_
    show Steps p.tables e below (T3.setTop (mkF m 5 #[.val (.ref sr), .val (.int (1 : Int32)), .val (.ref ds), .val (.int (1 : Int32)), .val (.int (3 : Int32)), .val (.int (1 : Int32)), .val (.int ch0)] [(.int (1 : Int32))])) t_
    refine XS.iload X3.here hx rfl (hb hby d21_5) rfl ?_
    show Steps p.tables e below (T3.setTop (mkF m 7 #[.val (.ref sr), .val (.int (1 : Int32)), .val (.ref ds), .val (.int (1 : Int32)), .val (.int (3 : Int32)), .val (.int (1 : Int32)), .val (.int ch0)] [(.int (3 : Int32)), (.int (1 : Int32))])) t_
    refine XS.icmpNo X3.here hx rfl (hb hby d21_7) rfl (tlt (by decide : (1 : Int32) < (3 : Int32))).2.1 ?_
    show Steps p.tables e below (T3.setTop (mkF m 10 #[.val (.ref sr), .val (.int (1 : Int32)), .val (.ref ds), .val (.int (1 : Int32)), .val (.int (3 : Int32)), .val (.int (1 : Int32)), .val (.int ch0)] [])) t_
    refine XS.aloadN X3.here hx rfl (hb hby d21_10) rfl rfl ?_
    show Steps p.tables e below (T3.setTop (mkF m 11 #[.val (.ref sr), .val (.int (1 : Int32)), .val (.ref ds), .val (.int (1 : Int32)), .val (.int (3 : Int32)), .val (.int (1 : Int32)), .val (.int ch0)] [(.ref sr)])) t_
    refine XS.iloadN X3.here hx rfl (hb hby d21_11) rfl ?_
    show Steps p.tables e below (T3.setTop (mkF m 12 #[.val (.ref sr), .val (.int (1 : Int32)), .val (.ref ds), .val (.int (1 : Int32)), .val (.int (3 : Int32)), .val (.int (1 : Int32)), .val (.int ch0)] [(.int (1 : Int32)), (.ref sr)])) t_
    refine X3.caload hx (j := (1 : Int32)) (v := (.int ch1)) (by rw [e3]; exact Ar4.1) (State.isArrayOf_alike hZ.alike Ar4.2.1) Ar4.2.2 hin4 hat4 (g := (mkF m 12 #[.val (.ref sr), .val (.int (1 : Int32)), .val (.ref ds), .val (.int (1 : Int32)), .val (.int (3 : Int32)), .val (.int (1 : Int32)), .val (.int ch0)] [(.int (1 : Int32)), (.ref sr)])) rfl rfl (hb hby d21_12) _ ?_
    show Steps p.tables e below (T3.setTop (mkF m 13 #[.val (.ref sr), .val (.int (1 : Int32)), .val (.ref ds), .val (.int (1 : Int32)), .val (.int (3 : Int32)), .val (.int (1 : Int32)), .val (.int ch0)] [(.int ch1)])) t_
    refine XS.istore X3.here hx rfl (hb hby d21_13) rfl (l' := #[.val (.ref sr), .val (.int (1 : Int32)), .val (.ref ds), .val (.int (1 : Int32)), .val (.int (3 : Int32)), .val (.int (1 : Int32)), .val (.int ch1)]) rfl ?_
    show Steps p.tables e below (T3.setTop (mkF m 15 #[.val (.ref sr), .val (.int (1 : Int32)), .val (.ref ds), .val (.int (1 : Int32)), .val (.int (3 : Int32)), .val (.int (1 : Int32)), .val (.int ch1)] [])) t_
    refine XS.iload X3.here hx rfl (hb hby d21_15) rfl ?_
    show Steps p.tables e below (T3.setTop (mkF m 17 #[.val (.ref sr), .val (.int (1 : Int32)), .val (.ref ds), .val (.int (1 : Int32)), .val (.int (3 : Int32)), .val (.int (1 : Int32)), .val (.int ch1)] [(.int ch1)])) t_
    refine XS.sipush X3.here hx rfl (hb hby d21_17) ?_
    show Steps p.tables e below (T3.setTop (mkF m 20 #[.val (.ref sr), .val (.int (1 : Int32)), .val (.ref ds), .val (.int (1 : Int32)), .val (.int (3 : Int32)), .val (.int (1 : Int32)), .val (.int ch1)] [(.int (255 : Int32)), (.int ch1)])) t_
    refine XS.icmpYes X3.here hx rfl (pc0 := 20) (pc' := 26) rfl (hb hby d21_20) rfl (flt hch1).2.2.2 (by decide) (by decide) ?_
    show Steps p.tables e below (T3.setTop (mkF m 26 #[.val (.ref sr), .val (.int (1 : Int32)), .val (.ref ds), .val (.int (1 : Int32)), .val (.int (3 : Int32)), .val (.int (1 : Int32)), .val (.int ch1)] [])) t_
    refine XS.aloadN X3.here hx rfl (hb hby d21_26) rfl rfl ?_
    show Steps p.tables e below (T3.setTop (mkF m 27 #[.val (.ref sr), .val (.int (1 : Int32)), .val (.ref ds), .val (.int (1 : Int32)), .val (.int (3 : Int32)), .val (.int (1 : Int32)), .val (.int ch1)] [(.ref ds)])) t_
    refine XS.iloadN X3.here hx rfl (hb hby d21_27) rfl ?_
    show Steps p.tables e below (T3.setTop (mkF m 28 #[.val (.ref sr), .val (.int (1 : Int32)), .val (.ref ds), .val (.int (1 : Int32)), .val (.int (3 : Int32)), .val (.int (1 : Int32)), .val (.int ch1)] [(.int (1 : Int32)), (.ref ds)])) t_
    refine XS.iload X3.here hx rfl (hb hby d21_28) rfl ?_
    show Steps p.tables e below (T3.setTop (mkF m 30 #[.val (.ref sr), .val (.int (1 : Int32)), .val (.ref ds), .val (.int (1 : Int32)), .val (.int (3 : Int32)), .val (.int (1 : Int32)), .val (.int ch1)] [(.int ch1), (.int (1 : Int32)), (.ref ds)])) t_
    refine XS.i2b X3.here hx rfl (hb hby d21_30) rfl ?_
    exact k_
  obtain ⟨cl5, Ar5, q5, S5, M5, H5, G5⟩ := id B3
  have hin5 : ¬ ((1 : Int32) < 0 ∨ cl5.slots.size ≤ ((1 : Int32)).toNatClampNeg) := inb_of S5 ⟨by decide, by decide⟩
  obtain ⟨T6, h6, X6, e6, W6, st6⟩ := stB X3 hx hZ e3 Ar5 (j := (1 : Int32)) hin5 (g := (mkF m 31 #[.val (.ref sr), .val (.int (1 : Int32)), .val (.ref ds), .val (.int (1 : Int32)), .val (.int (3 : Int32)), .val (.int (1 : Int32)), .val (.int ch1)] [(.int (ch1).toInt8.toInt32), (.int (1 : Int32)), (.ref ds)])) rfl rfl (hb hby d21_31)
  rw [own_narb] at W6
  have B6 : Arv Z h6 ds kb .byte (3 : Int32) [(.int (ch0).toInt8.toInt32), (.int (ch1).toInt8.toInt32), (.int (0 : Int32))] (.int (0 : Int32)) := Arv.set Ar5 q5 S5 M5 H5 G5 (fits_nar_byte _) W6 1 rfl (Nat.le_of_ble_eq_true rfl)
  refine own_go st6 ?_
  have K6 : Keep h0 h6 [ds] := K3.wr W6 (Or.inl (List.mem_of_getElem? (i := 0) rfl))
  have N6 := Fr.snoc X6 N3 u2
  obtain ⟨cl7, Ar7, q7, S7, M7, H7, G7⟩ := id ((u0.other W3 u3).other W6 u3)
  have hin7 : ¬ ((2 : Int32) < 0 ∨ cl7.slots.size ≤ ((2 : Int32)).toNatClampNeg) := inb_of S7 ⟨by decide, by decide⟩
  have hat7 : cl7.slots[((2 : Int32)).toNatClampNeg]? = some (.int ch2) := Has.at H7 hin7 rfl
  refine own_go (A := T6.setTop (mkF m 31 #[.val (.ref sr), .val (.int (2 : Int32)), .val (.ref ds), .val (.int (2 : Int32)), .val (.int (3 : Int32)), .val (.int (2 : Int32)), .val (.int ch2)] [(.int (ch2).toInt8.toInt32), (.int (2 : Int32)), (.ref ds)])) (fun t_ k_ => ?_) ?_
  · show Steps p.tables e below (T6.setTop (mkF m 32 #[.val (.ref sr), .val (.int (1 : Int32)), .val (.ref ds), .val (.int (1 : Int32)), .val (.int (3 : Int32)), .val (.int (1 : Int32)), .val (.int ch1)] [])) t_
    refine XS.iinc X6.here hx rfl (hb hby d21_32) rfl (l' := #[.val (.ref sr), .val (.int (2 : Int32)), .val (.ref ds), .val (.int (1 : Int32)), .val (.int (3 : Int32)), .val (.int (1 : Int32)), .val (.int ch1)]) rfl ?_
    show Steps p.tables e below (T6.setTop (mkF m 35 #[.val (.ref sr), .val (.int (2 : Int32)), .val (.ref ds), .val (.int (1 : Int32)), .val (.int (3 : Int32)), .val (.int (1 : Int32)), .val (.int ch1)] [])) t_
    refine XS.iinc X6.here hx rfl (hb hby d21_35) rfl (l' := #[.val (.ref sr), .val (.int (2 : Int32)), .val (.ref ds), .val (.int (2 : Int32)), .val (.int (3 : Int32)), .val (.int (1 : Int32)), .val (.int ch1)]) rfl ?_
    show Steps p.tables e below (T6.setTop (mkF m 38 #[.val (.ref sr), .val (.int (2 : Int32)), .val (.ref ds), .val (.int (2 : Int32)), .val (.int (3 : Int32)), .val (.int (1 : Int32)), .val (.int ch1)] [])) t_
    refine XS.iinc X6.here hx rfl (hb hby d21_38) rfl (l' := #[.val (.ref sr), .val (.int (2 : Int32)), .val (.ref ds), .val (.int (2 : Int32)), .val (.int (3 : Int32)), .val (.int (2 : Int32)), .val (.int ch1)]) rfl ?_
    show Steps p.tables e below (T6.setTop (mkF m 41 #[.val (.ref sr), .val (.int (2 : Int32)), .val (.ref ds), .val (.int (2 : Int32)), .val (.int (3 : Int32)), .val (.int (2 : Int32)), .val (.int ch1)] [])) t_
    refine XS.goto X6.here hx rfl (pc0 := 41) (pc' := 3) rfl (hb hby d21_41) (by decide) (by decide) ?_
    show Steps p.tables e below (T6.setTop (mkF m 3 #[.val (.ref sr), .val (.int (2 : Int32)), .val (.ref ds), .val (.int (2 : Int32)), .val (.int (3 : Int32)), .val (.int (2 : Int32)), .val (.int ch1)] [])) t_
    refine XS.iload X6.here hx rfl (hb hby d21_3) rfl ?_
    show Steps p.tables e below (T6.setTop (mkF m 5 #[.val (.ref sr), .val (.int (2 : Int32)), .val (.ref ds), .val (.int (2 : Int32)), .val (.int (3 : Int32)), .val (.int (2 : Int32)), .val (.int ch1)] [(.int (2 : Int32))])) t_
    refine XS.iload X6.here hx rfl (hb hby d21_5) rfl ?_
    show Steps p.tables e below (T6.setTop (mkF m 7 #[.val (.ref sr), .val (.int (2 : Int32)), .val (.ref ds), .val (.int (2 : Int32)), .val (.int (3 : Int32)), .val (.int (2 : Int32)), .val (.int ch1)] [(.int (3 : Int32)), (.int (2 : Int32))])) t_
    refine XS.icmpNo X6.here hx rfl (hb hby d21_7) rfl (tlt (by decide : (2 : Int32) < (3 : Int32))).2.1 ?_
    show Steps p.tables e below (T6.setTop (mkF m 10 #[.val (.ref sr), .val (.int (2 : Int32)), .val (.ref ds), .val (.int (2 : Int32)), .val (.int (3 : Int32)), .val (.int (2 : Int32)), .val (.int ch1)] [])) t_
    refine XS.aloadN X6.here hx rfl (hb hby d21_10) rfl rfl ?_
    show Steps p.tables e below (T6.setTop (mkF m 11 #[.val (.ref sr), .val (.int (2 : Int32)), .val (.ref ds), .val (.int (2 : Int32)), .val (.int (3 : Int32)), .val (.int (2 : Int32)), .val (.int ch1)] [(.ref sr)])) t_
    refine XS.iloadN X6.here hx rfl (hb hby d21_11) rfl ?_
    show Steps p.tables e below (T6.setTop (mkF m 12 #[.val (.ref sr), .val (.int (2 : Int32)), .val (.ref ds), .val (.int (2 : Int32)), .val (.int (3 : Int32)), .val (.int (2 : Int32)), .val (.int ch1)] [(.int (2 : Int32)), (.ref sr)])) t_
    refine X6.caload hx (j := (2 : Int32)) (v := (.int ch2)) (by rw [e6]; exact Ar7.1) (State.isArrayOf_alike hZ.alike Ar7.2.1) Ar7.2.2 hin7 hat7 (g := (mkF m 12 #[.val (.ref sr), .val (.int (2 : Int32)), .val (.ref ds), .val (.int (2 : Int32)), .val (.int (3 : Int32)), .val (.int (2 : Int32)), .val (.int ch1)] [(.int (2 : Int32)), (.ref sr)])) rfl rfl (hb hby d21_12) _ ?_
    show Steps p.tables e below (T6.setTop (mkF m 13 #[.val (.ref sr), .val (.int (2 : Int32)), .val (.ref ds), .val (.int (2 : Int32)), .val (.int (3 : Int32)), .val (.int (2 : Int32)), .val (.int ch1)] [(.int ch2)])) t_
    refine XS.istore X6.here hx rfl (hb hby d21_13) rfl (l' := #[.val (.ref sr), .val (.int (2 : Int32)), .val (.ref ds), .val (.int (2 : Int32)), .val (.int (3 : Int32)), .val (.int (2 : Int32)), .val (.int ch2)]) rfl ?_
    show Steps p.tables e below (T6.setTop (mkF m 15 #[.val (.ref sr), .val (.int (2 : Int32)), .val (.ref ds), .val (.int (2 : Int32)), .val (.int (3 : Int32)), .val (.int (2 : Int32)), .val (.int ch2)] [])) t_
    refine XS.iload X6.here hx rfl (hb hby d21_15) rfl ?_
    show Steps p.tables e below (T6.setTop (mkF m 17 #[.val (.ref sr), .val (.int (2 : Int32)), .val (.ref ds), .val (.int (2 : Int32)), .val (.int (3 : Int32)), .val (.int (2 : Int32)), .val (.int ch2)] [(.int ch2)])) t_
    refine XS.sipush X6.here hx rfl (hb hby d21_17) ?_
    show Steps p.tables e below (T6.setTop (mkF m 20 #[.val (.ref sr), .val (.int (2 : Int32)), .val (.ref ds), .val (.int (2 : Int32)), .val (.int (3 : Int32)), .val (.int (2 : Int32)), .val (.int ch2)] [(.int (255 : Int32)), (.int ch2)])) t_
    refine XS.icmpYes X6.here hx rfl (pc0 := 20) (pc' := 26) rfl (hb hby d21_20) rfl (flt hch2).2.2.2 (by decide) (by decide) ?_
    show Steps p.tables e below (T6.setTop (mkF m 26 #[.val (.ref sr), .val (.int (2 : Int32)), .val (.ref ds), .val (.int (2 : Int32)), .val (.int (3 : Int32)), .val (.int (2 : Int32)), .val (.int ch2)] [])) t_
    refine XS.aloadN X6.here hx rfl (hb hby d21_26) rfl rfl ?_
    show Steps p.tables e below (T6.setTop (mkF m 27 #[.val (.ref sr), .val (.int (2 : Int32)), .val (.ref ds), .val (.int (2 : Int32)), .val (.int (3 : Int32)), .val (.int (2 : Int32)), .val (.int ch2)] [(.ref ds)])) t_
    refine XS.iloadN X6.here hx rfl (hb hby d21_27) rfl ?_
    show Steps p.tables e below (T6.setTop (mkF m 28 #[.val (.ref sr), .val (.int (2 : Int32)), .val (.ref ds), .val (.int (2 : Int32)), .val (.int (3 : Int32)), .val (.int (2 : Int32)), .val (.int ch2)] [(.int (2 : Int32)), (.ref ds)])) t_
    refine XS.iload X6.here hx rfl (hb hby d21_28) rfl ?_
    show Steps p.tables e below (T6.setTop (mkF m 30 #[.val (.ref sr), .val (.int (2 : Int32)), .val (.ref ds), .val (.int (2 : Int32)), .val (.int (3 : Int32)), .val (.int (2 : Int32)), .val (.int ch2)] [(.int ch2), (.int (2 : Int32)), (.ref ds)])) t_
    refine XS.i2b X6.here hx rfl (hb hby d21_30) rfl ?_
    exact k_
  obtain ⟨cl8, Ar8, q8, S8, M8, H8, G8⟩ := id B6
  have hin8 : ¬ ((2 : Int32) < 0 ∨ cl8.slots.size ≤ ((2 : Int32)).toNatClampNeg) := inb_of S8 ⟨by decide, by decide⟩
  obtain ⟨T9, h9, X9, e9, W9, st9⟩ := stB X6 hx hZ e6 Ar8 (j := (2 : Int32)) hin8 (g := (mkF m 31 #[.val (.ref sr), .val (.int (2 : Int32)), .val (.ref ds), .val (.int (2 : Int32)), .val (.int (3 : Int32)), .val (.int (2 : Int32)), .val (.int ch2)] [(.int (ch2).toInt8.toInt32), (.int (2 : Int32)), (.ref ds)])) rfl rfl (hb hby d21_31)
  rw [own_narb] at W9
  have B9 : Arv Z h9 ds kb .byte (3 : Int32) [(.int (ch0).toInt8.toInt32), (.int (ch1).toInt8.toInt32), (.int (ch2).toInt8.toInt32)] (.int (0 : Int32)) := Arv.set Ar8 q8 S8 M8 H8 G8 (fits_nar_byte _) W9 2 rfl (Nat.le_of_ble_eq_true rfl)
  refine own_go st9 ?_
  have K9 : Keep h0 h9 [ds] := K6.wr W9 (Or.inl (List.mem_of_getElem? (i := 0) rfl))
  have N9 := Fr.snoc X9 N6 u2
  refine own_go (A := T9.setTop (mkF m 46 #[.val (.ref sr), .val (.int (3 : Int32)), .val (.ref ds), .val (.int (3 : Int32)), .val (.int (3 : Int32)), .val (.int (3 : Int32)), .val (.int ch2)] [(.int (3 : Int32))])) (fun t_ k_ => ?_) ?_
  · show Steps p.tables e below (T9.setTop (mkF m 32 #[.val (.ref sr), .val (.int (2 : Int32)), .val (.ref ds), .val (.int (2 : Int32)), .val (.int (3 : Int32)), .val (.int (2 : Int32)), .val (.int ch2)] [])) t_
    refine XS.iinc X9.here hx rfl (hb hby d21_32) rfl (l' := #[.val (.ref sr), .val (.int (3 : Int32)), .val (.ref ds), .val (.int (2 : Int32)), .val (.int (3 : Int32)), .val (.int (2 : Int32)), .val (.int ch2)]) rfl ?_
    show Steps p.tables e below (T9.setTop (mkF m 35 #[.val (.ref sr), .val (.int (3 : Int32)), .val (.ref ds), .val (.int (2 : Int32)), .val (.int (3 : Int32)), .val (.int (2 : Int32)), .val (.int ch2)] [])) t_
    refine XS.iinc X9.here hx rfl (hb hby d21_35) rfl (l' := #[.val (.ref sr), .val (.int (3 : Int32)), .val (.ref ds), .val (.int (3 : Int32)), .val (.int (3 : Int32)), .val (.int (2 : Int32)), .val (.int ch2)]) rfl ?_
    show Steps p.tables e below (T9.setTop (mkF m 38 #[.val (.ref sr), .val (.int (3 : Int32)), .val (.ref ds), .val (.int (3 : Int32)), .val (.int (3 : Int32)), .val (.int (2 : Int32)), .val (.int ch2)] [])) t_
    refine XS.iinc X9.here hx rfl (hb hby d21_38) rfl (l' := #[.val (.ref sr), .val (.int (3 : Int32)), .val (.ref ds), .val (.int (3 : Int32)), .val (.int (3 : Int32)), .val (.int (3 : Int32)), .val (.int ch2)]) rfl ?_
    show Steps p.tables e below (T9.setTop (mkF m 41 #[.val (.ref sr), .val (.int (3 : Int32)), .val (.ref ds), .val (.int (3 : Int32)), .val (.int (3 : Int32)), .val (.int (3 : Int32)), .val (.int ch2)] [])) t_
    refine XS.goto X9.here hx rfl (pc0 := 41) (pc' := 3) rfl (hb hby d21_41) (by decide) (by decide) ?_
    show Steps p.tables e below (T9.setTop (mkF m 3 #[.val (.ref sr), .val (.int (3 : Int32)), .val (.ref ds), .val (.int (3 : Int32)), .val (.int (3 : Int32)), .val (.int (3 : Int32)), .val (.int ch2)] [])) t_
    refine XS.iload X9.here hx rfl (hb hby d21_3) rfl ?_
    show Steps p.tables e below (T9.setTop (mkF m 5 #[.val (.ref sr), .val (.int (3 : Int32)), .val (.ref ds), .val (.int (3 : Int32)), .val (.int (3 : Int32)), .val (.int (3 : Int32)), .val (.int ch2)] [(.int (3 : Int32))])) t_
    refine XS.iload X9.here hx rfl (hb hby d21_5) rfl ?_
    show Steps p.tables e below (T9.setTop (mkF m 7 #[.val (.ref sr), .val (.int (3 : Int32)), .val (.ref ds), .val (.int (3 : Int32)), .val (.int (3 : Int32)), .val (.int (3 : Int32)), .val (.int ch2)] [(.int (3 : Int32)), (.int (3 : Int32))])) t_
    refine XS.icmpYes X9.here hx rfl (pc0 := 7) (pc' := 44) rfl (hb hby d21_7) rfl (flt (by decide : ¬ ((3 : Int32) < (3 : Int32)))).2.1 (by decide) (by decide) ?_
    show Steps p.tables e below (T9.setTop (mkF m 44 #[.val (.ref sr), .val (.int (3 : Int32)), .val (.ref ds), .val (.int (3 : Int32)), .val (.int (3 : Int32)), .val (.int (3 : Int32)), .val (.int ch2)] [])) t_
    refine XS.iload X9.here hx rfl (hb hby d21_44) rfl ?_
    exact k_
  obtain ⟨fs10, hr10, hrun10, hended10, hW10, hsame10⟩ := X9.leave (v := some (.int (3 : Int32))) (fun h => by rw [Bd.returns] at h; cases h)
  refine ⟨_, _, ?_, hrun10, hended10, _, _, rfl, ?_, ⟨_, rfl⟩, hW10, hsame10.mono (by decide) (by decide)⟩
  · exact own_retI X9 hx Bd.returns (hb hby d21_46) hr10
  · show Q_rmCmpL3 Z sr ds kc kb ch0 ch1 ch2 h0 n0 _ T9.heap _
    rw [e9]
    exact ⟨rfl, N9, K9, B9⟩
theorem ef_rmCmp3 (m : MethodId) (sr : Addr) : entryFrame m #[(.ref sr), (.int (0 : Int32)), (.int (3 : Int32))] 6 = mkF m 0 #[.val (.ref sr), .val (.int (0 : Int32)), .val (.int (3 : Int32)), .unset, .unset, .unset] [] := by first | (simp [entryFrame, mkF, argsToLocals, Value.category]; done) | rfl
def Q_rmCmp3 (Z : State) (sr : Addr) (kc : ClassId) (ch0 : Int32) (ch1 : Int32) (ch2 : Int32) (h0 : Heap) (n0 : Nat) (v_ : Option Value) (h_ : Heap) (L_ : List Loc) : Prop := ∃ d : Addr, ∃ k : ClassId, v_ = some (.ref d) ∧ Fr n0 L_ ∧ Keep h0 h_ [] ∧ h0.size ≤ d ∧ Arv Z h_ d k .byte (3 : Int32) [(.int (ch0).toInt8.toInt32), (.int (ch1).toInt8.toInt32), (.int (ch2).toInt8.toInt32)] (.int (0 : Int32))
set_option maxRecDepth 65536 in
set_option maxHeartbeats 40000000 in
theorem rmCmp3 (l : Launch) (Z : State) (a0 : Array Value) (hw : ∀ d ∈ tables_1, d.before a0 Z = true) (ws : List Jvm.Cond) (sr : Addr) (kc : ClassId) (ch0 : Int32) (ch1 : Int32) (ch2 : Int32) (h0 : Heap) (n0 : Nat) (Z0 : n0 ≤ h0.size) (u0 : Arv Z h0 sr kc .char (3 : Int32) [(.int ch0), (.int ch1), (.int ch2)] (.int (0 : Int32))) (hch0 : ¬ ((255 : Int32) < ch0)) (hch1 : ¬ ((255 : Int32) < ch1)) (hch2 : ¬ ((255 : Int32) < ch2)) :
    MetFree l own_y5 (head1 (Jvm.Cond.code own_y5 jdk_52_method_16_code 6 (some (.array .byte)) :: ws) ({ frames := 1, cells := 1, slots := 3, locals := 18 } : Room)) (fun a_ U_ => a_ = #[(.ref sr), (.int (0 : Int32)), (.int (3 : Int32))] ∧ Z.Warmed39 U_.vm ∧ U_.heap = h0) (fun _ _ _ _ _ => True) (fun _ U_ o_ U2_ => ∃ v_ L_, o_ = .returned v_ ∧ Q_rmCmp3 Z sr kc ch0 ch1 ch2 h0 n0 v_ U2_.heap L_ ∧ FrameEnd U_ o_ U2_ L_ ({ frames := 1, cells := 1, slots := 3, locals := 18 } : Room).cells ({ frames := 1, cells := 1, slots := 3, locals := 18 } : Room).slots) := by
  refine MetFree.of_bodySF (plainFor_of_name pn_2) hisR ?_
  intro p e s m args below meth c s₁ Bd hml0 hP hK
  obtain ⟨rfl, hZ, hh⟩ := hP
  have hx := Bd.exec
  have hby := Bd.bytes
  have hml : c.maxLocals = 6 := hml0
  have hown : s.vm.findClass "java/lang/StringUTF16" = some m.cls := findClass_of_methodNamed Bd.named
  have hnm := (name_of_methodNamed Bd.named Bd.method).1
  have X0 : Stand p l e ({ frames := 1, cells := 1, slots := 3, locals := 18 } : Room) s m #[(.ref sr), (.int (0 : Int32)), (.int (3 : Int32))] below meth c s₁ [] 0 0 := Stand.of_body Bd
  have e0 : s₁.heap = h0 := by rw [← hh, Bd.state]; rfl
  have N0 := Fr.nil n0
  refine own_go (A := s₁.setTop (mkF m 0 #[.val (.ref sr), .val (.int (0 : Int32)), .val (.int (3 : Int32)), .unset, .unset, .unset] [])) (fun t_ k_ => castTop (ef_rmCmp3 m sr) k_) ?_
  refine own_go (A := s₁.setTop (mkF m 1 #[.val (.ref sr), .val (.int (0 : Int32)), .val (.int (3 : Int32)), .unset, .unset, .unset] [(.int (3 : Int32))])) (fun t_ k_ => ?_) ?_
  · show Steps p.tables e below (s₁.setTop (mkF m 0 #[.val (.ref sr), .val (.int (0 : Int32)), .val (.int (3 : Int32)), .unset, .unset, .unset] [])) t_
    refine XS.iloadN X0.here hx rfl (hb hby d20_0) rfl ?_
    exact k_
  obtain ⟨T1, h1, k1, X1, e1, E1, A1, st1⟩ := newP X0 hx hZ (own_w hw 126 rfl) e0 (g := (mkF m 1 #[.val (.ref sr), .val (.int (0 : Int32)), .val (.int (3 : Int32)), .unset, .unset, .unset] [(.int (3 : Int32))])) rfl (hb hby d20_1) rfl (by decide) (cap := 3) (by decide) (by decide) (by decide) (by decide)
  obtain ⟨b1, g1⟩ : ∃ z, z = h0.size := ⟨_, rfl⟩
  rw [← g1] at A1 st1
  refine own_go st1 ?_
  have K1 : Keep h0 h1 [] := (Keep.refl h0 []).ext E1
  have B1 : Arv Z h1 b1 k1 .byte (3 : Int32) [(.int (0 : Int32)), (.int (0 : Int32)), (.int (0 : Int32))] (.int (0 : Int32)) := (Arv.new A1 (by decide)).pad (pad_rep [] (.int (0 : Int32)) 3)
  refine own_go (A := T1.setTop (mkF m 9 #[.val (.ref sr), .val (.int (0 : Int32)), .val (.int (3 : Int32)), .val (.ref b1), .unset, .unset] [(.int (3 : Int32)), (.int (0 : Int32)), (.ref b1), (.int (0 : Int32)), (.ref sr)])) (fun t_ k_ => ?_) ?_
  · show Steps p.tables e below (T1.setTop (mkF m 3 #[.val (.ref sr), .val (.int (0 : Int32)), .val (.int (3 : Int32)), .unset, .unset, .unset] [(.ref b1)])) t_
    refine XS.astoreN X1.here hx rfl (hb hby d20_3) rfl rfl (l' := #[.val (.ref sr), .val (.int (0 : Int32)), .val (.int (3 : Int32)), .val (.ref b1), .unset, .unset]) rfl ?_
    show Steps p.tables e below (T1.setTop (mkF m 4 #[.val (.ref sr), .val (.int (0 : Int32)), .val (.int (3 : Int32)), .val (.ref b1), .unset, .unset] [])) t_
    refine XS.aloadN X1.here hx rfl (hb hby d20_4) rfl rfl ?_
    show Steps p.tables e below (T1.setTop (mkF m 5 #[.val (.ref sr), .val (.int (0 : Int32)), .val (.int (3 : Int32)), .val (.ref b1), .unset, .unset] [(.ref sr)])) t_
    refine XS.iloadN X1.here hx rfl (hb hby d20_5) rfl ?_
    show Steps p.tables e below (T1.setTop (mkF m 6 #[.val (.ref sr), .val (.int (0 : Int32)), .val (.int (3 : Int32)), .val (.ref b1), .unset, .unset] [(.int (0 : Int32)), (.ref sr)])) t_
    refine XS.aloadN X1.here hx rfl (hb hby d20_6) rfl rfl ?_
    show Steps p.tables e below (T1.setTop (mkF m 7 #[.val (.ref sr), .val (.int (0 : Int32)), .val (.int (3 : Int32)), .val (.ref b1), .unset, .unset] [(.ref b1), (.int (0 : Int32)), (.ref sr)])) t_
    refine XS.iconst X1.here hx rfl (hb hby d20_7) ?_
    show Steps p.tables e below (T1.setTop (mkF m 8 #[.val (.ref sr), .val (.int (0 : Int32)), .val (.int (3 : Int32)), .val (.ref b1), .unset, .unset] [(.int (0 : Int32)), (.ref b1), (.int (0 : Int32)), (.ref sr)])) t_
    refine XS.iloadN X1.here hx rfl (hb hby d20_8) rfl ?_
    exact k_
  obtain ⟨_, _, ⟨T2, L2, k2, n2⟩, -, X2, ⟨Lc2, hQ2, l2, y2, z2⟩, st2⟩ := Jvm.LawKit.callS X1 hx (y := own_y4) hown (mvT hZ (own_w hw 127 rfl)) (mvT hZ (own_w hw 128 rfl)) (mvT hZ (own_w hw 124 rfl)) (mvT hZ (own_w hw 129 rfl)) (by decide) (backOf (W := 0) (rmCmpL3 l Z a0 hw [] sr b1 kc k1 ch0 ch1 ch2 h1 n0 (Nat.le_trans Z0 K1.1) (u0.ext E1) B1 (Nat.le_trans Z0 (Nat.le_of_eq g1.symm)) (Nat.ne_of_lt (Nat.lt_of_lt_of_le u0.lt (Nat.le_of_eq g1.symm))) hch0 hch1 hch2) hZ (own_w hw 129 rfl) (own_w hw 124 rfl) (by decide) (by decide)) (g := (mkF m 9 #[.val (.ref sr), .val (.int (0 : Int32)), .val (.int (3 : Int32)), .val (.ref b1), .unset, .unset] [(.int (3 : Int32)), (.int (0 : Int32)), (.ref b1), (.int (0 : Int32)), (.ref sr)])) rfl (by rw [hml]; rfl) (argsL := [(.ref sr), (.int (0 : Int32)), (.ref b1), (.int (0 : Int32)), (.int (3 : Int32))]) (rest := []) (lenOf pd_3 rfl) rfl (by show 2 * 0 + _ ≤ _; exact Nat.le_of_eq rfl) (hb hby d20_9) (fun _ _ => ⟨rfl, e1, (by decide : 1 + 0 ≤ _), (by decide : 3 + 0 ≤ _)⟩)
  dsimp only [Pt.U, Pt.locs, Pt.cells, Pt.slots] at X2 l2 y2 z2 st2 hQ2
  subst l2 y2 z2
  obtain ⟨rfl, N2q, Kc2, r2_0⟩ := hQ2
  have N2 := Fr.app N0 N2q
  refine own_go st2 ?_
  have K2 : Keep h0 T2.heap [] := K1.trans Kc2 (allS (P := fun x => x ∈ _ ∨ _ ≤ x) (Or.inr (Nat.le_of_eq g1.symm)) all0)
  refine own_go (A := T2.setTop (mkF m 58 #[.val (.ref sr), .val (.int (0 : Int32)), .val (.int (3 : Int32)), .val (.ref b1), .val (.int (3 : Int32)), .unset] [(.ref b1)])) (fun t_ k_ => ?_) ?_
  · show Steps p.tables e below (T2.setTop (mkF m 12 #[.val (.ref sr), .val (.int (0 : Int32)), .val (.int (3 : Int32)), .val (.ref b1), .unset, .unset] [(.int (3 : Int32))])) t_
    refine XS.istore X2.here hx rfl (hb hby d20_12) rfl (l' := #[.val (.ref sr), .val (.int (0 : Int32)), .val (.int (3 : Int32)), .val (.ref b1), .val (.int (3 : Int32)), .unset]) rfl ?_
    show Steps p.tables e below (T2.setTop (mkF m 14 #[.val (.ref sr), .val (.int (0 : Int32)), .val (.int (3 : Int32)), .val (.ref b1), .val (.int (3 : Int32)), .unset] [])) t_
    refine XS.iload X2.here hx rfl (hb hby d20_14) rfl ?_
    show Steps p.tables e below (T2.setTop (mkF m 16 #[.val (.ref sr), .val (.int (0 : Int32)), .val (.int (3 : Int32)), .val (.ref b1), .val (.int (3 : Int32)), .unset] [(.int (3 : Int32))])) t_
    refine XS.iloadN X2.here hx rfl (hb hby d20_16) rfl ?_
    show Steps p.tables e below (T2.setTop (mkF m 17 #[.val (.ref sr), .val (.int (0 : Int32)), .val (.int (3 : Int32)), .val (.ref b1), .val (.int (3 : Int32)), .unset] [(.int (3 : Int32)), (.int (3 : Int32))])) t_
    refine XS.icmpYes X2.here hx rfl (pc0 := 17) (pc' := 57) rfl (hb hby d20_17) rfl (teq (by decide : (3 : Int32) = (3 : Int32))).1 (by decide) (by decide) ?_
    show Steps p.tables e below (T2.setTop (mkF m 57 #[.val (.ref sr), .val (.int (0 : Int32)), .val (.int (3 : Int32)), .val (.ref b1), .val (.int (3 : Int32)), .unset] [])) t_
    refine XS.aloadN X2.here hx rfl (hb hby d20_57) rfl rfl ?_
    exact k_
  obtain ⟨fs3, hr3, hrun3, hended3, hW3, hsame3⟩ := X2.leave (v := some (.ref b1)) (fun h => by rw [Bd.returns] at h; cases h)
  refine ⟨_, _, ?_, hrun3, hended3, _, _, rfl, ?_, ⟨_, rfl⟩, hW3, hsame3.mono (by decide) (by decide)⟩
  · exact own_retA X2 hx Bd.returns rfl rfl rfl (hb hby d20_58) hr3
  · show Q_rmCmp3 Z sr kc ch0 ch1 ch2 h0 n0 _ T2.heap _
    exact ⟨b1, k1, rfl, N2, K2, (Nat.le_of_eq g1.symm), r2_0⟩
theorem ef_rmCfa3 (m : MethodId) (d : Addr) : entryFrame m #[(.ref d), (.int (3 : Int32))] 2 = mkF m 0 #[.val (.ref d), .val (.int (3 : Int32))] [] := by first | (simp [entryFrame, mkF, argsToLocals, Value.category]; done) | rfl
def Q_rmCfa3 (Z : State) (d : Addr) (k : ClassId) (vs : List Value) (h0 : Heap) (n0 : Nat) (v_ : Option Value) (h_ : Heap) (L_ : List Loc) : Prop := v_ = some (.int (0 : Int32)) ∧ Fr n0 L_ ∧ h_ = h0
set_option maxRecDepth 65536 in
set_option maxHeartbeats 40000000 in
theorem rmCfa3 (l : Launch) (Z : State) (a0 : Array Value) (hw : ∀ d ∈ tables_1, d.before a0 Z = true) (ws : List Jvm.Cond) (d : Addr) (k : ClassId) (vs : List Value) (h0 : Heap) (n0 : Nat) (Z0 : n0 ≤ h0.size) (u0 : Arv Z h0 d k .byte (3 : Int32) vs (.int (0 : Int32))) :
    MetFree l own_y6 (head1 (Jvm.Cond.code own_y6 jdk_52_method_15_code 2 (some .byte) :: ws) ({ frames := 0, cells := 0, slots := 0, locals := 0 } : Room)) (fun a_ U_ => a_ = #[(.ref d), (.int (3 : Int32))] ∧ Z.Warmed39 U_.vm ∧ U_.heap = h0) (fun _ _ _ _ _ => True) (fun _ U_ o_ U2_ => ∃ v_ L_, o_ = .returned v_ ∧ Q_rmCfa3 Z d k vs h0 n0 v_ U2_.heap L_ ∧ FrameEnd U_ o_ U2_ L_ ({ frames := 0, cells := 0, slots := 0, locals := 0 } : Room).cells ({ frames := 0, cells := 0, slots := 0, locals := 0 } : Room).slots) := by
  refine MetFree.of_bodySF (plainFor_of_name pn_2) hisR ?_
  intro p e s m args below meth c s₁ Bd hml0 hP hK
  obtain ⟨rfl, hZ, hh⟩ := hP
  have hx := Bd.exec
  have hby := Bd.bytes
  have hml : c.maxLocals = 2 := hml0
  have hown : s.vm.findClass "java/lang/StringUTF16" = some m.cls := findClass_of_methodNamed Bd.named
  have hnm := (name_of_methodNamed Bd.named Bd.method).1
  have X0 : Stand p l e ({ frames := 0, cells := 0, slots := 0, locals := 0 } : Room) s m #[(.ref d), (.int (3 : Int32))] below meth c s₁ [] 0 0 := Stand.of_body Bd
  have e0 : s₁.heap = h0 := by rw [← hh, Bd.state]; rfl
  have N0 := Fr.nil n0
  refine own_go (A := s₁.setTop (mkF m 0 #[.val (.ref d), .val (.int (3 : Int32))] [])) (fun t_ k_ => castTop (ef_rmCfa3 m d) k_) ?_
  obtain ⟨cl1, Ar1, q1, S1, M1, H1, G1⟩ := id u0
  refine own_go (A := s₁.setTop (mkF m 8 #[.val (.ref d), .val (.int (3 : Int32))] [(.int ((((0 : Int32)).toUInt32 >>> ((31 : Int32) &&& 31).toUInt32).toInt32).toInt8.toInt32)])) (fun t_ k_ => ?_) ?_
  · show Steps p.tables e below (s₁.setTop (mkF m 0 #[.val (.ref d), .val (.int (3 : Int32))] [])) t_
    refine XS.iloadN X0.here hx rfl (hb hby d22_0) rfl ?_
    show Steps p.tables e below (s₁.setTop (mkF m 1 #[.val (.ref d), .val (.int (3 : Int32))] [(.int (3 : Int32))])) t_
    refine XS.aloadN X0.here hx rfl (hb hby d22_1) rfl rfl ?_
    show Steps p.tables e below (s₁.setTop (mkF m 2 #[.val (.ref d), .val (.int (3 : Int32))] [(.ref d), (.int (3 : Int32))])) t_
    refine X0.arraylength hx (by rw [e0]; exact Ar1.1) (State.isArrayOf_alike hZ.alike Ar1.2.1) (g := (mkF m 2 #[.val (.ref d), .val (.int (3 : Int32))] [(.ref d), (.int (3 : Int32))])) rfl rfl (hb hby d22_2) _ ?_
    rw [len_of S1 M1]
    show Steps p.tables e below (s₁.setTop (mkF m 3 #[.val (.ref d), .val (.int (3 : Int32))] [(.int (3 : Int32)), (.int (3 : Int32))])) t_
    refine XS.isub X0.here hx rfl (hb hby d22_3) rfl ?_
    show Steps p.tables e below (s₁.setTop (mkF m 4 #[.val (.ref d), .val (.int (3 : Int32))] [(.int (0 : Int32))])) t_
    refine XS.bipush X0.here hx rfl (hb hby d22_4) ?_
    show Steps p.tables e below (s₁.setTop (mkF m 6 #[.val (.ref d), .val (.int (3 : Int32))] [(.int (31 : Int32)), (.int (0 : Int32))])) t_
    refine XS.iushr X0.here hx rfl (hb hby d22_6) rfl ?_
    show Steps p.tables e below (s₁.setTop (mkF m 7 #[.val (.ref d), .val (.int (3 : Int32))] [(.int (((0 : Int32)).toUInt32 >>> ((31 : Int32) &&& 31).toUInt32).toInt32)])) t_
    refine XS.i2b X0.here hx rfl (hb hby d22_7) rfl ?_
    exact k_
  obtain ⟨fs2, hr2, hrun2, hended2, hW2, hsame2⟩ := X0.leave (v := some (.int (nar .byte ((((0 : Int32)).toUInt32 >>> ((31 : Int32) &&& 31).toUInt32).toInt32).toInt8.toInt32))) (fun h => by rw [Bd.returns] at h; cases h)
  refine ⟨_, _, ?_, hrun2, hended2, _, _, rfl, ?_, ⟨_, rfl⟩, hW2, hsame2.mono (by decide) (by decide)⟩
  · exact retN X0 hx (t := .byte) Bd.returns (by simp) (hb hby d22_8) hr2
  · show Q_rmCfa3 Z d k vs h0 n0 _ s₁.heap _
    rw [e0]
    exact ⟨rfl, N0, rfl⟩
theorem ef_rmSCV3 (m : MethodId) (a : Addr) (sr : Addr) : entryFrame m #[(.ref a), (.ref sr), (.int (0 : Int32)), (.int (3 : Int32)), .null] 6 = mkF m 0 #[.val (.ref a), .val (.ref sr), .val (.int (0 : Int32)), .val (.int (3 : Int32)), .val .null, .unset] [] := by first | (simp [entryFrame, mkF, argsToLocals, Value.category]; done) | rfl
def Q_rmSCV3 (Z : State) (a : Addr) (sr : Addr) (cs : Int32) (kc : ClassId) (ch0 : Int32) (ch1 : Int32) (ch2 : Int32) (h0 : Heap) (n0 : Nat) (v_ : Option Value) (h_ : Heap) (L_ : List Loc) : Prop := ∃ d : Addr, ∃ k : ClassId, v_ = none ∧ Fr n0 L_ ∧ Keep h0 h_ [a] ∧ h0.size ≤ d ∧ Fld Z h_ a "java/lang/String" "value" "[B" (.ref d) ∧ Fld Z h_ a "java/lang/String" "coder" "B" (.int (0 : Int32)) ∧ Arv Z h_ d k .byte (3 : Int32) [(.int (ch0).toInt8.toInt32), (.int (ch1).toInt8.toInt32), (.int (ch2).toInt8.toInt32)] (.int (0 : Int32))
set_option maxRecDepth 65536 in
set_option maxHeartbeats 40000000 in
theorem rmSCV3 (l : Launch) (Z : State) (a0 : Array Value) (hw : ∀ d ∈ tables_1, d.before a0 Z = true) (ws : List Jvm.Cond) (a : Addr) (sr : Addr) (cs : Int32) (kc : ClassId) (ch0 : Int32) (ch1 : Int32) (ch2 : Int32) (h0 : Heap) (n0 : Nat) (Z0 : n0 ≤ h0.size) (O0 : Old Z n0 h0) (u1 : Sta Z Z.heap "java/lang/String" "COMPACT_STRINGS" "Z" (.int cs)) (hcs : ¬ (cs = (0 : Int32))) (u3 : Exa Z h0 a "java/lang/String") (u4 : Fld Z h0 a "java/lang/String" "value" "[B" .null) (u5 : Fld Z h0 a "java/lang/String" "coder" "B" (.int (0 : Int32))) (u6 : n0 ≤ a) (u7 : Arv Z h0 sr kc .char (3 : Int32) [(.int ch0), (.int ch1), (.int ch2)] (.int (0 : Int32))) (hch0 : ¬ ((255 : Int32) < ch0)) (hch1 : ¬ ((255 : Int32) < ch1)) (hch2 : ¬ ((255 : Int32) < ch2)) :
    MetFree l own_y7 (head1 (Jvm.Cond.code own_y7 jdk_42_method_149_code 6 none :: ws) ({ frames := 2, cells := 1, slots := 3, locals := 35 } : Room)) (fun a_ U_ => a_ = #[(.ref a), (.ref sr), (.int (0 : Int32)), (.int (3 : Int32)), .null] ∧ Z.Warmed39 U_.vm ∧ U_.heap = h0) (fun _ _ _ _ _ => True) (fun _ U_ o_ U2_ => ∃ v_ L_, o_ = .returned v_ ∧ Q_rmSCV3 Z a sr cs kc ch0 ch1 ch2 h0 n0 v_ U2_.heap L_ ∧ FrameEnd U_ o_ U2_ L_ ({ frames := 2, cells := 1, slots := 3, locals := 35 } : Room).cells ({ frames := 2, cells := 1, slots := 3, locals := 35 } : Room).slots) := by
  refine MetFree.of_bodySF (plainFor_of_name pn_1) hisR ?_
  intro p e s m args below meth c s₁ Bd hml0 hP hK
  obtain ⟨rfl, hZ, hh⟩ := hP
  have hx := Bd.exec
  have hby := Bd.bytes
  have hml : c.maxLocals = 6 := hml0
  have hown : s.vm.findClass "java/lang/String" = some m.cls := findClass_of_methodNamed Bd.named
  have hnm := (name_of_methodNamed Bd.named Bd.method).1
  have X0 : Stand p l e ({ frames := 2, cells := 1, slots := 3, locals := 35 } : Room) s m #[(.ref a), (.ref sr), (.int (0 : Int32)), (.int (3 : Int32)), .null] below meth c s₁ [] 0 0 := Stand.of_body Bd
  have e0 : s₁.heap = h0 := by rw [← hh, Bd.state]; rfl
  have N0 := Fr.nil n0
  refine own_go (A := s₁.setTop (mkF m 0 #[.val (.ref a), .val (.ref sr), .val (.int (0 : Int32)), .val (.int (3 : Int32)), .val .null, .unset] [])) (fun t_ k_ => castTop (ef_rmSCV3 m a sr) k_) ?_
  refine own_go (A := s₁.setTop (mkF m 1 #[.val (.ref a), .val (.ref sr), .val (.int (0 : Int32)), .val (.int (3 : Int32)), .val .null, .unset] [(.ref a)])) (fun t_ k_ => ?_) ?_
  · show Steps p.tables e below (s₁.setTop (mkF m 0 #[.val (.ref a), .val (.ref sr), .val (.int (0 : Int32)), .val (.int (3 : Int32)), .val .null, .unset] [])) t_
    refine XS.aloadN X0.here hx rfl (hb hby d19_0) rfl rfl ?_
    exact k_
  obtain ⟨T1, X1, e1, st1⟩ := initO X0 hx hZ hown (own_w hw 120 rfl) (own_w hw 19 rfl) (own_w hw 20 rfl) e0 (g := (mkF m 1 #[.val (.ref a), .val (.ref sr), .val (.int (0 : Int32)), .val (.int (3 : Int32)), .val .null, .unset] [(.ref a)])) rfl (by rw [hml]; rfl) rfl (hb hby d19_1) (by decide) (W := 0) (by show 2 * 0 + _ ≤ _; exact Nat.le_of_eq rfl) (by decide)
  refine own_go st1 ?_
  refine own_go (A := T1.setTop (mkF m 27 #[.val (.ref a), .val (.ref sr), .val (.int (0 : Int32)), .val (.int (3 : Int32)), .val .null, .unset] [])) (fun t_ k_ => ?_) ?_
  · show Steps p.tables e below (T1.setTop (mkF m 4 #[.val (.ref a), .val (.ref sr), .val (.int (0 : Int32)), .val (.int (3 : Int32)), .val .null, .unset] [])) t_
    refine XS.iloadN X1.here hx rfl (hb hby d19_4) rfl ?_
    show Steps p.tables e below (T1.setTop (mkF m 5 #[.val (.ref a), .val (.ref sr), .val (.int (0 : Int32)), .val (.int (3 : Int32)), .val .null, .unset] [(.int (3 : Int32))])) t_
    refine XS.ifYes X1.here hx rfl (pc0 := 5) (pc' := 27) rfl (hb hby d19_5) rfl ((if0 _ _).trans (feq (by decide : ¬ ((3 : Int32) = (0 : Int32)))).2) (by decide) (by decide) ?_
    exact k_
  obtain ⟨T2, X2, e2, st2⟩ := getS2 X1 hx hZ hown (host := "") (Or.inl (own_w hw 121 rfl)) Via.refl e1 (u1.ext O0.2) (g := (mkF m 27 #[.val (.ref a), .val (.ref sr), .val (.int (0 : Int32)), .val (.int (3 : Int32)), .val .null, .unset] [])) rfl (hb hby d19_27)
  refine own_go st2 ?_
  refine own_go (A := T2.setTop (mkF m 36 #[.val (.ref a), .val (.ref sr), .val (.int (0 : Int32)), .val (.int (3 : Int32)), .val .null, .unset] [(.int (3 : Int32)), (.int (0 : Int32)), (.ref sr)])) (fun t_ k_ => ?_) ?_
  · show Steps p.tables e below (T2.setTop (mkF m 30 #[.val (.ref a), .val (.ref sr), .val (.int (0 : Int32)), .val (.int (3 : Int32)), .val .null, .unset] [(.int cs)])) t_
    refine XS.ifNo X2.here hx rfl (hb hby d19_30) rfl ((if0 _ _).trans (feq hcs).1) ?_
    show Steps p.tables e below (T2.setTop (mkF m 33 #[.val (.ref a), .val (.ref sr), .val (.int (0 : Int32)), .val (.int (3 : Int32)), .val .null, .unset] [])) t_
    refine XS.aloadN X2.here hx rfl (hb hby d19_33) rfl rfl ?_
    show Steps p.tables e below (T2.setTop (mkF m 34 #[.val (.ref a), .val (.ref sr), .val (.int (0 : Int32)), .val (.int (3 : Int32)), .val .null, .unset] [(.ref sr)])) t_
    refine XS.iloadN X2.here hx rfl (hb hby d19_34) rfl ?_
    show Steps p.tables e below (T2.setTop (mkF m 35 #[.val (.ref a), .val (.ref sr), .val (.int (0 : Int32)), .val (.int (3 : Int32)), .val .null, .unset] [(.int (0 : Int32)), (.ref sr)])) t_
    refine XS.iloadN X2.here hx rfl (hb hby d19_35) rfl ?_
    exact k_
  obtain ⟨_, _, ⟨T3, L3, k3, n3⟩, -, X3, ⟨Lc3, hQ3, l3, y3, z3⟩, st3⟩ := Jvm.LawKit.callS X2 hx (y := own_y5) hown (mvT hZ (own_w hw 122 rfl)) (mvT hZ (own_w hw 123 rfl)) (mvT hZ (own_w hw 124 rfl)) (mvT hZ (own_w hw 125 rfl)) (by decide) (backOf (W := 0) (rmCmp3 l Z a0 hw [] sr kc ch0 ch1 ch2 h0 n0 Z0 u7 hch0 hch1 hch2) hZ (own_w hw 125 rfl) (own_w hw 124 rfl) (by decide) (by decide)) (g := (mkF m 36 #[.val (.ref a), .val (.ref sr), .val (.int (0 : Int32)), .val (.int (3 : Int32)), .val .null, .unset] [(.int (3 : Int32)), (.int (0 : Int32)), (.ref sr)])) rfl (by rw [hml]; rfl) (argsL := [(.ref sr), (.int (0 : Int32)), (.int (3 : Int32))]) (rest := []) (lenOf pd_4 rfl) rfl (by show 2 * 0 + _ ≤ _; exact Nat.le_of_eq rfl) (hb hby d19_36) (fun _ _ => ⟨rfl, e2, (by decide : 0 + 1 ≤ _), (by decide : 0 + 3 ≤ _)⟩)
  dsimp only [Pt.U, Pt.locs, Pt.cells, Pt.slots] at X3 l3 y3 z3 st3 hQ3
  subst l3 y3 z3
  obtain ⟨d_3, k_3, rfl, N3q, Kc3, r3_0, r3_1⟩ := hQ3
  have N3 := Fr.app N0 N3q
  refine own_go st3 ?_
  have K3 : Keep h0 T3.heap [a] := (Keep.refl h0 [a]).trans Kc3 all0
  have O3 := O0.keep Kc3 all0
  refine own_go (A := T3.setTop (mkF m 45 #[.val (.ref a), .val (.ref sr), .val (.int (0 : Int32)), .val (.int (3 : Int32)), .val .null, .val (.ref d_3)] [(.int (3 : Int32)), (.ref d_3), (.ref a)])) (fun t_ k_ => ?_) ?_
  · show Steps p.tables e below (T3.setTop (mkF m 39 #[.val (.ref a), .val (.ref sr), .val (.int (0 : Int32)), .val (.int (3 : Int32)), .val .null, .unset] [(.ref d_3)])) t_
    refine XS.astore X3.here hx rfl (hb hby d19_39) rfl rfl (l' := #[.val (.ref a), .val (.ref sr), .val (.int (0 : Int32)), .val (.int (3 : Int32)), .val .null, .val (.ref d_3)]) rfl ?_
    show Steps p.tables e below (T3.setTop (mkF m 41 #[.val (.ref a), .val (.ref sr), .val (.int (0 : Int32)), .val (.int (3 : Int32)), .val .null, .val (.ref d_3)] [])) t_
    refine XS.aloadN X3.here hx rfl (hb hby d19_41) rfl rfl ?_
    show Steps p.tables e below (T3.setTop (mkF m 42 #[.val (.ref a), .val (.ref sr), .val (.int (0 : Int32)), .val (.int (3 : Int32)), .val .null, .val (.ref d_3)] [(.ref a)])) t_
    refine XS.aload X3.here hx rfl (hb hby d19_42) rfl rfl ?_
    show Steps p.tables e below (T3.setTop (mkF m 44 #[.val (.ref a), .val (.ref sr), .val (.int (0 : Int32)), .val (.int (3 : Int32)), .val .null, .val (.ref d_3)] [(.ref d_3), (.ref a)])) t_
    refine XS.iloadN X3.here hx rfl (hb hby d19_44) rfl ?_
    exact k_
  obtain ⟨_, _, ⟨T4, L4, k4, n4⟩, -, X4, ⟨Lc4, hQ4, l4, y4, z4⟩, st4⟩ := Jvm.LawKit.callS X3 hx (y := own_y6) hown (mvT hZ (own_w hw 130 rfl)) (mvT hZ (own_w hw 131 rfl)) (mvT hZ (own_w hw 124 rfl)) (mvT hZ (own_w hw 132 rfl)) (by decide) (backOf (W := 1) (rmCfa3 l Z a0 hw [] d_3 k_3 [(.int (ch0).toInt8.toInt32), (.int (ch1).toInt8.toInt32), (.int (ch2).toInt8.toInt32)] T3.heap n0 (Nat.le_trans Z0 K3.1) r3_1) hZ (own_w hw 132 rfl) (own_w hw 124 rfl) (by decide) (by decide)) (g := (mkF m 45 #[.val (.ref a), .val (.ref sr), .val (.int (0 : Int32)), .val (.int (3 : Int32)), .val .null, .val (.ref d_3)] [(.int (3 : Int32)), (.ref d_3), (.ref a)])) rfl (by rw [hml]; rfl) (argsL := [(.ref d_3), (.int (3 : Int32))]) (rest := [(.ref a)]) (lenOf pd_5 rfl) rfl (by show 2 * 0 + _ ≤ _; exact Nat.le_of_eq rfl) (hb hby d19_45) (fun _ _ => ⟨rfl, rfl, (by decide : 1 + 0 ≤ _), (by decide : 3 + 0 ≤ _)⟩)
  dsimp only [Pt.U, Pt.locs, Pt.cells, Pt.slots] at X4 l4 y4 z4 st4 hQ4
  subst l4 y4 z4
  obtain ⟨rfl, N4q, eh4⟩ := hQ4
  have N4 := Fr.app N3 N4q
  refine own_go st4 ?_
  obtain ⟨T5, h5, X5, e5, W5, st5⟩ := putFN X4 hx hZ hown (own_w hw 133 rfl) Via.refl eh4 (u5.keep Kc3 nin0) (u3.keep Kc3) (Or.inr ⟨(own_w hw 134 rfl), rfl, hnm⟩) (own_w hw 111 rfl) (ty := .byte) (v' := (.int (0 : Int32))) (by decide) rfl rfl (g := (mkF m 48 #[.val (.ref a), .val (.ref sr), .val (.int (0 : Int32)), .val (.int (3 : Int32)), .val .null, .val (.ref d_3)] [(.int (0 : Int32)), (.ref a)])) rfl rfl (hb hby d19_48)
  have Fw5 : Fld Z h5 a "java/lang/String" "coder" "B" (.int (0 : Int32)) := (u5.keep Kc3 nin0).same W5
  refine own_go st5 ?_
  have K5 : Keep h0 h5 [a] := K3.wr W5 (Or.inl (List.mem_of_getElem? (i := 0) rfl))
  have O5 := O3.wr W5 u6
  have N5 := Fr.snoc X5 N4 u6
  refine own_go (A := T5.setTop (mkF m 54 #[.val (.ref a), .val (.ref sr), .val (.int (0 : Int32)), .val (.int (3 : Int32)), .val .null, .val (.ref d_3)] [(.ref d_3), (.ref a)])) (fun t_ k_ => ?_) ?_
  · show Steps p.tables e below (T5.setTop (mkF m 51 #[.val (.ref a), .val (.ref sr), .val (.int (0 : Int32)), .val (.int (3 : Int32)), .val .null, .val (.ref d_3)] [])) t_
    refine XS.aloadN X5.here hx rfl (hb hby d19_51) rfl rfl ?_
    show Steps p.tables e below (T5.setTop (mkF m 52 #[.val (.ref a), .val (.ref sr), .val (.int (0 : Int32)), .val (.int (3 : Int32)), .val .null, .val (.ref d_3)] [(.ref a)])) t_
    refine XS.aload X5.here hx rfl (hb hby d19_52) rfl rfl ?_
    exact k_
  obtain ⟨T6, h6, X6, e6, W6, st6⟩ := putF X5 hx hZ hown (host := "") (Or.inl (own_w hw 135 rfl)) Via.refl e5 ((u4.keep Kc3 nin0).other W5 (Or.inr (slot_ne (Or.inr (own_w hw 136 rfl)) (Or.inr (own_w hw 134 rfl)) (by decide) (t := (.array .byte)) (t' := .byte) (by decide) (by decide)))) ((u3.keep Kc3).wr W5) (Or.inr ⟨(own_w hw 136 rfl), rfl, hnm⟩) (own_w hw 111 rfl) (ty := (.array .byte)) (by decide) rfl rfl (g := (mkF m 54 #[.val (.ref a), .val (.ref sr), .val (.int (0 : Int32)), .val (.int (3 : Int32)), .val .null, .val (.ref d_3)] [(.ref d_3), (.ref a)])) rfl rfl (hb hby d19_54)
  have Fw6 : Fld Z h6 a "java/lang/String" "value" "[B" (.ref d_3) := ((u4.keep Kc3 nin0).other W5 (Or.inr (slot_ne (Or.inr (own_w hw 136 rfl)) (Or.inr (own_w hw 134 rfl)) (by decide) (t := (.array .byte)) (t' := .byte) (by decide) (by decide)))).same W6
  refine own_go st6 ?_
  have K6 : Keep h0 h6 [a] := K5.wr W6 (Or.inl (List.mem_of_getElem? (i := 0) rfl))
  have O6 := O5.wr W6 u6
  have N6 := Fr.snoc X6 N5 u6
  obtain ⟨fs7, hr7, hrun7, hended7, hW7, hsame7⟩ := X6.leave (v := none) (fun _ => rfl)
  refine ⟨_, _, ?_, hrun7, hended7, _, _, rfl, ?_, ⟨_, rfl⟩, hW7, hsame7.mono (by decide) (by decide)⟩
  · exact X6.returnOut hx Bd.returns (hb hby d19_57) hr7
  · show Q_rmSCV3 Z a sr cs kc ch0 ch1 ch2 h0 n0 _ T6.heap _
    rw [e6]
    exact ⟨d_3, k_3, rfl, N6, K6, r3_0, Fw6, (Fw5.other W6 (Or.inr (slot_ne (Or.inr (own_w hw 134 rfl)) (Or.inr (own_w hw 136 rfl)) (by decide) (t := .byte) (t' := (.array .byte)) (by decide) (by decide)))), ((r3_1.other W5 (Ne.symm (Nat.ne_of_lt (Nat.lt_of_lt_of_le u3.lt r3_0)))).other W6 (Ne.symm (Nat.ne_of_lt (Nat.lt_of_lt_of_le u3.lt r3_0))))⟩
theorem ef_rmSC3 (m : MethodId) (a : Addr) (sr : Addr) : entryFrame m #[(.ref a), (.ref sr)] 2 = mkF m 0 #[.val (.ref a), .val (.ref sr)] [] := by first | (simp [entryFrame, mkF, argsToLocals, Value.category]; done) | rfl
def Q_rmSC3 (Z : State) (a : Addr) (sr : Addr) (cs : Int32) (kc : ClassId) (ch0 : Int32) (ch1 : Int32) (ch2 : Int32) (h0 : Heap) (n0 : Nat) (v_ : Option Value) (h_ : Heap) (L_ : List Loc) : Prop := ∃ d : Addr, ∃ k : ClassId, v_ = none ∧ Fr n0 L_ ∧ Keep h0 h_ [a] ∧ h0.size ≤ d ∧ Fld Z h_ a "java/lang/String" "value" "[B" (.ref d) ∧ Fld Z h_ a "java/lang/String" "coder" "B" (.int (0 : Int32)) ∧ Arv Z h_ d k .byte (3 : Int32) [(.int (ch0).toInt8.toInt32), (.int (ch1).toInt8.toInt32), (.int (ch2).toInt8.toInt32)] (.int (0 : Int32))
set_option maxRecDepth 65536 in
set_option maxHeartbeats 40000000 in
theorem rmSC3 (l : Launch) (Z : State) (a0 : Array Value) (hw : ∀ d ∈ tables_1, d.before a0 Z = true) (ws : List Jvm.Cond) (a : Addr) (sr : Addr) (cs : Int32) (kc : ClassId) (ch0 : Int32) (ch1 : Int32) (ch2 : Int32) (h0 : Heap) (n0 : Nat) (Z0 : n0 ≤ h0.size) (O0 : Old Z n0 h0) (u1 : Sta Z Z.heap "java/lang/String" "COMPACT_STRINGS" "Z" (.int cs)) (hcs : ¬ (cs = (0 : Int32))) (u3 : Exa Z h0 a "java/lang/String") (u4 : Fld Z h0 a "java/lang/String" "value" "[B" .null) (u5 : Fld Z h0 a "java/lang/String" "coder" "B" (.int (0 : Int32))) (u6 : n0 ≤ a) (u7 : Arv Z h0 sr kc .char (3 : Int32) [(.int ch0), (.int ch1), (.int ch2)] (.int (0 : Int32))) (hch0 : ¬ ((255 : Int32) < ch0)) (hch1 : ¬ ((255 : Int32) < ch1)) (hch2 : ¬ ((255 : Int32) < ch2)) :
    MetFree l own_y8 (head1 (Jvm.Cond.code own_y8 jdk_42_method_3_code 2 none :: ws) ({ frames := 3, cells := 1, slots := 3, locals := 52 } : Room)) (fun a_ U_ => a_ = #[(.ref a), (.ref sr)] ∧ Z.Warmed39 U_.vm ∧ U_.heap = h0) (fun _ _ _ _ _ => True) (fun _ U_ o_ U2_ => ∃ v_ L_, o_ = .returned v_ ∧ Q_rmSC3 Z a sr cs kc ch0 ch1 ch2 h0 n0 v_ U2_.heap L_ ∧ FrameEnd U_ o_ U2_ L_ ({ frames := 3, cells := 1, slots := 3, locals := 52 } : Room).cells ({ frames := 3, cells := 1, slots := 3, locals := 52 } : Room).slots) := by
  refine MetFree.of_bodySF (plainFor_of_name pn_1) hisR ?_
  intro p e s m args below meth c s₁ Bd hml0 hP hK
  obtain ⟨rfl, hZ, hh⟩ := hP
  have hx := Bd.exec
  have hby := Bd.bytes
  have hml : c.maxLocals = 2 := hml0
  have hown : s.vm.findClass "java/lang/String" = some m.cls := findClass_of_methodNamed Bd.named
  have hnm := (name_of_methodNamed Bd.named Bd.method).1
  have X0 : Stand p l e ({ frames := 3, cells := 1, slots := 3, locals := 52 } : Room) s m #[(.ref a), (.ref sr)] below meth c s₁ [] 0 0 := Stand.of_body Bd
  have e0 : s₁.heap = h0 := by rw [← hh, Bd.state]; rfl
  have N0 := Fr.nil n0
  refine own_go (A := s₁.setTop (mkF m 0 #[.val (.ref a), .val (.ref sr)] [])) (fun t_ k_ => castTop (ef_rmSC3 m a sr) k_) ?_
  obtain ⟨cl1, Ar1, q1, S1, M1, H1, G1⟩ := id u7
  refine own_go (A := s₁.setTop (mkF m 6 #[.val (.ref a), .val (.ref sr)] [.null, (.int (3 : Int32)), (.int (0 : Int32)), (.ref sr), (.ref a)])) (fun t_ k_ => ?_) ?_
  · show Steps p.tables e below (s₁.setTop (mkF m 0 #[.val (.ref a), .val (.ref sr)] [])) t_
    refine XS.aloadN X0.here hx rfl (hb hby d18_0) rfl rfl ?_
    show Steps p.tables e below (s₁.setTop (mkF m 1 #[.val (.ref a), .val (.ref sr)] [(.ref a)])) t_
    refine XS.aloadN X0.here hx rfl (hb hby d18_1) rfl rfl ?_
    show Steps p.tables e below (s₁.setTop (mkF m 2 #[.val (.ref a), .val (.ref sr)] [(.ref sr), (.ref a)])) t_
    refine XS.iconst X0.here hx rfl (hb hby d18_2) ?_
    show Steps p.tables e below (s₁.setTop (mkF m 3 #[.val (.ref a), .val (.ref sr)] [(.int (0 : Int32)), (.ref sr), (.ref a)])) t_
    refine XS.aloadN X0.here hx rfl (hb hby d18_3) rfl rfl ?_
    show Steps p.tables e below (s₁.setTop (mkF m 4 #[.val (.ref a), .val (.ref sr)] [(.ref sr), (.int (0 : Int32)), (.ref sr), (.ref a)])) t_
    refine X0.arraylength hx (by rw [e0]; exact Ar1.1) (State.isArrayOf_alike hZ.alike Ar1.2.1) (g := (mkF m 4 #[.val (.ref a), .val (.ref sr)] [(.ref sr), (.int (0 : Int32)), (.ref sr), (.ref a)])) rfl rfl (hb hby d18_4) _ ?_
    rw [len_of S1 M1]
    show Steps p.tables e below (s₁.setTop (mkF m 5 #[.val (.ref a), .val (.ref sr)] [(.int (3 : Int32)), (.int (0 : Int32)), (.ref sr), (.ref a)])) t_
    refine XS.aconstNull X0.here hx rfl (hb hby d18_5) ?_
    exact k_
  obtain ⟨_, _, ⟨T2, L2, k2, n2⟩, -, X2, ⟨Lc2, hQ2, l2, y2, z2⟩, st2⟩ := X0.specialBack hx (y := own_y7) rfl hown (mvT hZ (own_w hw 116 rfl)) (mvT hZ (own_w hw 117 rfl)) (mvT hZ (own_w hw 119 rfl)) (by decide) (backOf (W := 0) (rmSCV3 l Z a0 hw [] a sr cs kc ch0 ch1 ch2 h0 n0 Z0 O0 u1 hcs u3 u4 u5 u6 u7 hch0 hch1 hch2) hZ (own_w hw 119 rfl) (own_w hw 112 rfl) (by decide) (by decide)) (g := (mkF m 6 #[.val (.ref a), .val (.ref sr)] [.null, (.int (3 : Int32)), (.int (0 : Int32)), (.ref sr), (.ref a)])) rfl (by rw [hml]; rfl) (Steps.refl _) (a := a) (argsL := [(.ref sr), (.int (0 : Int32)), (.int (3 : Int32)), .null]) (rest := []) (lenOf pd_6 rfl) rfl (by show 2 * 0 + _ ≤ _; exact Nat.le_of_eq rfl) (hb hby d18_6) (fun _ _ => ⟨rfl, e0, (by decide : 0 + 1 ≤ _), (by decide : 0 + 3 ≤ _)⟩)
  dsimp only [Pt.U, Pt.locs, Pt.cells, Pt.slots] at X2 l2 y2 z2 st2 hQ2
  subst l2 y2 z2
  obtain ⟨d_2, k_2, rfl, N2q, Kc2, r2_0, r2_1, r2_2, r2_3⟩ := hQ2
  have N2 := Fr.app N0 N2q
  refine own_via st2 ?_
  have K2 : Keep h0 T2.heap [a] := (Keep.refl h0 [a]).trans Kc2 (allS (P := fun x => x ∈ _ ∨ _ ≤ x) (Or.inl (List.mem_of_getElem? (i := 0) rfl)) all0)
  have O2 := O0.keep Kc2 (allS (P := fun x => n0 ≤ x) u6 all0)
  obtain ⟨fs3, hr3, hrun3, hended3, hW3, hsame3⟩ := X2.leave (v := none) (fun _ => rfl)
  refine ⟨_, _, ?_, hrun3, hended3, _, _, rfl, ?_, ⟨_, rfl⟩, hW3, hsame3.mono (by decide) (by decide)⟩
  · exact X2.returnOut hx Bd.returns (hb hby d18_9) hr3
  · show Q_rmSC3 Z a sr cs kc ch0 ch1 ch2 h0 n0 _ T2.heap _
    exact ⟨d_2, k_2, rfl, N2, K2, r2_0, r2_1, r2_2, r2_3⟩
theorem own_safeS {Z : State} {EL : List (String × Nat)} {vm : Vm} {h : Heap} {a : Addr} (hal : Z.vm.Alike vm) (E : Exa Z h a "java/lang/String") (F : Fld Z h a "java/lang/String" "value" "[B" .null) : Safe Z EL vm h a := by
  intro B
  obtain ⟨cell, k, e1, e2, e3, -, -⟩ := E
  obtain ⟨cell', cf, kf, i, f, f1, f2, -, -, -, -, f7⟩ := F
  cases e1.symm.trans f1
  obtain ⟨p, -, u, a', -, q, -, G, hq⟩ := B
  rcases hq with rfl | rfl
  · cases (show h[q.sa]? = some q.sC from G.ha).symm.trans e1
    obtain ⟨cS, ⟨⟨-, -, -, ⟨c1, k1, i1, g1, -⟩, -, -, -, g2, -⟩, -, -⟩, -⟩ := G
    obtain ⟨k2, g3⟩ := ff_back (U := Wst Z vm h) hal g1
    have g4 : Z.fieldFound? "java/lang/String" "value" "[B" = some (c1, k2, i1, q.fSV) := g3
    have g5 := f2.symm.trans g4
    simp only [Option.some.injEq, Prod.mk.injEq] at g5
    obtain ⟨-, -, -, g6⟩ := g5
    rw [← g6, f7] at g2
    cases g2
  · cases (show h[q.sd]? = some q.SA from G.hd).symm.trans e1
    obtain ⟨cS, -, -, g, -⟩ := G
    have g' : vm.findClass "[B" = some q.SA.cls := g
    rw [hal.findClass] at g'
    obtain ⟨k1, q1, q2⟩ := Vm.findClass_spec g'
    obtain ⟨k2, q3, q4⟩ := Vm.findClass_spec e2
    cases q1.symm.trans q3
    exact absurd (q2.symm.trans q4) (by decide)
theorem d19_8 : decode jdk_42_method_149_code 8 = .ok (.aload_n 0, 1) := by decide +kernel
theorem d19_9 : decode jdk_42_method_149_code 9 = .ok (.ldc 7, 2) := by decide +kernel
theorem d19_11 : decode jdk_42_method_149_code 11 = .ok (.getfield 9, 3) := by decide +kernel
theorem d19_14 : decode jdk_42_method_149_code 14 = .ok (.putfield 9, 3) := by decide +kernel
theorem d19_17 : decode jdk_42_method_149_code 17 = .ok (.aload_n 0, 1) := by decide +kernel
theorem d19_18 : decode jdk_42_method_149_code 18 = .ok (.ldc 7, 2) := by decide +kernel
theorem d19_20 : decode jdk_42_method_149_code 20 = .ok (.getfield 15, 3) := by decide +kernel
theorem d19_23 : decode jdk_42_method_149_code 23 = .ok (.putfield 15, 3) := by decide +kernel
theorem d19_26 : decode jdk_42_method_149_code 26 = .ok (.return_, 1) := by decide +kernel
theorem ef_rmSCV0 (m : MethodId) (a : Addr) (sr : Addr) : entryFrame m #[(.ref a), (.ref sr), (.int (0 : Int32)), (.int (0 : Int32)), .null] 6 = mkF m 0 #[.val (.ref a), .val (.ref sr), .val (.int (0 : Int32)), .val (.int (0 : Int32)), .val .null, .unset] [] := by first | (simp [entryFrame, mkF, argsToLocals, Value.category]; done) | rfl
def Q_rmSCV0 (Z : State) (a : Addr) (sr : Addr) (kc : ClassId) (h0 : Heap) (n0 : Nat) (v_ : Option Value) (h_ : Heap) (L_ : List Loc) : Prop := ∃ d : Addr, ∃ k : ClassId, v_ = none ∧ Fr n0 L_ ∧ Keep h0 h_ [a] ∧ Fld Z h_ a "java/lang/String" "value" "[B" (.ref d) ∧ Fld Z h_ a "java/lang/String" "coder" "B" (.int (0 : Int32)) ∧ Arv Z h_ d k .byte (0 : Int32) [] (.int (0 : Int32))
set_option maxRecDepth 65536 in
set_option maxHeartbeats 40000000 in
theorem rmSCV0 (l : Launch) (Z : State) (a0 : Array Value) (hw : ∀ d ∈ tables_1, d.before a0 Z = true) (ws : List Jvm.Cond) (a : Addr) (sr : Addr) (kc : ClassId) (h0 : Heap) (n0 : Nat) (Z0 : n0 ≤ h0.size) (u0 : Exa Z h0 a "java/lang/String") (u1 : Fld Z h0 a "java/lang/String" "value" "[B" .null) (u2 : Fld Z h0 a "java/lang/String" "coder" "B" (.int (0 : Int32))) (u3 : n0 ≤ a) (u4 : Arv Z h0 sr kc .char (0 : Int32) [] (.int (0 : Int32))) :
    MetFree l own_y7 (head1 (Jvm.Cond.code own_y7 jdk_42_method_149_code 6 none :: ws) ({ frames := 1, cells := 4, slots := 8, locals := 12 } : Room)) (fun a_ U_ => a_ = #[(.ref a), (.ref sr), (.int (0 : Int32)), (.int (0 : Int32)), .null] ∧ Z.Warmed39 U_.vm ∧ U_.heap = h0 ∧ CHv Z own_EL U_.vm h0) (fun _ _ _ _ _ => True) (fun _ U_ o_ U2_ => ∃ v_ L_, o_ = .returned v_ ∧ Q_rmSCV0 Z a sr kc h0 n0 v_ U2_.heap L_ ∧ CHr Z own_EL U_.vm U_.heap U2_.vm U2_.heap ∧ ReturnedEndW U_ o_ U2_ L_ ({ frames := 1, cells := 4, slots := 8, locals := 12 } : Room).cells ({ frames := 1, cells := 4, slots := 8, locals := 12 } : Room).slots) := by
  refine MetFree.of_bodySF (plainFor_of_name pn_1) hisR ?_
  intro p e s m args below meth c s₁ Bd hml0 hP hK
  obtain ⟨rfl, hZ, hh, hC⟩ := hP
  have hx := Bd.exec
  have hby := Bd.bytes
  have hml : c.maxLocals = 6 := hml0
  have hown : s.vm.findClass "java/lang/String" = some m.cls := findClass_of_methodNamed Bd.named
  have hnm := (name_of_methodNamed Bd.named Bd.method).1
  have X0 : Stand p l e ({ frames := 1, cells := 4, slots := 8, locals := 12 } : Room) (s.setVm s.vm) m #[(.ref a), (.ref sr), (.int (0 : Int32)), (.int (0 : Int32)), .null] below meth c s₁ [] 0 0 := Stand.of_body Bd
  have e0 : s₁.heap = h0 := by rw [← hh, Bd.state]; rfl
  have N0 := Fr.nil n0
  have hS : s.Since s.vm h0.size := (State.WarmedH.refl s).since _
  have hk := Nat.le_refl h0.size
  have hSA := own_strA hw
  have hEL := own_EW hw
  have R0 : CHr Z own_EL s.vm h0 s.vm h0 := CHr.refl hC
  refine own_go (A := s₁.setTop (mkF m 0 #[.val (.ref a), .val (.ref sr), .val (.int (0 : Int32)), .val (.int (0 : Int32)), .val .null, .unset] [])) (fun t_ k_ => castTop (ef_rmSCV0 m a sr) k_) ?_
  have Qa := own_safeS (EL := own_EL) hZ.alike u0 u1
  refine own_go (A := s₁.setTop (mkF m 1 #[.val (.ref a), .val (.ref sr), .val (.int (0 : Int32)), .val (.int (0 : Int32)), .val .null, .unset] [(.ref a)])) (fun t_ k_ => ?_) ?_
  · show Steps p.tables e below (s₁.setTop (mkF m 0 #[.val (.ref a), .val (.ref sr), .val (.int (0 : Int32)), .val (.int (0 : Int32)), .val .null, .unset] [])) t_
    refine XS.aloadN X0.here hx rfl (hb hby d19_0) rfl rfl ?_
    exact k_
  obtain ⟨T1, X1, e1, st1⟩ := initO X0 hx hZ hown (own_w hw 120 rfl) (own_w hw 19 rfl) (own_w hw 20 rfl) e0 (g := (mkF m 1 #[.val (.ref a), .val (.ref sr), .val (.int (0 : Int32)), .val (.int (0 : Int32)), .val .null, .unset] [(.ref a)])) rfl (by rw [hml]; rfl) rfl (hb hby d19_1) (by decide) (W := 0) (by show 2 * 0 + _ ≤ _; exact Nat.le_of_eq rfl) (by decide)
  refine own_go st1 ?_
  refine own_go (A := T1.setTop (mkF m 9 #[.val (.ref a), .val (.ref sr), .val (.int (0 : Int32)), .val (.int (0 : Int32)), .val .null, .unset] [(.ref a)])) (fun t_ k_ => ?_) ?_
  · show Steps p.tables e below (T1.setTop (mkF m 4 #[.val (.ref a), .val (.ref sr), .val (.int (0 : Int32)), .val (.int (0 : Int32)), .val .null, .unset] [])) t_
    refine XS.iloadN X1.here hx rfl (hb hby d19_4) rfl ?_
    show Steps p.tables e below (T1.setTop (mkF m 5 #[.val (.ref a), .val (.ref sr), .val (.int (0 : Int32)), .val (.int (0 : Int32)), .val .null, .unset] [(.int (0 : Int32))])) t_
    refine XS.ifNo X1.here hx rfl (hb hby d19_5) rfl ((if0 _ _).trans (teq (by decide : (0 : Int32) = (0 : Int32))).2) ?_
    show Steps p.tables e below (T1.setTop (mkF m 8 #[.val (.ref a), .val (.ref sr), .val (.int (0 : Int32)), .val (.int (0 : Int32)), .val .null, .unset] [])) t_
    refine XS.aloadN X1.here hx rfl (hb hby d19_8) rfl rfl ?_
    exact k_
  obtain ⟨b2, T2, h2, k2, d2, kk2, X2, e2, E2, hS, hk, hZ, hown, Ea2, Fc2, Fv2, Av2, la2, lb2, r2, -, sn2, st2⟩ := ldcCH X1 hx hZ hown (own_w hw 137 rfl) hSA e1 hS hk hEL (List.mem_of_getElem? (i := 0) rfl) R0.1 (vs := []) (z := (0 : Int32)) (by decide +kernel) (by decide) (by decide +kernel) (g := (mkF m 9 #[.val (.ref a), .val (.ref sr), .val (.int (0 : Int32)), .val (.int (0 : Int32)), .val .null, .unset] [(.ref a)])) rfl (hb hby d19_9) (n := 0) (by decide) (by decide) (by decide) (by decide)
  refine own_go st2 ?_
  have K2 : Keep h0 h2 [a] := (Keep.refl h0 [a]).ext E2
  have R2 := R0.trans r2
  have ne2_a := sn2 a (r2.safe u0.lt Qa)
  obtain ⟨T3, X3, e3, st3⟩ := getF X2 hx hZ hown (host := "") (Or.inl (own_w hw 135 rfl)) Via.refl e2 Fv2 (g := (mkF m 11 #[.val (.ref a), .val (.ref sr), .val (.int (0 : Int32)), .val (.int (0 : Int32)), .val .null, .unset] [(.ref b2), (.ref a)])) rfl rfl (hb hby d19_11)
  refine own_go st3 ?_
  obtain ⟨T4, h4, X4, e4, W4, st4⟩ := putF X3 hx hZ hown (host := "") (Or.inl (own_w hw 135 rfl)) Via.refl e3 (u1.ext E2) (u0.ext E2) (Or.inr ⟨(own_w hw 136 rfl), rfl, hnm⟩) (own_w hw 111 rfl) (ty := (.array .byte)) (by decide) rfl rfl (g := (mkF m 14 #[.val (.ref a), .val (.ref sr), .val (.int (0 : Int32)), .val (.int (0 : Int32)), .val .null, .unset] [(.ref d2), (.ref a)])) rfl rfl (hb hby d19_14)
  have Fw4 : Fld Z h4 a "java/lang/String" "value" "[B" (.ref d2) := (u1.ext E2).same W4
  refine own_go st4 ?_
  have K4 : Keep h0 h4 [a] := K2.wr W4 (Or.inl (List.mem_of_getElem? (i := 0) rfl))
  have r4 := CHr.wr W4 (r2.safe u0.lt Qa) R2.1
  have R4 := R2.trans r4
  have hk := Nat.le_trans hk (Keep.of_wr W4).1
  have N4 := Fr.snoc X4 N0 u3
  refine own_go (A := T4.setTop (mkF m 18 #[.val (.ref a), .val (.ref sr), .val (.int (0 : Int32)), .val (.int (0 : Int32)), .val .null, .unset] [(.ref a)])) (fun t_ k_ => ?_) ?_
  · show Steps p.tables e below (T4.setTop (mkF m 17 #[.val (.ref a), .val (.ref sr), .val (.int (0 : Int32)), .val (.int (0 : Int32)), .val .null, .unset] [])) t_
    refine XS.aloadN X4.here hx rfl (hb hby d19_17) rfl rfl ?_
    exact k_
  obtain ⟨b5, T5, h5, k5, d5, kk5, X5, e5, E5, hS, hk, hZ, hown, Ea5, Fc5, Fv5, Av5, la5, lb5, r5, -, sn5, st5⟩ := ldcCH X4 hx hZ hown (own_w hw 137 rfl) hSA e4 hS hk hEL (List.mem_of_getElem? (i := 0) rfl) R4.1 (vs := []) (z := (0 : Int32)) (by decide +kernel) (by decide) (by decide +kernel) (g := (mkF m 18 #[.val (.ref a), .val (.ref sr), .val (.int (0 : Int32)), .val (.int (0 : Int32)), .val .null, .unset] [(.ref a)])) rfl (hb hby d19_18) (n := 0) (by decide) (by decide) (by decide) (by decide)
  refine own_go st5 ?_
  have K5 : Keep h0 h5 [a] := K4.ext E5
  have R5 := R4.trans r5
  have ne5_a := sn5 a (r5.safe (Nat.lt_of_lt_of_le (Nat.lt_of_lt_of_le u0.lt E2.1) (Keep.of_wr W4).1) (r4.safe (Nat.lt_of_lt_of_le u0.lt E2.1) (r2.safe u0.lt Qa)))
  obtain ⟨T6, X6, e6, st6⟩ := getF X5 hx hZ hown (host := "") (Or.inl (own_w hw 133 rfl)) Via.refl e5 Fc5 (g := (mkF m 20 #[.val (.ref a), .val (.ref sr), .val (.int (0 : Int32)), .val (.int (0 : Int32)), .val .null, .unset] [(.ref b5), (.ref a)])) rfl rfl (hb hby d19_20)
  refine own_go st6 ?_
  obtain ⟨T7, h7, X7, e7, W7, st7⟩ := putFN X6 hx hZ hown (own_w hw 133 rfl) Via.refl e6 (((u2.ext E2).other W4 (Or.inr (slot_ne (Or.inr (own_w hw 134 rfl)) (Or.inr (own_w hw 136 rfl)) (by decide) (t := .byte) (t' := (.array .byte)) (by decide) (by decide)))).ext E5) (((u0.ext E2).wr W4).ext E5) (Or.inr ⟨(own_w hw 134 rfl), rfl, hnm⟩) (own_w hw 111 rfl) (ty := .byte) (v' := (.int (0 : Int32))) (by decide) rfl rfl (g := (mkF m 23 #[.val (.ref a), .val (.ref sr), .val (.int (0 : Int32)), .val (.int (0 : Int32)), .val .null, .unset] [(.int (0 : Int32)), (.ref a)])) rfl rfl (hb hby d19_23)
  have Fw7 : Fld Z h7 a "java/lang/String" "coder" "B" (.int (0 : Int32)) := (((u2.ext E2).other W4 (Or.inr (slot_ne (Or.inr (own_w hw 134 rfl)) (Or.inr (own_w hw 136 rfl)) (by decide) (t := .byte) (t' := (.array .byte)) (by decide) (by decide)))).ext E5).same W7
  refine own_go st7 ?_
  have K7 : Keep h0 h7 [a] := K5.wr W7 (Or.inl (List.mem_of_getElem? (i := 0) rfl))
  have r7 := CHr.wr W7 (r5.safe (Nat.lt_of_lt_of_le (Nat.lt_of_lt_of_le u0.lt E2.1) (Keep.of_wr W4).1) (r4.safe (Nat.lt_of_lt_of_le u0.lt E2.1) (r2.safe u0.lt Qa))) R5.1
  have R7 := R5.trans r7
  have hk := Nat.le_trans hk (Keep.of_wr W7).1
  have N7 := Fr.snoc X7 N4 u3
  obtain ⟨fs8, hr8, hrun8, hended8, hRW8⟩ := X7.leaveW hS (by rw [e7]; exact hk) (v := none) (fun _ => rfl)
  refine ⟨_, _, ?_, hrun8, hended8, _, _, rfl, ?_, ?_, hRW8.1, hRW8.2.1, hRW8.2.2.1, hRW8.2.2.2.mono (by decide) (by decide)⟩
  · exact X7.returnOut hx Bd.returns (hb hby d19_26) hr8
  · show Q_rmSCV0 Z a sr kc h0 n0 _ T7.heap _
    rw [e7]
    exact ⟨d2, kk2, rfl, N7, K7, ((Fw4.ext E5).other W7 (Or.inr (slot_ne (Or.inr (own_w hw 136 rfl)) (Or.inr (own_w hw 134 rfl)) (by decide) (t := (.array .byte)) (t' := .byte) (by decide) (by decide)))), Fw7, (((Av2.other W4 (Ne.symm ne2_a.2)).ext E5).other W7 (Ne.symm ne2_a.2))⟩
  · show CHr Z own_EL s.vm s.heap T7.vm T7.heap
    rw [hh, e7]
    exact R7.trans (CHv.at X7 hZ hEL R7.1)
theorem ef_rmSC0 (m : MethodId) (a : Addr) (sr : Addr) : entryFrame m #[(.ref a), (.ref sr)] 2 = mkF m 0 #[.val (.ref a), .val (.ref sr)] [] := by first | (simp [entryFrame, mkF, argsToLocals, Value.category]; done) | rfl
def Q_rmSC0 (Z : State) (a : Addr) (sr : Addr) (kc : ClassId) (h0 : Heap) (n0 : Nat) (v_ : Option Value) (h_ : Heap) (L_ : List Loc) : Prop := ∃ d : Addr, ∃ k : ClassId, v_ = none ∧ Fr n0 L_ ∧ Keep h0 h_ [a] ∧ Fld Z h_ a "java/lang/String" "value" "[B" (.ref d) ∧ Fld Z h_ a "java/lang/String" "coder" "B" (.int (0 : Int32)) ∧ Arv Z h_ d k .byte (0 : Int32) [] (.int (0 : Int32))
set_option maxRecDepth 65536 in
set_option maxHeartbeats 40000000 in
theorem rmSC0 (l : Launch) (Z : State) (a0 : Array Value) (hw : ∀ d ∈ tables_1, d.before a0 Z = true) (ws : List Jvm.Cond) (a : Addr) (sr : Addr) (kc : ClassId) (h0 : Heap) (n0 : Nat) (Z0 : n0 ≤ h0.size) (u0 : Exa Z h0 a "java/lang/String") (u1 : Fld Z h0 a "java/lang/String" "value" "[B" .null) (u2 : Fld Z h0 a "java/lang/String" "coder" "B" (.int (0 : Int32))) (u3 : n0 ≤ a) (u4 : Arv Z h0 sr kc .char (0 : Int32) [] (.int (0 : Int32))) :
    MetFree l own_y8 (head1 (Jvm.Cond.code own_y8 jdk_42_method_3_code 2 none :: ws) ({ frames := 2, cells := 4, slots := 8, locals := 29 } : Room)) (fun a_ U_ => a_ = #[(.ref a), (.ref sr)] ∧ Z.Warmed39 U_.vm ∧ U_.heap = h0 ∧ CHv Z own_EL U_.vm h0) (fun _ _ _ _ _ => True) (fun _ U_ o_ U2_ => ∃ v_ L_, o_ = .returned v_ ∧ Q_rmSC0 Z a sr kc h0 n0 v_ U2_.heap L_ ∧ CHr Z own_EL U_.vm U_.heap U2_.vm U2_.heap ∧ ReturnedEndW U_ o_ U2_ L_ ({ frames := 2, cells := 4, slots := 8, locals := 29 } : Room).cells ({ frames := 2, cells := 4, slots := 8, locals := 29 } : Room).slots) := by
  refine MetFree.of_bodySF (plainFor_of_name pn_1) hisR ?_
  intro p e s m args below meth c s₁ Bd hml0 hP hK
  obtain ⟨rfl, hZ, hh, hC⟩ := hP
  have hx := Bd.exec
  have hby := Bd.bytes
  have hml : c.maxLocals = 2 := hml0
  have hown : s.vm.findClass "java/lang/String" = some m.cls := findClass_of_methodNamed Bd.named
  have hnm := (name_of_methodNamed Bd.named Bd.method).1
  have X0 : Stand p l e ({ frames := 2, cells := 4, slots := 8, locals := 29 } : Room) (s.setVm s.vm) m #[(.ref a), (.ref sr)] below meth c s₁ [] 0 0 := Stand.of_body Bd
  have e0 : s₁.heap = h0 := by rw [← hh, Bd.state]; rfl
  have N0 := Fr.nil n0
  have hS : s.Since s.vm h0.size := (State.WarmedH.refl s).since _
  have hk := Nat.le_refl h0.size
  have hSA := own_strA hw
  have hEL := own_EW hw
  have R0 : CHr Z own_EL s.vm h0 s.vm h0 := CHr.refl hC
  refine own_go (A := s₁.setTop (mkF m 0 #[.val (.ref a), .val (.ref sr)] [])) (fun t_ k_ => castTop (ef_rmSC0 m a sr) k_) ?_
  have Qa := own_safeS (EL := own_EL) hZ.alike u0 u1
  obtain ⟨cl1, Ar1, q1, S1, M1, H1, G1⟩ := id u4
  refine own_go (A := s₁.setTop (mkF m 6 #[.val (.ref a), .val (.ref sr)] [.null, (.int (0 : Int32)), (.int (0 : Int32)), (.ref sr), (.ref a)])) (fun t_ k_ => ?_) ?_
  · show Steps p.tables e below (s₁.setTop (mkF m 0 #[.val (.ref a), .val (.ref sr)] [])) t_
    refine XS.aloadN X0.here hx rfl (hb hby d18_0) rfl rfl ?_
    show Steps p.tables e below (s₁.setTop (mkF m 1 #[.val (.ref a), .val (.ref sr)] [(.ref a)])) t_
    refine XS.aloadN X0.here hx rfl (hb hby d18_1) rfl rfl ?_
    show Steps p.tables e below (s₁.setTop (mkF m 2 #[.val (.ref a), .val (.ref sr)] [(.ref sr), (.ref a)])) t_
    refine XS.iconst X0.here hx rfl (hb hby d18_2) ?_
    show Steps p.tables e below (s₁.setTop (mkF m 3 #[.val (.ref a), .val (.ref sr)] [(.int (0 : Int32)), (.ref sr), (.ref a)])) t_
    refine XS.aloadN X0.here hx rfl (hb hby d18_3) rfl rfl ?_
    show Steps p.tables e below (s₁.setTop (mkF m 4 #[.val (.ref a), .val (.ref sr)] [(.ref sr), (.int (0 : Int32)), (.ref sr), (.ref a)])) t_
    refine X0.arraylength hx (by rw [e0]; exact Ar1.1) (State.isArrayOf_alike hZ.alike Ar1.2.1) (g := (mkF m 4 #[.val (.ref a), .val (.ref sr)] [(.ref sr), (.int (0 : Int32)), (.ref sr), (.ref a)])) rfl rfl (hb hby d18_4) _ ?_
    rw [len_of S1 M1]
    show Steps p.tables e below (s₁.setTop (mkF m 5 #[.val (.ref a), .val (.ref sr)] [(.int (0 : Int32)), (.int (0 : Int32)), (.ref sr), (.ref a)])) t_
    refine XS.aconstNull X0.here hx rfl (hb hby d18_5) ?_
    exact k_
  obtain ⟨_, _, ⟨T2, L2, k2, n2⟩, -, X2, hs2, gs2, ⟨Lc2, hQ2, l2, y2, z2, r2⟩, st2⟩ := X0.specialBackS hx (y := own_y7) rfl hown (mvT hZ (own_w hw 116 rfl)) (mvT hZ (own_w hw 117 rfl)) (mvT hZ (own_w hw 119 rfl)) (by decide) (backOfSH (W := 0) (rmSCV0 l Z a0 hw [] a sr kc h0 n0 Z0 u0 u1 u2 u3 u4) hZ (own_w hw 119 rfl) (own_w hw 112 rfl) (by decide) (by decide) hEL R0.1) (g := (mkF m 6 #[.val (.ref a), .val (.ref sr)] [.null, (.int (0 : Int32)), (.int (0 : Int32)), (.ref sr), (.ref a)])) rfl (by rw [hml]; rfl) (Steps.refl _) (a := a) (argsL := [(.ref sr), (.int (0 : Int32)), (.int (0 : Int32)), .null]) (rest := []) (lenOf pd_6 rfl) rfl (by show 2 * 0 + _ ≤ _; exact Nat.le_of_eq rfl) (hb hby d18_6) (fun _ _ => ⟨rfl, e0, (by decide : 0 + 4 ≤ _), (by decide : 0 + 8 ≤ _)⟩)
  dsimp only [Pt.U, Pt.locs, Pt.cells, Pt.slots] at X2 l2 y2 z2 st2 hQ2 hs2 gs2 r2
  subst l2 y2 z2
  obtain ⟨X2, hS, hZ, hown⟩ := rebS hS (by rw [e0]; exact hk) X2 hs2 gs2 hZ hown
  obtain ⟨d_2, k_2, rfl, N2q, Kc2, r2_0, r2_1, r2_2⟩ := hQ2
  have N2 := Fr.app N0 N2q
  refine own_via st2 ?_
  have hk := Nat.le_refl T2.heap.size
  have K2 : Keep h0 T2.heap [a] := (Keep.refl h0 [a]).trans Kc2 (allS (P := fun x => x ∈ _ ∨ _ ≤ x) (Or.inl (List.mem_of_getElem? (i := 0) rfl)) all0)
  have R2 := R0.trans r2
  obtain ⟨fs3, hr3, hrun3, hended3, hRW3⟩ := X2.leaveW hS hk (v := none) (fun _ => rfl)
  refine ⟨_, _, ?_, hrun3, hended3, _, _, rfl, ?_, ?_, hRW3.1, hRW3.2.1, hRW3.2.2.1, hRW3.2.2.2.mono (by decide) (by decide)⟩
  · exact X2.returnOut hx Bd.returns (hb hby d18_9) hr3
  · show Q_rmSC0 Z a sr kc h0 n0 _ T2.heap _
    exact ⟨d_2, k_2, rfl, N2, K2, r2_0, r2_1, r2_2⟩
  · show CHr Z own_EL s.vm s.heap T2.vm T2.heap
    rw [hh]
    exact R2.trans (CHv.at X2 hZ hEL R2.1)
theorem own_le255 (z : Int32) : ¬ ((255 : Int32) < (z &&& 255)) := by
  have h := c_and z 255 (by decide)
  rw [Int32.lt_iff_toInt_lt]; omega
theorem own_le255a (z : Int32) : ¬ ((255 : Int32) < ((z &&& (255 : Int32))).toUInt32.toUInt16.toUInt32.toInt32) := by
  rw [i2c_mask]; exact own_le255 z
theorem own_le255b (z : Int32) : ¬ ((255 : Int32) < (nar .char ((z &&& (255 : Int32))).toUInt32.toUInt16.toUInt32.toInt32)) := by
  rw [own_ch]; exact own_le255 z
theorem d17_0 : decode method_2_code 0 = .ok (.iload_n 1, 1) := by decide +kernel
theorem d17_1 : decode method_2_code 1 = .ok (.sipush 255, 3) := by decide +kernel
theorem d17_4 : decode method_2_code 4 = .ok (.iand, 1) := by decide +kernel
theorem d17_5 : decode method_2_code 5 = .ok (.i2c, 1) := by decide +kernel
theorem d17_6 : decode method_2_code 6 = .ok (.istore 4, 2) := by decide +kernel
theorem d17_8 : decode method_2_code 8 = .ok (.iload_n 2, 1) := by decide +kernel
theorem d17_9 : decode method_2_code 9 = .ok (.sipush 255, 3) := by decide +kernel
theorem d17_12 : decode method_2_code 12 = .ok (.iand, 1) := by decide +kernel
theorem d17_13 : decode method_2_code 13 = .ok (.i2c, 1) := by decide +kernel
theorem d17_14 : decode method_2_code 14 = .ok (.istore 5, 2) := by decide +kernel
theorem d17_16 : decode method_2_code 16 = .ok (.iload_n 3, 1) := by decide +kernel
theorem d17_17 : decode method_2_code 17 = .ok (.sipush 255, 3) := by decide +kernel
theorem d17_20 : decode method_2_code 20 = .ok (.iand, 1) := by decide +kernel
theorem d17_21 : decode method_2_code 21 = .ok (.i2c, 1) := by decide +kernel
theorem d17_22 : decode method_2_code 22 = .ok (.istore 6, 2) := by decide +kernel
theorem d17_24 : decode method_2_code 24 = .ok (.iload_n 0, 1) := by decide +kernel
theorem d17_25 : decode method_2_code 25 = .ok (.ifCond .ne 14, 3) := by decide +kernel
theorem d17_28 : decode method_2_code 28 = .ok (.new 7, 3) := by decide +kernel
theorem d17_31 : decode method_2_code 31 = .ok (.dup, 1) := by decide +kernel
theorem d17_32 : decode method_2_code 32 = .ok (.iconst 0, 1) := by decide +kernel
theorem d17_33 : decode method_2_code 33 = .ok (.newarray .char, 2) := by decide +kernel
theorem pd_7 : parseMethodDescriptor "([C)V" = some ⟨[(.array .char)], none⟩ := by decide +kernel
theorem d17_35 : decode method_2_code 35 = .ok (.invokespecial 9, 3) := by decide +kernel
theorem d17_38 : decode method_2_code 38 = .ok (.areturn, 1) := by decide +kernel
theorem d17_39 : decode method_2_code 39 = .ok (.iload_n 0, 1) := by decide +kernel
theorem d17_40 : decode method_2_code 40 = .ok (.iconst 1, 1) := by decide +kernel
theorem d17_41 : decode method_2_code 41 = .ok (.if_icmp .ne 9, 3) := by decide +kernel
theorem d17_44 : decode method_2_code 44 = .ok (.iload 4, 2) := by decide +kernel
theorem pd_8 : parseMethodDescriptor "(C)Ljava/lang/String;" = some ⟨[.char], some (.object "java/lang/String")⟩ := by decide +kernel
theorem d17_46 : decode method_2_code 46 = .ok (.invokestatic 12, 3) := by decide +kernel
theorem d17_49 : decode method_2_code 49 = .ok (.areturn, 1) := by decide +kernel
theorem d17_50 : decode method_2_code 50 = .ok (.iload_n 0, 1) := by decide +kernel
theorem d17_51 : decode method_2_code 51 = .ok (.iconst 2, 1) := by decide +kernel
theorem d17_52 : decode method_2_code 52 = .ok (.if_icmp .ne 30, 3) := by decide +kernel
theorem d17_55 : decode method_2_code 55 = .ok (.iconst 2, 1) := by decide +kernel
theorem d17_56 : decode method_2_code 56 = .ok (.newarray .char, 2) := by decide +kernel
theorem d17_58 : decode method_2_code 58 = .ok (.astore 7, 2) := by decide +kernel
theorem d17_60 : decode method_2_code 60 = .ok (.aload 7, 2) := by decide +kernel
theorem d17_62 : decode method_2_code 62 = .ok (.iconst 0, 1) := by decide +kernel
theorem d17_63 : decode method_2_code 63 = .ok (.iload 4, 2) := by decide +kernel
theorem d17_65 : decode method_2_code 65 = .ok (.castore, 1) := by decide +kernel
theorem d17_66 : decode method_2_code 66 = .ok (.aload 7, 2) := by decide +kernel
theorem d17_68 : decode method_2_code 68 = .ok (.iconst 1, 1) := by decide +kernel
theorem d17_69 : decode method_2_code 69 = .ok (.iload 5, 2) := by decide +kernel
theorem d17_71 : decode method_2_code 71 = .ok (.castore, 1) := by decide +kernel
theorem d17_72 : decode method_2_code 72 = .ok (.new 7, 3) := by decide +kernel
theorem d17_75 : decode method_2_code 75 = .ok (.dup, 1) := by decide +kernel
theorem d17_76 : decode method_2_code 76 = .ok (.aload 7, 2) := by decide +kernel
theorem d17_78 : decode method_2_code 78 = .ok (.invokespecial 9, 3) := by decide +kernel
theorem d17_81 : decode method_2_code 81 = .ok (.areturn, 1) := by decide +kernel
theorem d17_82 : decode method_2_code 82 = .ok (.iconst 3, 1) := by decide +kernel
theorem d17_83 : decode method_2_code 83 = .ok (.newarray .char, 2) := by decide +kernel
theorem d17_85 : decode method_2_code 85 = .ok (.astore 7, 2) := by decide +kernel
theorem d17_87 : decode method_2_code 87 = .ok (.aload 7, 2) := by decide +kernel
theorem d17_89 : decode method_2_code 89 = .ok (.iconst 0, 1) := by decide +kernel
theorem d17_90 : decode method_2_code 90 = .ok (.iload 4, 2) := by decide +kernel
theorem d17_92 : decode method_2_code 92 = .ok (.castore, 1) := by decide +kernel
theorem d17_93 : decode method_2_code 93 = .ok (.aload 7, 2) := by decide +kernel
theorem d17_95 : decode method_2_code 95 = .ok (.iconst 1, 1) := by decide +kernel
theorem d17_96 : decode method_2_code 96 = .ok (.iload 5, 2) := by decide +kernel
theorem d17_98 : decode method_2_code 98 = .ok (.castore, 1) := by decide +kernel
theorem d17_99 : decode method_2_code 99 = .ok (.aload 7, 2) := by decide +kernel
theorem d17_101 : decode method_2_code 101 = .ok (.iconst 2, 1) := by decide +kernel
theorem d17_102 : decode method_2_code 102 = .ok (.iload 6, 2) := by decide +kernel
theorem d17_104 : decode method_2_code 104 = .ok (.castore, 1) := by decide +kernel
theorem d17_105 : decode method_2_code 105 = .ok (.new 7, 3) := by decide +kernel
theorem d17_108 : decode method_2_code 108 = .ok (.dup, 1) := by decide +kernel
theorem d17_109 : decode method_2_code 109 = .ok (.aload 7, 2) := by decide +kernel
theorem d17_111 : decode method_2_code 111 = .ok (.invokespecial 9, 3) := by decide +kernel
theorem d17_114 : decode method_2_code 114 = .ok (.areturn, 1) := by decide +kernel
abbrev own_y9 : MethodName := ⟨"com/example/tenant/tenant/core/PageIsTruncatedPinLaw", "mk", "(IIII)Ljava/lang/String;"⟩
theorem ef_rmMk (m : MethodId) (len : Int32) (c0 : Int32) (c1 : Int32) (c2 : Int32) : entryFrame m #[(.int len), (.int c0), (.int c1), (.int c2)] 8 = mkF m 0 #[.val (.int len), .val (.int c0), .val (.int c1), .val (.int c2), .unset, .unset, .unset, .unset] [] := by first | (simp [entryFrame, mkF, argsToLocals, Value.category]; done) | rfl
def Q_rmMk (Z : State) (len : Int32) (c0 : Int32) (c1 : Int32) (c2 : Int32) (cs : Int32) (h0 : Heap) (n0 : Nat) (v_ : Option Value) (h_ : Heap) (L_ : List Loc) : Prop := ∃ b : Addr, v_ = some (.ref b) ∧ Fr n0 L_ ∧ Keep h0 h_ [] ∧ h0.size ≤ b ∧ Exa Z h_ b "java/lang/String"
theorem pn_3 : plainName "com/example/tenant/tenant/core/PageIsTruncatedPinLaw" = true := by first | (simp [plainName, overriddenIn]; done) | decide +kernel
set_option maxRecDepth 65536 in
set_option maxHeartbeats 40000000 in
theorem rmMk (l : Launch) (Z : State) (a0 : Array Value) (hw : ∀ d ∈ tables_1, d.before a0 Z = true) (ws : List Jvm.Cond) (len : Int32) (c0 : Int32) (c1 : Int32) (c2 : Int32) (cs : Int32) (h0 : Heap) (n0 : Nat) (Z0 : n0 ≤ h0.size) (O0 : Old Z n0 h0) (u1 : Sta Z Z.heap "java/lang/String" "COMPACT_STRINGS" "Z" (.int cs)) (hcs : ¬ (cs = (0 : Int32))) :
    MetFree l own_y9 (head1 (Jvm.Cond.code own_y9 method_2_code 8 (some (.object "java/lang/String")) :: ws) ({ frames := 4, cells := 6, slots := 12, locals := 66 } : Room)) (fun a_ U_ => a_ = #[(.int len), (.int c0), (.int c1), (.int c2)] ∧ Z.Warmed39 U_.vm ∧ U_.heap = h0 ∧ CHv Z own_EL U_.vm h0) (fun _ _ _ _ _ => True) (fun _ U_ o_ U2_ => ∃ v_ L_, o_ = .returned v_ ∧ Q_rmMk Z len c0 c1 c2 cs h0 n0 v_ U2_.heap L_ ∧ CHr Z own_EL U_.vm U_.heap U2_.vm U2_.heap ∧ ReturnedEndW U_ o_ U2_ L_ ({ frames := 4, cells := 6, slots := 12, locals := 66 } : Room).cells ({ frames := 4, cells := 6, slots := 12, locals := 66 } : Room).slots) := by
  refine MetFree.of_bodySF (plainFor_of_name pn_3) hisR ?_
  intro p e s m args below meth c s₁ Bd hml0 hP hK
  obtain ⟨rfl, hZ, hh, hC⟩ := hP
  have hx := Bd.exec
  have hby := Bd.bytes
  have hml : c.maxLocals = 8 := hml0
  have hown : s.vm.findClass "com/example/tenant/tenant/core/PageIsTruncatedPinLaw" = some m.cls := findClass_of_methodNamed Bd.named
  have hnm := (name_of_methodNamed Bd.named Bd.method).1
  have X0 : Stand p l e ({ frames := 4, cells := 6, slots := 12, locals := 66 } : Room) (s.setVm s.vm) m #[(.int len), (.int c0), (.int c1), (.int c2)] below meth c s₁ [] 0 0 := Stand.of_body Bd
  have e0 : s₁.heap = h0 := by rw [← hh, Bd.state]; rfl
  have N0 := Fr.nil n0
  have hS : s.Since s.vm h0.size := (State.WarmedH.refl s).since _
  have hk := Nat.le_refl h0.size
  have hSA := own_strA hw
  have hEL := own_EW hw
  have R0 : CHr Z own_EL s.vm h0 s.vm h0 := CHr.refl hC
  refine own_go (A := s₁.setTop (mkF m 0 #[.val (.int len), .val (.int c0), .val (.int c1), .val (.int c2), .unset, .unset, .unset, .unset] [])) (fun t_ k_ => castTop (ef_rmMk m len c0 c1 c2) k_) ?_
  refine own_go (A := s₁.setTop (mkF m 25 #[.val (.int len), .val (.int c0), .val (.int c1), .val (.int c2), .val (.int ((c0 &&& (255 : Int32))).toUInt32.toUInt16.toUInt32.toInt32), .val (.int ((c1 &&& (255 : Int32))).toUInt32.toUInt16.toUInt32.toInt32), .val (.int ((c2 &&& (255 : Int32))).toUInt32.toUInt16.toUInt32.toInt32), .unset] [(.int len)])) (fun t_ k_ => ?_) ?_
  · show Steps p.tables e below (s₁.setTop (mkF m 0 #[.val (.int len), .val (.int c0), .val (.int c1), .val (.int c2), .unset, .unset, .unset, .unset] [])) t_
    refine XS.iloadN X0.here hx rfl (hb hby d17_0) rfl ?_
    show Steps p.tables e below (s₁.setTop (mkF m 1 #[.val (.int len), .val (.int c0), .val (.int c1), .val (.int c2), .unset, .unset, .unset, .unset] [(.int c0)])) t_
    refine XS.sipush X0.here hx rfl (hb hby d17_1) ?_
    show Steps p.tables e below (s₁.setTop (mkF m 4 #[.val (.int len), .val (.int c0), .val (.int c1), .val (.int c2), .unset, .unset, .unset, .unset] [(.int (255 : Int32)), (.int c0)])) t_
    refine XS.iand X0.here hx rfl (hb hby d17_4) rfl ?_
    show Steps p.tables e below (s₁.setTop (mkF m 5 #[.val (.int len), .val (.int c0), .val (.int c1), .val (.int c2), .unset, .unset, .unset, .unset] [(.int (c0 &&& (255 : Int32)))])) t_
    refine XS.i2c X0.here hx rfl (hb hby d17_5) rfl ?_
    show Steps p.tables e below (s₁.setTop (mkF m 6 #[.val (.int len), .val (.int c0), .val (.int c1), .val (.int c2), .unset, .unset, .unset, .unset] [(.int ((c0 &&& (255 : Int32))).toUInt32.toUInt16.toUInt32.toInt32)])) t_
    refine XS.istore X0.here hx rfl (hb hby d17_6) rfl (l' := #[.val (.int len), .val (.int c0), .val (.int c1), .val (.int c2), .val (.int ((c0 &&& (255 : Int32))).toUInt32.toUInt16.toUInt32.toInt32), .unset, .unset, .unset]) rfl ?_
    show Steps p.tables e below (s₁.setTop (mkF m 8 #[.val (.int len), .val (.int c0), .val (.int c1), .val (.int c2), .val (.int ((c0 &&& (255 : Int32))).toUInt32.toUInt16.toUInt32.toInt32), .unset, .unset, .unset] [])) t_
    refine XS.iloadN X0.here hx rfl (hb hby d17_8) rfl ?_
    show Steps p.tables e below (s₁.setTop (mkF m 9 #[.val (.int len), .val (.int c0), .val (.int c1), .val (.int c2), .val (.int ((c0 &&& (255 : Int32))).toUInt32.toUInt16.toUInt32.toInt32), .unset, .unset, .unset] [(.int c1)])) t_
    refine XS.sipush X0.here hx rfl (hb hby d17_9) ?_
    show Steps p.tables e below (s₁.setTop (mkF m 12 #[.val (.int len), .val (.int c0), .val (.int c1), .val (.int c2), .val (.int ((c0 &&& (255 : Int32))).toUInt32.toUInt16.toUInt32.toInt32), .unset, .unset, .unset] [(.int (255 : Int32)), (.int c1)])) t_
    refine XS.iand X0.here hx rfl (hb hby d17_12) rfl ?_
    show Steps p.tables e below (s₁.setTop (mkF m 13 #[.val (.int len), .val (.int c0), .val (.int c1), .val (.int c2), .val (.int ((c0 &&& (255 : Int32))).toUInt32.toUInt16.toUInt32.toInt32), .unset, .unset, .unset] [(.int (c1 &&& (255 : Int32)))])) t_
    refine XS.i2c X0.here hx rfl (hb hby d17_13) rfl ?_
    show Steps p.tables e below (s₁.setTop (mkF m 14 #[.val (.int len), .val (.int c0), .val (.int c1), .val (.int c2), .val (.int ((c0 &&& (255 : Int32))).toUInt32.toUInt16.toUInt32.toInt32), .unset, .unset, .unset] [(.int ((c1 &&& (255 : Int32))).toUInt32.toUInt16.toUInt32.toInt32)])) t_
    refine XS.istore X0.here hx rfl (hb hby d17_14) rfl (l' := #[.val (.int len), .val (.int c0), .val (.int c1), .val (.int c2), .val (.int ((c0 &&& (255 : Int32))).toUInt32.toUInt16.toUInt32.toInt32), .val (.int ((c1 &&& (255 : Int32))).toUInt32.toUInt16.toUInt32.toInt32), .unset, .unset]) rfl ?_
    show Steps p.tables e below (s₁.setTop (mkF m 16 #[.val (.int len), .val (.int c0), .val (.int c1), .val (.int c2), .val (.int ((c0 &&& (255 : Int32))).toUInt32.toUInt16.toUInt32.toInt32), .val (.int ((c1 &&& (255 : Int32))).toUInt32.toUInt16.toUInt32.toInt32), .unset, .unset] [])) t_
    refine XS.iloadN X0.here hx rfl (hb hby d17_16) rfl ?_
    show Steps p.tables e below (s₁.setTop (mkF m 17 #[.val (.int len), .val (.int c0), .val (.int c1), .val (.int c2), .val (.int ((c0 &&& (255 : Int32))).toUInt32.toUInt16.toUInt32.toInt32), .val (.int ((c1 &&& (255 : Int32))).toUInt32.toUInt16.toUInt32.toInt32), .unset, .unset] [(.int c2)])) t_
    refine XS.sipush X0.here hx rfl (hb hby d17_17) ?_
    show Steps p.tables e below (s₁.setTop (mkF m 20 #[.val (.int len), .val (.int c0), .val (.int c1), .val (.int c2), .val (.int ((c0 &&& (255 : Int32))).toUInt32.toUInt16.toUInt32.toInt32), .val (.int ((c1 &&& (255 : Int32))).toUInt32.toUInt16.toUInt32.toInt32), .unset, .unset] [(.int (255 : Int32)), (.int c2)])) t_
    refine XS.iand X0.here hx rfl (hb hby d17_20) rfl ?_
    show Steps p.tables e below (s₁.setTop (mkF m 21 #[.val (.int len), .val (.int c0), .val (.int c1), .val (.int c2), .val (.int ((c0 &&& (255 : Int32))).toUInt32.toUInt16.toUInt32.toInt32), .val (.int ((c1 &&& (255 : Int32))).toUInt32.toUInt16.toUInt32.toInt32), .unset, .unset] [(.int (c2 &&& (255 : Int32)))])) t_
    refine XS.i2c X0.here hx rfl (hb hby d17_21) rfl ?_
    show Steps p.tables e below (s₁.setTop (mkF m 22 #[.val (.int len), .val (.int c0), .val (.int c1), .val (.int c2), .val (.int ((c0 &&& (255 : Int32))).toUInt32.toUInt16.toUInt32.toInt32), .val (.int ((c1 &&& (255 : Int32))).toUInt32.toUInt16.toUInt32.toInt32), .unset, .unset] [(.int ((c2 &&& (255 : Int32))).toUInt32.toUInt16.toUInt32.toInt32)])) t_
    refine XS.istore X0.here hx rfl (hb hby d17_22) rfl (l' := #[.val (.int len), .val (.int c0), .val (.int c1), .val (.int c2), .val (.int ((c0 &&& (255 : Int32))).toUInt32.toUInt16.toUInt32.toInt32), .val (.int ((c1 &&& (255 : Int32))).toUInt32.toUInt16.toUInt32.toInt32), .val (.int ((c2 &&& (255 : Int32))).toUInt32.toUInt16.toUInt32.toInt32), .unset]) rfl ?_
    show Steps p.tables e below (s₁.setTop (mkF m 24 #[.val (.int len), .val (.int c0), .val (.int c1), .val (.int c2), .val (.int ((c0 &&& (255 : Int32))).toUInt32.toUInt16.toUInt32.toInt32), .val (.int ((c1 &&& (255 : Int32))).toUInt32.toUInt16.toUInt32.toInt32), .val (.int ((c2 &&& (255 : Int32))).toUInt32.toUInt16.toUInt32.toInt32), .unset] [])) t_
    refine XS.iloadN X0.here hx rfl (hb hby d17_24) rfl ?_
    exact k_
  by_cases hc25_1 : len = (0 : Int32)
  · refine own_go (A := s₁.setTop (mkF m 28 #[.val (.int len), .val (.int c0), .val (.int c1), .val (.int c2), .val (.int ((c0 &&& (255 : Int32))).toUInt32.toUInt16.toUInt32.toInt32), .val (.int ((c1 &&& (255 : Int32))).toUInt32.toUInt16.toUInt32.toInt32), .val (.int ((c2 &&& (255 : Int32))).toUInt32.toUInt16.toUInt32.toInt32), .unset] [])) (fun t_ k_ => ?_) ?_
    · show Steps p.tables e below (s₁.setTop (mkF m 25 #[.val (.int len), .val (.int c0), .val (.int c1), .val (.int c2), .val (.int ((c0 &&& (255 : Int32))).toUInt32.toUInt16.toUInt32.toInt32), .val (.int ((c1 &&& (255 : Int32))).toUInt32.toUInt16.toUInt32.toInt32), .val (.int ((c2 &&& (255 : Int32))).toUInt32.toUInt16.toUInt32.toInt32), .unset] [(.int len)])) t_
      refine XS.ifNo X0.here hx rfl (hb hby d17_25) rfl ((if0 _ _).trans (teq hc25_1).2) ?_
      exact k_
    obtain ⟨T2, h2, X2, e2, E2, A2, D2, -, st2⟩ := newO X0 hx hZ hown (own_w hw 110 rfl) (own_w hw 111 rfl) (own_w hw 112 rfl) e0 (g := (mkF m 28 #[.val (.int len), .val (.int c0), .val (.int c1), .val (.int c2), .val (.int ((c0 &&& (255 : Int32))).toUInt32.toUInt16.toUInt32.toInt32), .val (.int ((c1 &&& (255 : Int32))).toUInt32.toUInt16.toUInt32.toInt32), .val (.int ((c2 &&& (255 : Int32))).toUInt32.toUInt16.toUInt32.toInt32), .unset] [])) rfl (hb hby d17_28) (by decide) (by decide)
    obtain ⟨b2, g2⟩ : ∃ z, z = h0.size := ⟨_, rfl⟩
    rw [← g2] at A2 D2 st2
    refine own_go st2 ?_
    have K2 : Keep h0 h2 [] := (Keep.refl h0 []).ext E2
    have r2 := CHr.ext E2 R0.1
    have R2 := R0.trans r2
    have hk := Nat.le_trans hk E2.1
    have O2 := O0.ext E2
    have Q2 := Safe.ext E2 R0.1 (Safe.new (Nat.le_of_eq g2.symm))
    have F2_coder : Fld Z h2 b2 "java/lang/String" "coder" "B" (.int (0 : Int32)) := D2 (Or.inr (own_w hw 134 rfl)) (ty := .byte) (by decide)
    have F2_value : Fld Z h2 b2 "java/lang/String" "value" "[B" .null := D2 (Or.inr (own_w hw 136 rfl)) (ty := (.array .byte)) (by decide)
    refine own_go (A := T2.setTop (mkF m 33 #[.val (.int len), .val (.int c0), .val (.int c1), .val (.int c2), .val (.int ((c0 &&& (255 : Int32))).toUInt32.toUInt16.toUInt32.toInt32), .val (.int ((c1 &&& (255 : Int32))).toUInt32.toUInt16.toUInt32.toInt32), .val (.int ((c2 &&& (255 : Int32))).toUInt32.toUInt16.toUInt32.toInt32), .unset] [(.int (0 : Int32)), (.ref b2), (.ref b2)])) (fun t_ k_ => ?_) ?_
    · show Steps p.tables e below (T2.setTop (mkF m 31 #[.val (.int len), .val (.int c0), .val (.int c1), .val (.int c2), .val (.int ((c0 &&& (255 : Int32))).toUInt32.toUInt16.toUInt32.toInt32), .val (.int ((c1 &&& (255 : Int32))).toUInt32.toUInt16.toUInt32.toInt32), .val (.int ((c2 &&& (255 : Int32))).toUInt32.toUInt16.toUInt32.toInt32), .unset] [(.ref b2)])) t_
      refine XS.dup X2.here hx rfl (hb hby d17_31) rfl rfl ?_
      show Steps p.tables e below (T2.setTop (mkF m 32 #[.val (.int len), .val (.int c0), .val (.int c1), .val (.int c2), .val (.int ((c0 &&& (255 : Int32))).toUInt32.toUInt16.toUInt32.toInt32), .val (.int ((c1 &&& (255 : Int32))).toUInt32.toUInt16.toUInt32.toInt32), .val (.int ((c2 &&& (255 : Int32))).toUInt32.toUInt16.toUInt32.toInt32), .unset] [(.ref b2), (.ref b2)])) t_
      refine XS.iconst X2.here hx rfl (hb hby d17_32) ?_
      exact k_
    obtain ⟨T3, h3, k3, X3, e3, E3, A3, st3⟩ := newP X2 hx hZ (own_w hw 109 rfl) e2 (g := (mkF m 33 #[.val (.int len), .val (.int c0), .val (.int c1), .val (.int c2), .val (.int ((c0 &&& (255 : Int32))).toUInt32.toUInt16.toUInt32.toInt32), .val (.int ((c1 &&& (255 : Int32))).toUInt32.toUInt16.toUInt32.toInt32), .val (.int ((c2 &&& (255 : Int32))).toUInt32.toUInt16.toUInt32.toInt32), .unset] [(.int (0 : Int32)), (.ref b2), (.ref b2)])) rfl (hb hby d17_33) rfl (by decide) (cap := 0) (by decide) (by decide) (by decide) (by decide)
    obtain ⟨b3, g3⟩ : ∃ z, z = h2.size := ⟨_, rfl⟩
    rw [← g3] at A3 st3
    refine own_go st3 ?_
    have K3 : Keep h0 h3 [] := K2.ext E3
    have r3 := CHr.ext E3 R2.1
    have R3 := R2.trans r3
    have hk := Nat.le_trans hk E3.1
    have O3 := O2.ext E3
    have Q3 := Safe.ext E3 R2.1 (Safe.new (Nat.le_of_eq g3.symm))
    have B3 : Arv Z h3 b3 k3 .char (0 : Int32) [] (.int (0 : Int32)) := Arv.new A3 (by decide)
    obtain ⟨_, _, ⟨T4, L4, k4, n4⟩, -, X4, hs4, gs4, ⟨Lc4, hQ4, l4, y4, z4, r4⟩, st4⟩ := X3.specialBackS hx (y := own_y8) rfl hown (mvT hZ (own_w hw 113 rfl)) (mvT hZ (own_w hw 114 rfl)) (mvT hZ (own_w hw 115 rfl)) (by decide) (backOfSH (W := 1) (rmSC0 l Z a0 hw [] b2 b3 k3 h3 n0 (Nat.le_trans Z0 K3.1) (A2.ext E3) (F2_value.ext E3) (F2_coder.ext E3) (Nat.le_trans Z0 (Nat.le_of_eq g2.symm)) B3) hZ (own_w hw 115 rfl) (own_w hw 112 rfl) (by decide) (by decide) hEL R3.1) (g := (mkF m 35 #[.val (.int len), .val (.int c0), .val (.int c1), .val (.int c2), .val (.int ((c0 &&& (255 : Int32))).toUInt32.toUInt16.toUInt32.toInt32), .val (.int ((c1 &&& (255 : Int32))).toUInt32.toUInt16.toUInt32.toInt32), .val (.int ((c2 &&& (255 : Int32))).toUInt32.toUInt16.toUInt32.toInt32), .unset] [(.ref b3), (.ref b2), (.ref b2)])) rfl (by rw [hml]; rfl) (Steps.refl _) (a := b2) (argsL := [(.ref b3)]) (rest := [(.ref b2)]) (lenOf pd_7 rfl) rfl (by show 2 * 0 + _ ≤ _; exact Nat.le_of_eq rfl) (hb hby d17_35) (fun _ _ => ⟨rfl, e3, (by decide : 2 + 4 ≤ _), (by decide : 4 + 8 ≤ _)⟩)
    dsimp only [Pt.U, Pt.locs, Pt.cells, Pt.slots] at X4 l4 y4 z4 st4 hQ4 hs4 gs4 r4
    subst l4 y4 z4
    obtain ⟨X4, hS, hZ, hown⟩ := rebS hS (by rw [e3]; exact hk) X4 hs4 gs4 hZ hown
    obtain ⟨d_4, k_4, rfl, N4q, Kc4, r4_0, r4_1, r4_2⟩ := hQ4
    have N4 := Fr.app N0 N4q
    refine own_via st4 ?_
    have hk := Nat.le_refl T4.heap.size
    have K4 : Keep h0 T4.heap [] := K3.trans Kc4 (allS (P := fun x => x ∈ _ ∨ _ ≤ x) (Or.inr (Nat.le_of_eq g2.symm)) all0)
    have R4 := R3.trans r4
    have O4 := O3.keep Kc4 (allS (P := fun x => n0 ≤ x) (Nat.le_trans Z0 (Nat.le_of_eq g2.symm)) all0)
    obtain ⟨fs5, hr5, hrun5, hended5, hRW5⟩ := X4.leaveW hS hk (v := some (.ref b2)) (fun h => by rw [Bd.returns] at h; cases h)
    refine ⟨_, _, ?_, hrun5, hended5, _, _, rfl, ?_, ?_, hRW5.1, hRW5.2.1, hRW5.2.2.1, hRW5.2.2.2.mono (by decide) (by decide)⟩
    · exact own_retA X4 hx Bd.returns rfl rfl rfl (hb hby d17_38) hr5
    · show Q_rmMk Z len c0 c1 c2 cs h0 n0 _ T4.heap _
      exact ⟨b2, rfl, N4, K4, (Nat.le_of_eq g2.symm), ((A2.ext E3).keep Kc4)⟩
    · show CHr Z own_EL s.vm s.heap T4.vm T4.heap
      rw [hh]
      exact R4.trans (CHv.at X4 hZ hEL R4.1)
  · refine own_go (A := s₁.setTop (mkF m 41 #[.val (.int len), .val (.int c0), .val (.int c1), .val (.int c2), .val (.int ((c0 &&& (255 : Int32))).toUInt32.toUInt16.toUInt32.toInt32), .val (.int ((c1 &&& (255 : Int32))).toUInt32.toUInt16.toUInt32.toInt32), .val (.int ((c2 &&& (255 : Int32))).toUInt32.toUInt16.toUInt32.toInt32), .unset] [(.int (1 : Int32)), (.int len)])) (fun t_ k_ => ?_) ?_
    · show Steps p.tables e below (s₁.setTop (mkF m 25 #[.val (.int len), .val (.int c0), .val (.int c1), .val (.int c2), .val (.int ((c0 &&& (255 : Int32))).toUInt32.toUInt16.toUInt32.toInt32), .val (.int ((c1 &&& (255 : Int32))).toUInt32.toUInt16.toUInt32.toInt32), .val (.int ((c2 &&& (255 : Int32))).toUInt32.toUInt16.toUInt32.toInt32), .unset] [(.int len)])) t_
      refine XS.ifYes X0.here hx rfl (pc0 := 25) (pc' := 39) rfl (hb hby d17_25) rfl ((if0 _ _).trans (feq hc25_1).2) (by decide) (by decide) ?_
      show Steps p.tables e below (s₁.setTop (mkF m 39 #[.val (.int len), .val (.int c0), .val (.int c1), .val (.int c2), .val (.int ((c0 &&& (255 : Int32))).toUInt32.toUInt16.toUInt32.toInt32), .val (.int ((c1 &&& (255 : Int32))).toUInt32.toUInt16.toUInt32.toInt32), .val (.int ((c2 &&& (255 : Int32))).toUInt32.toUInt16.toUInt32.toInt32), .unset] [])) t_
      refine XS.iloadN X0.here hx rfl (hb hby d17_39) rfl ?_
      show Steps p.tables e below (s₁.setTop (mkF m 40 #[.val (.int len), .val (.int c0), .val (.int c1), .val (.int c2), .val (.int ((c0 &&& (255 : Int32))).toUInt32.toUInt16.toUInt32.toInt32), .val (.int ((c1 &&& (255 : Int32))).toUInt32.toUInt16.toUInt32.toInt32), .val (.int ((c2 &&& (255 : Int32))).toUInt32.toUInt16.toUInt32.toInt32), .unset] [(.int len)])) t_
      refine XS.iconst X0.here hx rfl (hb hby d17_40) ?_
      exact k_
    by_cases hc41_6 : len = (1 : Int32)
    · refine own_go (A := s₁.setTop (mkF m 46 #[.val (.int len), .val (.int c0), .val (.int c1), .val (.int c2), .val (.int ((c0 &&& (255 : Int32))).toUInt32.toUInt16.toUInt32.toInt32), .val (.int ((c1 &&& (255 : Int32))).toUInt32.toUInt16.toUInt32.toInt32), .val (.int ((c2 &&& (255 : Int32))).toUInt32.toUInt16.toUInt32.toInt32), .unset] [(.int ((c0 &&& (255 : Int32))).toUInt32.toUInt16.toUInt32.toInt32)])) (fun t_ k_ => ?_) ?_
      · show Steps p.tables e below (s₁.setTop (mkF m 41 #[.val (.int len), .val (.int c0), .val (.int c1), .val (.int c2), .val (.int ((c0 &&& (255 : Int32))).toUInt32.toUInt16.toUInt32.toInt32), .val (.int ((c1 &&& (255 : Int32))).toUInt32.toUInt16.toUInt32.toInt32), .val (.int ((c2 &&& (255 : Int32))).toUInt32.toUInt16.toUInt32.toInt32), .unset] [(.int (1 : Int32)), (.int len)])) t_
        refine XS.icmpNo X0.here hx rfl (hb hby d17_41) rfl (teq hc41_6).2 ?_
        show Steps p.tables e below (s₁.setTop (mkF m 44 #[.val (.int len), .val (.int c0), .val (.int c1), .val (.int c2), .val (.int ((c0 &&& (255 : Int32))).toUInt32.toUInt16.toUInt32.toInt32), .val (.int ((c1 &&& (255 : Int32))).toUInt32.toUInt16.toUInt32.toInt32), .val (.int ((c2 &&& (255 : Int32))).toUInt32.toUInt16.toUInt32.toInt32), .unset] [])) t_
        refine XS.iload X0.here hx rfl (hb hby d17_44) rfl ?_
        exact k_
      obtain ⟨_, _, ⟨T7, L7, k7, n7⟩, -, X7, ⟨Lc7, hQ7, l7, y7, z7⟩, st7⟩ := Jvm.LawKit.callS X0 hx (y := own_y3) hown (mvT hZ (own_w hw 140 rfl)) (mvT hZ (own_w hw 141 rfl)) (mvT hZ (own_w hw 112 rfl)) (mvT hZ (own_w hw 142 rfl)) (by decide) (backOf (W := 0) (rmValOf l Z a0 hw [] (((c0 &&& (255 : Int32))).toUInt32.toUInt16.toUInt32.toInt32) cs h0 n0 Z0 O0 u1 hcs (own_le255a _ : ¬ ((255 : Int32) < ((c0 &&& (255 : Int32))).toUInt32.toUInt16.toUInt32.toInt32))) hZ (own_w hw 142 rfl) (own_w hw 112 rfl) (by decide) (by decide)) (g := (mkF m 46 #[.val (.int len), .val (.int c0), .val (.int c1), .val (.int c2), .val (.int ((c0 &&& (255 : Int32))).toUInt32.toUInt16.toUInt32.toInt32), .val (.int ((c1 &&& (255 : Int32))).toUInt32.toUInt16.toUInt32.toInt32), .val (.int ((c2 &&& (255 : Int32))).toUInt32.toUInt16.toUInt32.toInt32), .unset] [(.int ((c0 &&& (255 : Int32))).toUInt32.toUInt16.toUInt32.toInt32)])) rfl (by rw [hml]; rfl) (argsL := [(.int ((c0 &&& (255 : Int32))).toUInt32.toUInt16.toUInt32.toInt32)]) (rest := []) (lenOf pd_8 rfl) rfl (by show 2 * 0 + _ ≤ _; exact Nat.le_of_eq rfl) (hb hby d17_46) (fun _ _ => ⟨rfl, e0, (by decide : 0 + 2 ≤ _), (by decide : 0 + 5 ≤ _)⟩)
      dsimp only [Pt.U, Pt.locs, Pt.cells, Pt.slots] at X7 l7 y7 z7 st7 hQ7
      subst l7 y7 z7
      obtain ⟨b_7, d_7, k_7, rfl, N7q, Kc7, r7_0, r7_1, r7_2, r7_3, r7_4, r7_5⟩ := hQ7
      have N7 := Fr.app N0 N7q
      refine own_go st7 ?_
      have K7 : Keep h0 T7.heap [] := (Keep.refl h0 []).trans Kc7 all0
      have r7 := CHr.keep Kc7 all0 R0.1
      have R7 := R0.trans r7
      have hk := Nat.le_trans hk Kc7.1
      have O7 := O0.keep Kc7 all0
      obtain ⟨fs8, hr8, hrun8, hended8, hRW8⟩ := X7.leaveW hS hk (v := some (.ref b_7)) (fun h => by rw [Bd.returns] at h; cases h)
      refine ⟨_, _, ?_, hrun8, hended8, _, _, rfl, ?_, ?_, hRW8.1, hRW8.2.1, hRW8.2.2.1, hRW8.2.2.2.mono (by decide) (by decide)⟩
      · exact own_retA X7 hx Bd.returns rfl rfl rfl (hb hby d17_49) hr8
      · show Q_rmMk Z len c0 c1 c2 cs h0 n0 _ T7.heap _
        exact ⟨b_7, rfl, N7, K7, r7_0, r7_2⟩
      · show CHr Z own_EL s.vm s.heap T7.vm T7.heap
        rw [hh]
        exact R7.trans (CHv.at X7 hZ hEL R7.1)
    · refine own_go (A := s₁.setTop (mkF m 52 #[.val (.int len), .val (.int c0), .val (.int c1), .val (.int c2), .val (.int ((c0 &&& (255 : Int32))).toUInt32.toUInt16.toUInt32.toInt32), .val (.int ((c1 &&& (255 : Int32))).toUInt32.toUInt16.toUInt32.toInt32), .val (.int ((c2 &&& (255 : Int32))).toUInt32.toUInt16.toUInt32.toInt32), .unset] [(.int (2 : Int32)), (.int len)])) (fun t_ k_ => ?_) ?_
      · show Steps p.tables e below (s₁.setTop (mkF m 41 #[.val (.int len), .val (.int c0), .val (.int c1), .val (.int c2), .val (.int ((c0 &&& (255 : Int32))).toUInt32.toUInt16.toUInt32.toInt32), .val (.int ((c1 &&& (255 : Int32))).toUInt32.toUInt16.toUInt32.toInt32), .val (.int ((c2 &&& (255 : Int32))).toUInt32.toUInt16.toUInt32.toInt32), .unset] [(.int (1 : Int32)), (.int len)])) t_
        refine XS.icmpYes X0.here hx rfl (pc0 := 41) (pc' := 50) rfl (hb hby d17_41) rfl (feq hc41_6).2 (by decide) (by decide) ?_
        show Steps p.tables e below (s₁.setTop (mkF m 50 #[.val (.int len), .val (.int c0), .val (.int c1), .val (.int c2), .val (.int ((c0 &&& (255 : Int32))).toUInt32.toUInt16.toUInt32.toInt32), .val (.int ((c1 &&& (255 : Int32))).toUInt32.toUInt16.toUInt32.toInt32), .val (.int ((c2 &&& (255 : Int32))).toUInt32.toUInt16.toUInt32.toInt32), .unset] [])) t_
        refine XS.iloadN X0.here hx rfl (hb hby d17_50) rfl ?_
        show Steps p.tables e below (s₁.setTop (mkF m 51 #[.val (.int len), .val (.int c0), .val (.int c1), .val (.int c2), .val (.int ((c0 &&& (255 : Int32))).toUInt32.toUInt16.toUInt32.toInt32), .val (.int ((c1 &&& (255 : Int32))).toUInt32.toUInt16.toUInt32.toInt32), .val (.int ((c2 &&& (255 : Int32))).toUInt32.toUInt16.toUInt32.toInt32), .unset] [(.int len)])) t_
        refine XS.iconst X0.here hx rfl (hb hby d17_51) ?_
        exact k_
      by_cases hc52_9 : len = (2 : Int32)
      · refine own_go (A := s₁.setTop (mkF m 56 #[.val (.int len), .val (.int c0), .val (.int c1), .val (.int c2), .val (.int ((c0 &&& (255 : Int32))).toUInt32.toUInt16.toUInt32.toInt32), .val (.int ((c1 &&& (255 : Int32))).toUInt32.toUInt16.toUInt32.toInt32), .val (.int ((c2 &&& (255 : Int32))).toUInt32.toUInt16.toUInt32.toInt32), .unset] [(.int (2 : Int32))])) (fun t_ k_ => ?_) ?_
        · show Steps p.tables e below (s₁.setTop (mkF m 52 #[.val (.int len), .val (.int c0), .val (.int c1), .val (.int c2), .val (.int ((c0 &&& (255 : Int32))).toUInt32.toUInt16.toUInt32.toInt32), .val (.int ((c1 &&& (255 : Int32))).toUInt32.toUInt16.toUInt32.toInt32), .val (.int ((c2 &&& (255 : Int32))).toUInt32.toUInt16.toUInt32.toInt32), .unset] [(.int (2 : Int32)), (.int len)])) t_
          refine XS.icmpNo X0.here hx rfl (hb hby d17_52) rfl (teq hc52_9).2 ?_
          show Steps p.tables e below (s₁.setTop (mkF m 55 #[.val (.int len), .val (.int c0), .val (.int c1), .val (.int c2), .val (.int ((c0 &&& (255 : Int32))).toUInt32.toUInt16.toUInt32.toInt32), .val (.int ((c1 &&& (255 : Int32))).toUInt32.toUInt16.toUInt32.toInt32), .val (.int ((c2 &&& (255 : Int32))).toUInt32.toUInt16.toUInt32.toInt32), .unset] [])) t_
          refine XS.iconst X0.here hx rfl (hb hby d17_55) ?_
          exact k_
        obtain ⟨T10, h10, k10, X10, e10, E10, A10, st10⟩ := newP X0 hx hZ (own_w hw 109 rfl) e0 (g := (mkF m 56 #[.val (.int len), .val (.int c0), .val (.int c1), .val (.int c2), .val (.int ((c0 &&& (255 : Int32))).toUInt32.toUInt16.toUInt32.toInt32), .val (.int ((c1 &&& (255 : Int32))).toUInt32.toUInt16.toUInt32.toInt32), .val (.int ((c2 &&& (255 : Int32))).toUInt32.toUInt16.toUInt32.toInt32), .unset] [(.int (2 : Int32))])) rfl (hb hby d17_56) rfl (by decide) (cap := 2) (by decide) (by decide) (by decide) (by decide)
        obtain ⟨b10, g10⟩ : ∃ z, z = h0.size := ⟨_, rfl⟩
        rw [← g10] at A10 st10
        refine own_go st10 ?_
        have K10 : Keep h0 h10 [] := (Keep.refl h0 []).ext E10
        have r10 := CHr.ext E10 R0.1
        have R10 := R0.trans r10
        have hk := Nat.le_trans hk E10.1
        have O10 := O0.ext E10
        have Q10 := Safe.ext E10 R0.1 (Safe.new (Nat.le_of_eq g10.symm))
        have B10 : Arv Z h10 b10 k10 .char (2 : Int32) [(.int (0 : Int32)), (.int (0 : Int32))] (.int (0 : Int32)) := (Arv.new A10 (by decide)).pad (pad_rep [] (.int (0 : Int32)) 2)
        refine own_go (A := T10.setTop (mkF m 65 #[.val (.int len), .val (.int c0), .val (.int c1), .val (.int c2), .val (.int ((c0 &&& (255 : Int32))).toUInt32.toUInt16.toUInt32.toInt32), .val (.int ((c1 &&& (255 : Int32))).toUInt32.toUInt16.toUInt32.toInt32), .val (.int ((c2 &&& (255 : Int32))).toUInt32.toUInt16.toUInt32.toInt32), .val (.ref b10)] [(.int ((c0 &&& (255 : Int32))).toUInt32.toUInt16.toUInt32.toInt32), (.int (0 : Int32)), (.ref b10)])) (fun t_ k_ => ?_) ?_
        · show Steps p.tables e below (T10.setTop (mkF m 58 #[.val (.int len), .val (.int c0), .val (.int c1), .val (.int c2), .val (.int ((c0 &&& (255 : Int32))).toUInt32.toUInt16.toUInt32.toInt32), .val (.int ((c1 &&& (255 : Int32))).toUInt32.toUInt16.toUInt32.toInt32), .val (.int ((c2 &&& (255 : Int32))).toUInt32.toUInt16.toUInt32.toInt32), .unset] [(.ref b10)])) t_
          refine XS.astore X10.here hx rfl (hb hby d17_58) rfl rfl (l' := #[.val (.int len), .val (.int c0), .val (.int c1), .val (.int c2), .val (.int ((c0 &&& (255 : Int32))).toUInt32.toUInt16.toUInt32.toInt32), .val (.int ((c1 &&& (255 : Int32))).toUInt32.toUInt16.toUInt32.toInt32), .val (.int ((c2 &&& (255 : Int32))).toUInt32.toUInt16.toUInt32.toInt32), .val (.ref b10)]) rfl ?_
          show Steps p.tables e below (T10.setTop (mkF m 60 #[.val (.int len), .val (.int c0), .val (.int c1), .val (.int c2), .val (.int ((c0 &&& (255 : Int32))).toUInt32.toUInt16.toUInt32.toInt32), .val (.int ((c1 &&& (255 : Int32))).toUInt32.toUInt16.toUInt32.toInt32), .val (.int ((c2 &&& (255 : Int32))).toUInt32.toUInt16.toUInt32.toInt32), .val (.ref b10)] [])) t_
          refine XS.aload X10.here hx rfl (hb hby d17_60) rfl rfl ?_
          show Steps p.tables e below (T10.setTop (mkF m 62 #[.val (.int len), .val (.int c0), .val (.int c1), .val (.int c2), .val (.int ((c0 &&& (255 : Int32))).toUInt32.toUInt16.toUInt32.toInt32), .val (.int ((c1 &&& (255 : Int32))).toUInt32.toUInt16.toUInt32.toInt32), .val (.int ((c2 &&& (255 : Int32))).toUInt32.toUInt16.toUInt32.toInt32), .val (.ref b10)] [(.ref b10)])) t_
          refine XS.iconst X10.here hx rfl (hb hby d17_62) ?_
          show Steps p.tables e below (T10.setTop (mkF m 63 #[.val (.int len), .val (.int c0), .val (.int c1), .val (.int c2), .val (.int ((c0 &&& (255 : Int32))).toUInt32.toUInt16.toUInt32.toInt32), .val (.int ((c1 &&& (255 : Int32))).toUInt32.toUInt16.toUInt32.toInt32), .val (.int ((c2 &&& (255 : Int32))).toUInt32.toUInt16.toUInt32.toInt32), .val (.ref b10)] [(.int (0 : Int32)), (.ref b10)])) t_
          refine XS.iload X10.here hx rfl (hb hby d17_63) rfl ?_
          exact k_
        obtain ⟨cl11, Ar11, q11, S11, M11, H11, G11⟩ := id B10
        have hin11 : ¬ ((0 : Int32) < 0 ∨ cl11.slots.size ≤ ((0 : Int32)).toNatClampNeg) := inb_of S11 ⟨by decide, by decide⟩
        obtain ⟨T12, h12, X12, e12, W12, st12⟩ := stC X10 hx hZ e10 Ar11 (j := (0 : Int32)) hin11 (g := (mkF m 65 #[.val (.int len), .val (.int c0), .val (.int c1), .val (.int c2), .val (.int ((c0 &&& (255 : Int32))).toUInt32.toUInt16.toUInt32.toInt32), .val (.int ((c1 &&& (255 : Int32))).toUInt32.toUInt16.toUInt32.toInt32), .val (.int ((c2 &&& (255 : Int32))).toUInt32.toUInt16.toUInt32.toInt32), .val (.ref b10)] [(.int ((c0 &&& (255 : Int32))).toUInt32.toUInt16.toUInt32.toInt32), (.int (0 : Int32)), (.ref b10)])) rfl rfl (hb hby d17_65)
        have B12 : Arv Z h12 b10 k10 .char (2 : Int32) [(.int (nar .char ((c0 &&& (255 : Int32))).toUInt32.toUInt16.toUInt32.toInt32)), (.int (0 : Int32))] (.int (0 : Int32)) := Arv.set Ar11 q11 S11 M11 H11 G11 (fits_nar_char _) W12 0 rfl (Nat.le_of_ble_eq_true rfl)
        refine own_go st12 ?_
        have K12 : Keep h0 h12 [] := K10.wr W12 (Or.inr (Nat.le_of_eq g10.symm))
        have r12 := CHr.wr W12 Q10 R10.1
        have R12 := R10.trans r12
        have hk := Nat.le_trans hk (Keep.of_wr W12).1
        have O12 := O10.wr W12 (Nat.le_trans Z0 (Nat.le_of_eq g10.symm))
        have N12 := Fr.snoc X12 N0 (Nat.le_trans Z0 (Nat.le_of_eq g10.symm))
        refine own_go (A := T12.setTop (mkF m 71 #[.val (.int len), .val (.int c0), .val (.int c1), .val (.int c2), .val (.int ((c0 &&& (255 : Int32))).toUInt32.toUInt16.toUInt32.toInt32), .val (.int ((c1 &&& (255 : Int32))).toUInt32.toUInt16.toUInt32.toInt32), .val (.int ((c2 &&& (255 : Int32))).toUInt32.toUInt16.toUInt32.toInt32), .val (.ref b10)] [(.int ((c1 &&& (255 : Int32))).toUInt32.toUInt16.toUInt32.toInt32), (.int (1 : Int32)), (.ref b10)])) (fun t_ k_ => ?_) ?_
        · show Steps p.tables e below (T12.setTop (mkF m 66 #[.val (.int len), .val (.int c0), .val (.int c1), .val (.int c2), .val (.int ((c0 &&& (255 : Int32))).toUInt32.toUInt16.toUInt32.toInt32), .val (.int ((c1 &&& (255 : Int32))).toUInt32.toUInt16.toUInt32.toInt32), .val (.int ((c2 &&& (255 : Int32))).toUInt32.toUInt16.toUInt32.toInt32), .val (.ref b10)] [])) t_
          refine XS.aload X12.here hx rfl (hb hby d17_66) rfl rfl ?_
          show Steps p.tables e below (T12.setTop (mkF m 68 #[.val (.int len), .val (.int c0), .val (.int c1), .val (.int c2), .val (.int ((c0 &&& (255 : Int32))).toUInt32.toUInt16.toUInt32.toInt32), .val (.int ((c1 &&& (255 : Int32))).toUInt32.toUInt16.toUInt32.toInt32), .val (.int ((c2 &&& (255 : Int32))).toUInt32.toUInt16.toUInt32.toInt32), .val (.ref b10)] [(.ref b10)])) t_
          refine XS.iconst X12.here hx rfl (hb hby d17_68) ?_
          show Steps p.tables e below (T12.setTop (mkF m 69 #[.val (.int len), .val (.int c0), .val (.int c1), .val (.int c2), .val (.int ((c0 &&& (255 : Int32))).toUInt32.toUInt16.toUInt32.toInt32), .val (.int ((c1 &&& (255 : Int32))).toUInt32.toUInt16.toUInt32.toInt32), .val (.int ((c2 &&& (255 : Int32))).toUInt32.toUInt16.toUInt32.toInt32), .val (.ref b10)] [(.int (1 : Int32)), (.ref b10)])) t_
          refine XS.iload X12.here hx rfl (hb hby d17_69) rfl ?_
          exact k_
        obtain ⟨cl13, Ar13, q13, S13, M13, H13, G13⟩ := id B12
        have hin13 : ¬ ((1 : Int32) < 0 ∨ cl13.slots.size ≤ ((1 : Int32)).toNatClampNeg) := inb_of S13 ⟨by decide, by decide⟩
        obtain ⟨T14, h14, X14, e14, W14, st14⟩ := stC X12 hx hZ e12 Ar13 (j := (1 : Int32)) hin13 (g := (mkF m 71 #[.val (.int len), .val (.int c0), .val (.int c1), .val (.int c2), .val (.int ((c0 &&& (255 : Int32))).toUInt32.toUInt16.toUInt32.toInt32), .val (.int ((c1 &&& (255 : Int32))).toUInt32.toUInt16.toUInt32.toInt32), .val (.int ((c2 &&& (255 : Int32))).toUInt32.toUInt16.toUInt32.toInt32), .val (.ref b10)] [(.int ((c1 &&& (255 : Int32))).toUInt32.toUInt16.toUInt32.toInt32), (.int (1 : Int32)), (.ref b10)])) rfl rfl (hb hby d17_71)
        have B14 : Arv Z h14 b10 k10 .char (2 : Int32) [(.int (nar .char ((c0 &&& (255 : Int32))).toUInt32.toUInt16.toUInt32.toInt32)), (.int (nar .char ((c1 &&& (255 : Int32))).toUInt32.toUInt16.toUInt32.toInt32))] (.int (0 : Int32)) := Arv.set Ar13 q13 S13 M13 H13 G13 (fits_nar_char _) W14 1 rfl (Nat.le_of_ble_eq_true rfl)
        refine own_go st14 ?_
        have K14 : Keep h0 h14 [] := K12.wr W14 (Or.inr (Nat.le_of_eq g10.symm))
        have r14 := CHr.wr W14 (r12.safe B10.lt Q10) R12.1
        have R14 := R12.trans r14
        have hk := Nat.le_trans hk (Keep.of_wr W14).1
        have O14 := O12.wr W14 (Nat.le_trans Z0 (Nat.le_of_eq g10.symm))
        have N14 := Fr.snoc X14 N12 (Nat.le_trans Z0 (Nat.le_of_eq g10.symm))
        obtain ⟨T15, h15, X15, e15, E15, A15, D15, -, st15⟩ := newO X14 hx hZ hown (own_w hw 110 rfl) (own_w hw 111 rfl) (own_w hw 112 rfl) e14 (g := (mkF m 72 #[.val (.int len), .val (.int c0), .val (.int c1), .val (.int c2), .val (.int ((c0 &&& (255 : Int32))).toUInt32.toUInt16.toUInt32.toInt32), .val (.int ((c1 &&& (255 : Int32))).toUInt32.toUInt16.toUInt32.toInt32), .val (.int ((c2 &&& (255 : Int32))).toUInt32.toUInt16.toUInt32.toInt32), .val (.ref b10)] [])) rfl (hb hby d17_72) (by decide) (by decide)
        obtain ⟨b15, g15⟩ : ∃ z, z = h14.size := ⟨_, rfl⟩
        rw [← g15] at A15 D15 st15
        refine own_go st15 ?_
        have K15 : Keep h0 h15 [] := K14.ext E15
        have r15 := CHr.ext E15 R14.1
        have R15 := R14.trans r15
        have hk := Nat.le_trans hk E15.1
        have O15 := O14.ext E15
        have Q15 := Safe.ext E15 R14.1 (Safe.new (Nat.le_of_eq g15.symm))
        have F15_coder : Fld Z h15 b15 "java/lang/String" "coder" "B" (.int (0 : Int32)) := D15 (Or.inr (own_w hw 134 rfl)) (ty := .byte) (by decide)
        have F15_value : Fld Z h15 b15 "java/lang/String" "value" "[B" .null := D15 (Or.inr (own_w hw 136 rfl)) (ty := (.array .byte)) (by decide)
        refine own_go (A := T15.setTop (mkF m 78 #[.val (.int len), .val (.int c0), .val (.int c1), .val (.int c2), .val (.int ((c0 &&& (255 : Int32))).toUInt32.toUInt16.toUInt32.toInt32), .val (.int ((c1 &&& (255 : Int32))).toUInt32.toUInt16.toUInt32.toInt32), .val (.int ((c2 &&& (255 : Int32))).toUInt32.toUInt16.toUInt32.toInt32), .val (.ref b10)] [(.ref b10), (.ref b15), (.ref b15)])) (fun t_ k_ => ?_) ?_
        · show Steps p.tables e below (T15.setTop (mkF m 75 #[.val (.int len), .val (.int c0), .val (.int c1), .val (.int c2), .val (.int ((c0 &&& (255 : Int32))).toUInt32.toUInt16.toUInt32.toInt32), .val (.int ((c1 &&& (255 : Int32))).toUInt32.toUInt16.toUInt32.toInt32), .val (.int ((c2 &&& (255 : Int32))).toUInt32.toUInt16.toUInt32.toInt32), .val (.ref b10)] [(.ref b15)])) t_
          refine XS.dup X15.here hx rfl (hb hby d17_75) rfl rfl ?_
          show Steps p.tables e below (T15.setTop (mkF m 76 #[.val (.int len), .val (.int c0), .val (.int c1), .val (.int c2), .val (.int ((c0 &&& (255 : Int32))).toUInt32.toUInt16.toUInt32.toInt32), .val (.int ((c1 &&& (255 : Int32))).toUInt32.toUInt16.toUInt32.toInt32), .val (.int ((c2 &&& (255 : Int32))).toUInt32.toUInt16.toUInt32.toInt32), .val (.ref b10)] [(.ref b15), (.ref b15)])) t_
          refine XS.aload X15.here hx rfl (hb hby d17_76) rfl rfl ?_
          exact k_
        obtain ⟨_, _, ⟨T16, L16, k16, n16⟩, -, X16, ⟨Lc16, hQ16, l16, y16, z16⟩, st16⟩ := X15.specialBack hx (y := own_y8) rfl hown (mvT hZ (own_w hw 113 rfl)) (mvT hZ (own_w hw 114 rfl)) (mvT hZ (own_w hw 115 rfl)) (by decide) (backOf (W := 1) (rmSC2 l Z a0 hw [] b15 b10 cs k10 (nar .char ((c0 &&& (255 : Int32))).toUInt32.toUInt16.toUInt32.toInt32) (nar .char ((c1 &&& (255 : Int32))).toUInt32.toUInt16.toUInt32.toInt32) h15 n0 (Nat.le_trans Z0 K15.1) O15 u1 hcs A15 F15_value F15_coder (Nat.le_trans Z0 (Nat.le_trans K14.1 (Nat.le_of_eq g15.symm))) (B14.ext E15) (own_le255b _ : ¬ ((255 : Int32) < (nar .char ((c0 &&& (255 : Int32))).toUInt32.toUInt16.toUInt32.toInt32))) (own_le255b _ : ¬ ((255 : Int32) < (nar .char ((c1 &&& (255 : Int32))).toUInt32.toUInt16.toUInt32.toInt32)))) hZ (own_w hw 115 rfl) (own_w hw 112 rfl) (by decide) (by decide)) (g := (mkF m 78 #[.val (.int len), .val (.int c0), .val (.int c1), .val (.int c2), .val (.int ((c0 &&& (255 : Int32))).toUInt32.toUInt16.toUInt32.toInt32), .val (.int ((c1 &&& (255 : Int32))).toUInt32.toUInt16.toUInt32.toInt32), .val (.int ((c2 &&& (255 : Int32))).toUInt32.toUInt16.toUInt32.toInt32), .val (.ref b10)] [(.ref b10), (.ref b15), (.ref b15)])) rfl (by rw [hml]; rfl) (Steps.refl _) (a := b15) (argsL := [(.ref b10)]) (rest := [(.ref b15)]) (lenOf pd_7 rfl) rfl (by show 2 * 0 + _ ≤ _; exact Nat.le_of_eq rfl) (hb hby d17_78) (fun _ _ => ⟨rfl, e15, (by decide : 2 + 1 ≤ _), (by decide : 6 + 2 ≤ _)⟩)
        dsimp only [Pt.U, Pt.locs, Pt.cells, Pt.slots] at X16 l16 y16 z16 st16 hQ16
        subst l16 y16 z16
        obtain ⟨d_16, k_16, rfl, N16q, Kc16, r16_0, r16_1, r16_2, r16_3⟩ := hQ16
        have N16 := Fr.app N14 N16q
        refine own_via st16 ?_
        have K16 : Keep h0 T16.heap [] := K15.trans Kc16 (allS (P := fun x => x ∈ _ ∨ _ ≤ x) (Or.inr (Nat.le_trans K14.1 (Nat.le_of_eq g15.symm))) all0)
        have r16 := CHr.keep Kc16 (allS (P := fun x => Safe Z own_EL _ _ x) Q15 all0) R15.1
        have R16 := R15.trans r16
        have hk := Nat.le_trans hk Kc16.1
        have O16 := O15.keep Kc16 (allS (P := fun x => n0 ≤ x) (Nat.le_trans Z0 (Nat.le_trans K14.1 (Nat.le_of_eq g15.symm))) all0)
        obtain ⟨fs17, hr17, hrun17, hended17, hRW17⟩ := X16.leaveW hS hk (v := some (.ref b15)) (fun h => by rw [Bd.returns] at h; cases h)
        refine ⟨_, _, ?_, hrun17, hended17, _, _, rfl, ?_, ?_, hRW17.1, hRW17.2.1, hRW17.2.2.1, hRW17.2.2.2.mono (by decide) (by decide)⟩
        · exact own_retA X16 hx Bd.returns rfl rfl rfl (hb hby d17_81) hr17
        · show Q_rmMk Z len c0 c1 c2 cs h0 n0 _ T16.heap _
          exact ⟨b15, rfl, N16, K16, (Nat.le_trans K14.1 (Nat.le_of_eq g15.symm)), (A15.keep Kc16)⟩
        · show CHr Z own_EL s.vm s.heap T16.vm T16.heap
          rw [hh]
          exact R16.trans (CHv.at X16 hZ hEL R16.1)
      · refine own_go (A := s₁.setTop (mkF m 83 #[.val (.int len), .val (.int c0), .val (.int c1), .val (.int c2), .val (.int ((c0 &&& (255 : Int32))).toUInt32.toUInt16.toUInt32.toInt32), .val (.int ((c1 &&& (255 : Int32))).toUInt32.toUInt16.toUInt32.toInt32), .val (.int ((c2 &&& (255 : Int32))).toUInt32.toUInt16.toUInt32.toInt32), .unset] [(.int (3 : Int32))])) (fun t_ k_ => ?_) ?_
        · show Steps p.tables e below (s₁.setTop (mkF m 52 #[.val (.int len), .val (.int c0), .val (.int c1), .val (.int c2), .val (.int ((c0 &&& (255 : Int32))).toUInt32.toUInt16.toUInt32.toInt32), .val (.int ((c1 &&& (255 : Int32))).toUInt32.toUInt16.toUInt32.toInt32), .val (.int ((c2 &&& (255 : Int32))).toUInt32.toUInt16.toUInt32.toInt32), .unset] [(.int (2 : Int32)), (.int len)])) t_
          refine XS.icmpYes X0.here hx rfl (pc0 := 52) (pc' := 82) rfl (hb hby d17_52) rfl (feq hc52_9).2 (by decide) (by decide) ?_
          show Steps p.tables e below (s₁.setTop (mkF m 82 #[.val (.int len), .val (.int c0), .val (.int c1), .val (.int c2), .val (.int ((c0 &&& (255 : Int32))).toUInt32.toUInt16.toUInt32.toInt32), .val (.int ((c1 &&& (255 : Int32))).toUInt32.toUInt16.toUInt32.toInt32), .val (.int ((c2 &&& (255 : Int32))).toUInt32.toUInt16.toUInt32.toInt32), .unset] [])) t_
          refine XS.iconst X0.here hx rfl (hb hby d17_82) ?_
          exact k_
        obtain ⟨T18, h18, k18, X18, e18, E18, A18, st18⟩ := newP X0 hx hZ (own_w hw 109 rfl) e0 (g := (mkF m 83 #[.val (.int len), .val (.int c0), .val (.int c1), .val (.int c2), .val (.int ((c0 &&& (255 : Int32))).toUInt32.toUInt16.toUInt32.toInt32), .val (.int ((c1 &&& (255 : Int32))).toUInt32.toUInt16.toUInt32.toInt32), .val (.int ((c2 &&& (255 : Int32))).toUInt32.toUInt16.toUInt32.toInt32), .unset] [(.int (3 : Int32))])) rfl (hb hby d17_83) rfl (by decide) (cap := 3) (by decide) (by decide) (by decide) (by decide)
        obtain ⟨b18, g18⟩ : ∃ z, z = h0.size := ⟨_, rfl⟩
        rw [← g18] at A18 st18
        refine own_go st18 ?_
        have K18 : Keep h0 h18 [] := (Keep.refl h0 []).ext E18
        have r18 := CHr.ext E18 R0.1
        have R18 := R0.trans r18
        have hk := Nat.le_trans hk E18.1
        have O18 := O0.ext E18
        have Q18 := Safe.ext E18 R0.1 (Safe.new (Nat.le_of_eq g18.symm))
        have B18 : Arv Z h18 b18 k18 .char (3 : Int32) [(.int (0 : Int32)), (.int (0 : Int32)), (.int (0 : Int32))] (.int (0 : Int32)) := (Arv.new A18 (by decide)).pad (pad_rep [] (.int (0 : Int32)) 3)
        refine own_go (A := T18.setTop (mkF m 92 #[.val (.int len), .val (.int c0), .val (.int c1), .val (.int c2), .val (.int ((c0 &&& (255 : Int32))).toUInt32.toUInt16.toUInt32.toInt32), .val (.int ((c1 &&& (255 : Int32))).toUInt32.toUInt16.toUInt32.toInt32), .val (.int ((c2 &&& (255 : Int32))).toUInt32.toUInt16.toUInt32.toInt32), .val (.ref b18)] [(.int ((c0 &&& (255 : Int32))).toUInt32.toUInt16.toUInt32.toInt32), (.int (0 : Int32)), (.ref b18)])) (fun t_ k_ => ?_) ?_
        · show Steps p.tables e below (T18.setTop (mkF m 85 #[.val (.int len), .val (.int c0), .val (.int c1), .val (.int c2), .val (.int ((c0 &&& (255 : Int32))).toUInt32.toUInt16.toUInt32.toInt32), .val (.int ((c1 &&& (255 : Int32))).toUInt32.toUInt16.toUInt32.toInt32), .val (.int ((c2 &&& (255 : Int32))).toUInt32.toUInt16.toUInt32.toInt32), .unset] [(.ref b18)])) t_
          refine XS.astore X18.here hx rfl (hb hby d17_85) rfl rfl (l' := #[.val (.int len), .val (.int c0), .val (.int c1), .val (.int c2), .val (.int ((c0 &&& (255 : Int32))).toUInt32.toUInt16.toUInt32.toInt32), .val (.int ((c1 &&& (255 : Int32))).toUInt32.toUInt16.toUInt32.toInt32), .val (.int ((c2 &&& (255 : Int32))).toUInt32.toUInt16.toUInt32.toInt32), .val (.ref b18)]) rfl ?_
          show Steps p.tables e below (T18.setTop (mkF m 87 #[.val (.int len), .val (.int c0), .val (.int c1), .val (.int c2), .val (.int ((c0 &&& (255 : Int32))).toUInt32.toUInt16.toUInt32.toInt32), .val (.int ((c1 &&& (255 : Int32))).toUInt32.toUInt16.toUInt32.toInt32), .val (.int ((c2 &&& (255 : Int32))).toUInt32.toUInt16.toUInt32.toInt32), .val (.ref b18)] [])) t_
          refine XS.aload X18.here hx rfl (hb hby d17_87) rfl rfl ?_
          show Steps p.tables e below (T18.setTop (mkF m 89 #[.val (.int len), .val (.int c0), .val (.int c1), .val (.int c2), .val (.int ((c0 &&& (255 : Int32))).toUInt32.toUInt16.toUInt32.toInt32), .val (.int ((c1 &&& (255 : Int32))).toUInt32.toUInt16.toUInt32.toInt32), .val (.int ((c2 &&& (255 : Int32))).toUInt32.toUInt16.toUInt32.toInt32), .val (.ref b18)] [(.ref b18)])) t_
          refine XS.iconst X18.here hx rfl (hb hby d17_89) ?_
          show Steps p.tables e below (T18.setTop (mkF m 90 #[.val (.int len), .val (.int c0), .val (.int c1), .val (.int c2), .val (.int ((c0 &&& (255 : Int32))).toUInt32.toUInt16.toUInt32.toInt32), .val (.int ((c1 &&& (255 : Int32))).toUInt32.toUInt16.toUInt32.toInt32), .val (.int ((c2 &&& (255 : Int32))).toUInt32.toUInt16.toUInt32.toInt32), .val (.ref b18)] [(.int (0 : Int32)), (.ref b18)])) t_
          refine XS.iload X18.here hx rfl (hb hby d17_90) rfl ?_
          exact k_
        obtain ⟨cl19, Ar19, q19, S19, M19, H19, G19⟩ := id B18
        have hin19 : ¬ ((0 : Int32) < 0 ∨ cl19.slots.size ≤ ((0 : Int32)).toNatClampNeg) := inb_of S19 ⟨by decide, by decide⟩
        obtain ⟨T20, h20, X20, e20, W20, st20⟩ := stC X18 hx hZ e18 Ar19 (j := (0 : Int32)) hin19 (g := (mkF m 92 #[.val (.int len), .val (.int c0), .val (.int c1), .val (.int c2), .val (.int ((c0 &&& (255 : Int32))).toUInt32.toUInt16.toUInt32.toInt32), .val (.int ((c1 &&& (255 : Int32))).toUInt32.toUInt16.toUInt32.toInt32), .val (.int ((c2 &&& (255 : Int32))).toUInt32.toUInt16.toUInt32.toInt32), .val (.ref b18)] [(.int ((c0 &&& (255 : Int32))).toUInt32.toUInt16.toUInt32.toInt32), (.int (0 : Int32)), (.ref b18)])) rfl rfl (hb hby d17_92)
        have B20 : Arv Z h20 b18 k18 .char (3 : Int32) [(.int (nar .char ((c0 &&& (255 : Int32))).toUInt32.toUInt16.toUInt32.toInt32)), (.int (0 : Int32)), (.int (0 : Int32))] (.int (0 : Int32)) := Arv.set Ar19 q19 S19 M19 H19 G19 (fits_nar_char _) W20 0 rfl (Nat.le_of_ble_eq_true rfl)
        refine own_go st20 ?_
        have K20 : Keep h0 h20 [] := K18.wr W20 (Or.inr (Nat.le_of_eq g18.symm))
        have r20 := CHr.wr W20 Q18 R18.1
        have R20 := R18.trans r20
        have hk := Nat.le_trans hk (Keep.of_wr W20).1
        have O20 := O18.wr W20 (Nat.le_trans Z0 (Nat.le_of_eq g18.symm))
        have N20 := Fr.snoc X20 N0 (Nat.le_trans Z0 (Nat.le_of_eq g18.symm))
        refine own_go (A := T20.setTop (mkF m 98 #[.val (.int len), .val (.int c0), .val (.int c1), .val (.int c2), .val (.int ((c0 &&& (255 : Int32))).toUInt32.toUInt16.toUInt32.toInt32), .val (.int ((c1 &&& (255 : Int32))).toUInt32.toUInt16.toUInt32.toInt32), .val (.int ((c2 &&& (255 : Int32))).toUInt32.toUInt16.toUInt32.toInt32), .val (.ref b18)] [(.int ((c1 &&& (255 : Int32))).toUInt32.toUInt16.toUInt32.toInt32), (.int (1 : Int32)), (.ref b18)])) (fun t_ k_ => ?_) ?_
        · show Steps p.tables e below (T20.setTop (mkF m 93 #[.val (.int len), .val (.int c0), .val (.int c1), .val (.int c2), .val (.int ((c0 &&& (255 : Int32))).toUInt32.toUInt16.toUInt32.toInt32), .val (.int ((c1 &&& (255 : Int32))).toUInt32.toUInt16.toUInt32.toInt32), .val (.int ((c2 &&& (255 : Int32))).toUInt32.toUInt16.toUInt32.toInt32), .val (.ref b18)] [])) t_
          refine XS.aload X20.here hx rfl (hb hby d17_93) rfl rfl ?_
          show Steps p.tables e below (T20.setTop (mkF m 95 #[.val (.int len), .val (.int c0), .val (.int c1), .val (.int c2), .val (.int ((c0 &&& (255 : Int32))).toUInt32.toUInt16.toUInt32.toInt32), .val (.int ((c1 &&& (255 : Int32))).toUInt32.toUInt16.toUInt32.toInt32), .val (.int ((c2 &&& (255 : Int32))).toUInt32.toUInt16.toUInt32.toInt32), .val (.ref b18)] [(.ref b18)])) t_
          refine XS.iconst X20.here hx rfl (hb hby d17_95) ?_
          show Steps p.tables e below (T20.setTop (mkF m 96 #[.val (.int len), .val (.int c0), .val (.int c1), .val (.int c2), .val (.int ((c0 &&& (255 : Int32))).toUInt32.toUInt16.toUInt32.toInt32), .val (.int ((c1 &&& (255 : Int32))).toUInt32.toUInt16.toUInt32.toInt32), .val (.int ((c2 &&& (255 : Int32))).toUInt32.toUInt16.toUInt32.toInt32), .val (.ref b18)] [(.int (1 : Int32)), (.ref b18)])) t_
          refine XS.iload X20.here hx rfl (hb hby d17_96) rfl ?_
          exact k_
        obtain ⟨cl21, Ar21, q21, S21, M21, H21, G21⟩ := id B20
        have hin21 : ¬ ((1 : Int32) < 0 ∨ cl21.slots.size ≤ ((1 : Int32)).toNatClampNeg) := inb_of S21 ⟨by decide, by decide⟩
        obtain ⟨T22, h22, X22, e22, W22, st22⟩ := stC X20 hx hZ e20 Ar21 (j := (1 : Int32)) hin21 (g := (mkF m 98 #[.val (.int len), .val (.int c0), .val (.int c1), .val (.int c2), .val (.int ((c0 &&& (255 : Int32))).toUInt32.toUInt16.toUInt32.toInt32), .val (.int ((c1 &&& (255 : Int32))).toUInt32.toUInt16.toUInt32.toInt32), .val (.int ((c2 &&& (255 : Int32))).toUInt32.toUInt16.toUInt32.toInt32), .val (.ref b18)] [(.int ((c1 &&& (255 : Int32))).toUInt32.toUInt16.toUInt32.toInt32), (.int (1 : Int32)), (.ref b18)])) rfl rfl (hb hby d17_98)
        have B22 : Arv Z h22 b18 k18 .char (3 : Int32) [(.int (nar .char ((c0 &&& (255 : Int32))).toUInt32.toUInt16.toUInt32.toInt32)), (.int (nar .char ((c1 &&& (255 : Int32))).toUInt32.toUInt16.toUInt32.toInt32)), (.int (0 : Int32))] (.int (0 : Int32)) := Arv.set Ar21 q21 S21 M21 H21 G21 (fits_nar_char _) W22 1 rfl (Nat.le_of_ble_eq_true rfl)
        refine own_go st22 ?_
        have K22 : Keep h0 h22 [] := K20.wr W22 (Or.inr (Nat.le_of_eq g18.symm))
        have r22 := CHr.wr W22 (r20.safe B18.lt Q18) R20.1
        have R22 := R20.trans r22
        have hk := Nat.le_trans hk (Keep.of_wr W22).1
        have O22 := O20.wr W22 (Nat.le_trans Z0 (Nat.le_of_eq g18.symm))
        have N22 := Fr.snoc X22 N20 (Nat.le_trans Z0 (Nat.le_of_eq g18.symm))
        refine own_go (A := T22.setTop (mkF m 104 #[.val (.int len), .val (.int c0), .val (.int c1), .val (.int c2), .val (.int ((c0 &&& (255 : Int32))).toUInt32.toUInt16.toUInt32.toInt32), .val (.int ((c1 &&& (255 : Int32))).toUInt32.toUInt16.toUInt32.toInt32), .val (.int ((c2 &&& (255 : Int32))).toUInt32.toUInt16.toUInt32.toInt32), .val (.ref b18)] [(.int ((c2 &&& (255 : Int32))).toUInt32.toUInt16.toUInt32.toInt32), (.int (2 : Int32)), (.ref b18)])) (fun t_ k_ => ?_) ?_
        · show Steps p.tables e below (T22.setTop (mkF m 99 #[.val (.int len), .val (.int c0), .val (.int c1), .val (.int c2), .val (.int ((c0 &&& (255 : Int32))).toUInt32.toUInt16.toUInt32.toInt32), .val (.int ((c1 &&& (255 : Int32))).toUInt32.toUInt16.toUInt32.toInt32), .val (.int ((c2 &&& (255 : Int32))).toUInt32.toUInt16.toUInt32.toInt32), .val (.ref b18)] [])) t_
          refine XS.aload X22.here hx rfl (hb hby d17_99) rfl rfl ?_
          show Steps p.tables e below (T22.setTop (mkF m 101 #[.val (.int len), .val (.int c0), .val (.int c1), .val (.int c2), .val (.int ((c0 &&& (255 : Int32))).toUInt32.toUInt16.toUInt32.toInt32), .val (.int ((c1 &&& (255 : Int32))).toUInt32.toUInt16.toUInt32.toInt32), .val (.int ((c2 &&& (255 : Int32))).toUInt32.toUInt16.toUInt32.toInt32), .val (.ref b18)] [(.ref b18)])) t_
          refine XS.iconst X22.here hx rfl (hb hby d17_101) ?_
          show Steps p.tables e below (T22.setTop (mkF m 102 #[.val (.int len), .val (.int c0), .val (.int c1), .val (.int c2), .val (.int ((c0 &&& (255 : Int32))).toUInt32.toUInt16.toUInt32.toInt32), .val (.int ((c1 &&& (255 : Int32))).toUInt32.toUInt16.toUInt32.toInt32), .val (.int ((c2 &&& (255 : Int32))).toUInt32.toUInt16.toUInt32.toInt32), .val (.ref b18)] [(.int (2 : Int32)), (.ref b18)])) t_
          refine XS.iload X22.here hx rfl (hb hby d17_102) rfl ?_
          exact k_
        obtain ⟨cl23, Ar23, q23, S23, M23, H23, G23⟩ := id B22
        have hin23 : ¬ ((2 : Int32) < 0 ∨ cl23.slots.size ≤ ((2 : Int32)).toNatClampNeg) := inb_of S23 ⟨by decide, by decide⟩
        obtain ⟨T24, h24, X24, e24, W24, st24⟩ := stC X22 hx hZ e22 Ar23 (j := (2 : Int32)) hin23 (g := (mkF m 104 #[.val (.int len), .val (.int c0), .val (.int c1), .val (.int c2), .val (.int ((c0 &&& (255 : Int32))).toUInt32.toUInt16.toUInt32.toInt32), .val (.int ((c1 &&& (255 : Int32))).toUInt32.toUInt16.toUInt32.toInt32), .val (.int ((c2 &&& (255 : Int32))).toUInt32.toUInt16.toUInt32.toInt32), .val (.ref b18)] [(.int ((c2 &&& (255 : Int32))).toUInt32.toUInt16.toUInt32.toInt32), (.int (2 : Int32)), (.ref b18)])) rfl rfl (hb hby d17_104)
        have B24 : Arv Z h24 b18 k18 .char (3 : Int32) [(.int (nar .char ((c0 &&& (255 : Int32))).toUInt32.toUInt16.toUInt32.toInt32)), (.int (nar .char ((c1 &&& (255 : Int32))).toUInt32.toUInt16.toUInt32.toInt32)), (.int (nar .char ((c2 &&& (255 : Int32))).toUInt32.toUInt16.toUInt32.toInt32))] (.int (0 : Int32)) := Arv.set Ar23 q23 S23 M23 H23 G23 (fits_nar_char _) W24 2 rfl (Nat.le_of_ble_eq_true rfl)
        refine own_go st24 ?_
        have K24 : Keep h0 h24 [] := K22.wr W24 (Or.inr (Nat.le_of_eq g18.symm))
        have r24 := CHr.wr W24 (r22.safe (Nat.lt_of_lt_of_le B18.lt (Keep.of_wr W20).1) (r20.safe B18.lt Q18)) R22.1
        have R24 := R22.trans r24
        have hk := Nat.le_trans hk (Keep.of_wr W24).1
        have O24 := O22.wr W24 (Nat.le_trans Z0 (Nat.le_of_eq g18.symm))
        have N24 := Fr.snoc X24 N22 (Nat.le_trans Z0 (Nat.le_of_eq g18.symm))
        obtain ⟨T25, h25, X25, e25, E25, A25, D25, -, st25⟩ := newO X24 hx hZ hown (own_w hw 110 rfl) (own_w hw 111 rfl) (own_w hw 112 rfl) e24 (g := (mkF m 105 #[.val (.int len), .val (.int c0), .val (.int c1), .val (.int c2), .val (.int ((c0 &&& (255 : Int32))).toUInt32.toUInt16.toUInt32.toInt32), .val (.int ((c1 &&& (255 : Int32))).toUInt32.toUInt16.toUInt32.toInt32), .val (.int ((c2 &&& (255 : Int32))).toUInt32.toUInt16.toUInt32.toInt32), .val (.ref b18)] [])) rfl (hb hby d17_105) (by decide) (by decide)
        obtain ⟨b25, g25⟩ : ∃ z, z = h24.size := ⟨_, rfl⟩
        rw [← g25] at A25 D25 st25
        refine own_go st25 ?_
        have K25 : Keep h0 h25 [] := K24.ext E25
        have r25 := CHr.ext E25 R24.1
        have R25 := R24.trans r25
        have hk := Nat.le_trans hk E25.1
        have O25 := O24.ext E25
        have Q25 := Safe.ext E25 R24.1 (Safe.new (Nat.le_of_eq g25.symm))
        have F25_coder : Fld Z h25 b25 "java/lang/String" "coder" "B" (.int (0 : Int32)) := D25 (Or.inr (own_w hw 134 rfl)) (ty := .byte) (by decide)
        have F25_value : Fld Z h25 b25 "java/lang/String" "value" "[B" .null := D25 (Or.inr (own_w hw 136 rfl)) (ty := (.array .byte)) (by decide)
        refine own_go (A := T25.setTop (mkF m 111 #[.val (.int len), .val (.int c0), .val (.int c1), .val (.int c2), .val (.int ((c0 &&& (255 : Int32))).toUInt32.toUInt16.toUInt32.toInt32), .val (.int ((c1 &&& (255 : Int32))).toUInt32.toUInt16.toUInt32.toInt32), .val (.int ((c2 &&& (255 : Int32))).toUInt32.toUInt16.toUInt32.toInt32), .val (.ref b18)] [(.ref b18), (.ref b25), (.ref b25)])) (fun t_ k_ => ?_) ?_
        · show Steps p.tables e below (T25.setTop (mkF m 108 #[.val (.int len), .val (.int c0), .val (.int c1), .val (.int c2), .val (.int ((c0 &&& (255 : Int32))).toUInt32.toUInt16.toUInt32.toInt32), .val (.int ((c1 &&& (255 : Int32))).toUInt32.toUInt16.toUInt32.toInt32), .val (.int ((c2 &&& (255 : Int32))).toUInt32.toUInt16.toUInt32.toInt32), .val (.ref b18)] [(.ref b25)])) t_
          refine XS.dup X25.here hx rfl (hb hby d17_108) rfl rfl ?_
          show Steps p.tables e below (T25.setTop (mkF m 109 #[.val (.int len), .val (.int c0), .val (.int c1), .val (.int c2), .val (.int ((c0 &&& (255 : Int32))).toUInt32.toUInt16.toUInt32.toInt32), .val (.int ((c1 &&& (255 : Int32))).toUInt32.toUInt16.toUInt32.toInt32), .val (.int ((c2 &&& (255 : Int32))).toUInt32.toUInt16.toUInt32.toInt32), .val (.ref b18)] [(.ref b25), (.ref b25)])) t_
          refine XS.aload X25.here hx rfl (hb hby d17_109) rfl rfl ?_
          exact k_
        obtain ⟨_, _, ⟨T26, L26, k26, n26⟩, -, X26, ⟨Lc26, hQ26, l26, y26, z26⟩, st26⟩ := X25.specialBack hx (y := own_y8) rfl hown (mvT hZ (own_w hw 113 rfl)) (mvT hZ (own_w hw 114 rfl)) (mvT hZ (own_w hw 115 rfl)) (by decide) (backOf (W := 1) (rmSC3 l Z a0 hw [] b25 b18 cs k18 (nar .char ((c0 &&& (255 : Int32))).toUInt32.toUInt16.toUInt32.toInt32) (nar .char ((c1 &&& (255 : Int32))).toUInt32.toUInt16.toUInt32.toInt32) (nar .char ((c2 &&& (255 : Int32))).toUInt32.toUInt16.toUInt32.toInt32) h25 n0 (Nat.le_trans Z0 K25.1) O25 u1 hcs A25 F25_value F25_coder (Nat.le_trans Z0 (Nat.le_trans K24.1 (Nat.le_of_eq g25.symm))) (B24.ext E25) (own_le255b _ : ¬ ((255 : Int32) < (nar .char ((c0 &&& (255 : Int32))).toUInt32.toUInt16.toUInt32.toInt32))) (own_le255b _ : ¬ ((255 : Int32) < (nar .char ((c1 &&& (255 : Int32))).toUInt32.toUInt16.toUInt32.toInt32))) (own_le255b _ : ¬ ((255 : Int32) < (nar .char ((c2 &&& (255 : Int32))).toUInt32.toUInt16.toUInt32.toInt32)))) hZ (own_w hw 115 rfl) (own_w hw 112 rfl) (by decide) (by decide)) (g := (mkF m 111 #[.val (.int len), .val (.int c0), .val (.int c1), .val (.int c2), .val (.int ((c0 &&& (255 : Int32))).toUInt32.toUInt16.toUInt32.toInt32), .val (.int ((c1 &&& (255 : Int32))).toUInt32.toUInt16.toUInt32.toInt32), .val (.int ((c2 &&& (255 : Int32))).toUInt32.toUInt16.toUInt32.toInt32), .val (.ref b18)] [(.ref b18), (.ref b25), (.ref b25)])) rfl (by rw [hml]; rfl) (Steps.refl _) (a := b25) (argsL := [(.ref b18)]) (rest := [(.ref b25)]) (lenOf pd_7 rfl) rfl (by show 2 * 0 + _ ≤ _; exact Nat.le_of_eq rfl) (hb hby d17_111) (fun _ _ => ⟨rfl, e25, (by decide : 2 + 1 ≤ _), (by decide : 7 + 3 ≤ _)⟩)
        dsimp only [Pt.U, Pt.locs, Pt.cells, Pt.slots] at X26 l26 y26 z26 st26 hQ26
        subst l26 y26 z26
        obtain ⟨d_26, k_26, rfl, N26q, Kc26, r26_0, r26_1, r26_2, r26_3⟩ := hQ26
        have N26 := Fr.app N24 N26q
        refine own_via st26 ?_
        have K26 : Keep h0 T26.heap [] := K25.trans Kc26 (allS (P := fun x => x ∈ _ ∨ _ ≤ x) (Or.inr (Nat.le_trans K24.1 (Nat.le_of_eq g25.symm))) all0)
        have r26 := CHr.keep Kc26 (allS (P := fun x => Safe Z own_EL _ _ x) Q25 all0) R25.1
        have R26 := R25.trans r26
        have hk := Nat.le_trans hk Kc26.1
        have O26 := O25.keep Kc26 (allS (P := fun x => n0 ≤ x) (Nat.le_trans Z0 (Nat.le_trans K24.1 (Nat.le_of_eq g25.symm))) all0)
        obtain ⟨fs27, hr27, hrun27, hended27, hRW27⟩ := X26.leaveW hS hk (v := some (.ref b25)) (fun h => by rw [Bd.returns] at h; cases h)
        refine ⟨_, _, ?_, hrun27, hended27, _, _, rfl, ?_, ?_, hRW27.1, hRW27.2.1, hRW27.2.2.1, hRW27.2.2.2.mono (by decide) (by decide)⟩
        · exact own_retA X26 hx Bd.returns rfl rfl rfl (hb hby d17_114) hr27
        · show Q_rmMk Z len c0 c1 c2 cs h0 n0 _ T26.heap _
          exact ⟨b25, rfl, N26, K26, (Nat.le_trans K24.1 (Nat.le_of_eq g25.symm)), (A25.keep Kc26)⟩
        · show CHr Z own_EL s.vm s.heap T26.vm T26.heap
          rw [hh]
          exact R26.trans (CHv.at X26 hZ hEL R26.1)
theorem d3_0 : decode jdk_22_method_1_code 0 = .ok (.aload_n 0, 1) := by decide +kernel
theorem d3_1 : decode jdk_22_method_1_code 1 = .ok (.invokespecial 1, 3) := by decide +kernel
theorem d3_4 : decode jdk_22_method_1_code 4 = .ok (.return_, 1) := by decide +kernel
abbrev own_y10 : MethodName := ⟨"java/util/AbstractCollection", "<init>", "()V"⟩
theorem ef_rmABC (m : MethodId) (a : Addr) : entryFrame m #[(.ref a)] 1 = mkF m 0 #[.val (.ref a)] [] := by first | (simp [entryFrame, mkF, argsToLocals, Value.category]; done) | rfl
def Q_rmABC (Z : State) (a : Addr) (h0 : Heap) (n0 : Nat) (v_ : Option Value) (h_ : Heap) (L_ : List Loc) : Prop := v_ = none ∧ Fr n0 L_ ∧ h_ = h0
theorem pn_4 : plainName "java/util/AbstractCollection" = true := by first | (simp [plainName, overriddenIn]; done) | decide +kernel
set_option maxRecDepth 65536 in
set_option maxHeartbeats 40000000 in
theorem rmABC (l : Launch) (Z : State) (a0 : Array Value) (hw : ∀ d ∈ tables_1, d.before a0 Z = true) (ws : List Jvm.Cond) (a : Addr) (h0 : Heap) (n0 : Nat) (Z0 : n0 ≤ h0.size)  :
    MetFree l own_y10 (head1 (Jvm.Cond.code own_y10 jdk_22_method_1_code 1 none :: ws) ({ frames := 1, cells := 0, slots := 0, locals := 12 } : Room)) (fun a_ U_ => a_ = #[(.ref a)] ∧ Z.Warmed39 U_.vm ∧ U_.heap = h0) (fun _ _ _ _ _ => True) (fun _ U_ o_ U2_ => ∃ v_ L_, o_ = .returned v_ ∧ Q_rmABC Z a h0 n0 v_ U2_.heap L_ ∧ FrameEnd U_ o_ U2_ L_ ({ frames := 1, cells := 0, slots := 0, locals := 12 } : Room).cells ({ frames := 1, cells := 0, slots := 0, locals := 12 } : Room).slots) := by
  refine MetFree.of_bodySF (plainFor_of_name pn_4) hisR ?_
  intro p e s m args below meth c s₁ Bd hml0 hP hK
  obtain ⟨rfl, hZ, hh⟩ := hP
  have hx := Bd.exec
  have hby := Bd.bytes
  have hml : c.maxLocals = 1 := hml0
  have hown : s.vm.findClass "java/util/AbstractCollection" = some m.cls := findClass_of_methodNamed Bd.named
  have hnm := (name_of_methodNamed Bd.named Bd.method).1
  have X0 : Stand p l e ({ frames := 1, cells := 0, slots := 0, locals := 12 } : Room) s m #[(.ref a)] below meth c s₁ [] 0 0 := Stand.of_body Bd
  have e0 : s₁.heap = h0 := by rw [← hh, Bd.state]; rfl
  have N0 := Fr.nil n0
  refine own_go (A := s₁.setTop (mkF m 0 #[.val (.ref a)] [])) (fun t_ k_ => castTop (ef_rmABC m a) k_) ?_
  refine own_go (A := s₁.setTop (mkF m 1 #[.val (.ref a)] [(.ref a)])) (fun t_ k_ => ?_) ?_
  · show Steps p.tables e below (s₁.setTop (mkF m 0 #[.val (.ref a)] [])) t_
    refine XS.aloadN X0.here hx rfl (hb hby d3_0) rfl rfl ?_
    exact k_
  obtain ⟨T1, X1, e1, st1⟩ := initO X0 hx hZ hown (own_w hw 18 rfl) (own_w hw 19 rfl) (own_w hw 20 rfl) e0 (g := (mkF m 1 #[.val (.ref a)] [(.ref a)])) rfl (by rw [hml]; rfl) rfl (hb hby d3_1) (by decide) (W := 0) (by show 2 * 0 + _ ≤ _; exact Nat.le_of_eq rfl) (by decide)
  refine own_go st1 ?_
  obtain ⟨fs2, hr2, hrun2, hended2, hW2, hsame2⟩ := X1.leave (v := none) (fun _ => rfl)
  refine ⟨_, _, ?_, hrun2, hended2, _, _, rfl, ?_, ⟨_, rfl⟩, hW2, hsame2.mono (by decide) (by decide)⟩
  · exact X1.returnOut hx Bd.returns (hb hby d3_4) hr2
  · show Q_rmABC Z a h0 n0 _ T1.heap _
    rw [e1]
    exact ⟨rfl, N0, rfl⟩
theorem d2_0 : decode jdk_39_method_1_code 0 = .ok (.aload_n 0, 1) := by decide +kernel
theorem pd_9 : parseMethodDescriptor "()V" = some ⟨[], none⟩ := by decide +kernel
theorem d2_1 : decode jdk_39_method_1_code 1 = .ok (.invokespecial 1, 3) := by decide +kernel
theorem d2_4 : decode jdk_39_method_1_code 4 = .ok (.aload_n 0, 1) := by decide +kernel
theorem d2_5 : decode jdk_39_method_1_code 5 = .ok (.iconst 0, 1) := by decide +kernel
theorem d2_6 : decode jdk_39_method_1_code 6 = .ok (.putfield 7, 3) := by decide +kernel
theorem d2_9 : decode jdk_39_method_1_code 9 = .ok (.return_, 1) := by decide +kernel
abbrev own_y11 : MethodName := ⟨"java/util/AbstractList", "<init>", "()V"⟩
theorem ef_rmABL (m : MethodId) (a : Addr) : entryFrame m #[(.ref a)] 1 = mkF m 0 #[.val (.ref a)] [] := by first | (simp [entryFrame, mkF, argsToLocals, Value.category]; done) | rfl
def Q_rmABL (Z : State) (a : Addr) (h0 : Heap) (n0 : Nat) (v_ : Option Value) (h_ : Heap) (L_ : List Loc) : Prop := v_ = none ∧ Fr n0 L_ ∧ Keep h0 h_ [a] ∧ Fld Z h_ a "java/util/ArrayList" "elementData" "[Ljava/lang/Object;" .null ∧ Fld Z h_ a "java/util/ArrayList" "size" "I" (.int (0 : Int32)) ∧ Fld Z h_ a "java/util/AbstractList" "modCount" "I" (.int (0 : Int32))
theorem pn_5 : plainName "java/util/AbstractList" = true := by first | (simp [plainName, overriddenIn]; done) | decide +kernel
set_option maxRecDepth 65536 in
set_option maxHeartbeats 40000000 in
theorem rmABL (l : Launch) (Z : State) (a0 : Array Value) (hw : ∀ d ∈ tables_1, d.before a0 Z = true) (ws : List Jvm.Cond) (a : Addr) (h0 : Heap) (n0 : Nat) (Z0 : n0 ≤ h0.size) (u0 : Exa Z h0 a "java/util/ArrayList") (u1 : Fld Z h0 a "java/util/ArrayList" "elementData" "[Ljava/lang/Object;" .null) (u2 : Fld Z h0 a "java/util/ArrayList" "size" "I" (.int (0 : Int32))) (u3 : Fld Z h0 a "java/util/AbstractList" "modCount" "I" (.int (0 : Int32))) (u4 : n0 ≤ a) :
    MetFree l own_y11 (head1 (Jvm.Cond.code own_y11 jdk_39_method_1_code 1 none :: ws) ({ frames := 2, cells := 0, slots := 0, locals := 24 } : Room)) (fun a_ U_ => a_ = #[(.ref a)] ∧ Z.Warmed39 U_.vm ∧ U_.heap = h0) (fun _ _ _ _ _ => True) (fun _ U_ o_ U2_ => ∃ v_ L_, o_ = .returned v_ ∧ Q_rmABL Z a h0 n0 v_ U2_.heap L_ ∧ FrameEnd U_ o_ U2_ L_ ({ frames := 2, cells := 0, slots := 0, locals := 24 } : Room).cells ({ frames := 2, cells := 0, slots := 0, locals := 24 } : Room).slots) := by
  refine MetFree.of_bodySF (plainFor_of_name pn_5) hisR ?_
  intro p e s m args below meth c s₁ Bd hml0 hP hK
  obtain ⟨rfl, hZ, hh⟩ := hP
  have hx := Bd.exec
  have hby := Bd.bytes
  have hml : c.maxLocals = 1 := hml0
  have hown : s.vm.findClass "java/util/AbstractList" = some m.cls := findClass_of_methodNamed Bd.named
  have hnm := (name_of_methodNamed Bd.named Bd.method).1
  have X0 : Stand p l e ({ frames := 2, cells := 0, slots := 0, locals := 24 } : Room) s m #[(.ref a)] below meth c s₁ [] 0 0 := Stand.of_body Bd
  have e0 : s₁.heap = h0 := by rw [← hh, Bd.state]; rfl
  have N0 := Fr.nil n0
  refine own_go (A := s₁.setTop (mkF m 0 #[.val (.ref a)] [])) (fun t_ k_ => castTop (ef_rmABL m a) k_) ?_
  refine own_go (A := s₁.setTop (mkF m 1 #[.val (.ref a)] [(.ref a)])) (fun t_ k_ => ?_) ?_
  · show Steps p.tables e below (s₁.setTop (mkF m 0 #[.val (.ref a)] [])) t_
    refine XS.aloadN X0.here hx rfl (hb hby d2_0) rfl rfl ?_
    exact k_
  obtain ⟨_, _, ⟨T1, L1, k1, n1⟩, -, X1, ⟨Lc1, hQ1, l1, y1, z1⟩, st1⟩ := X0.specialBack hx (y := own_y10) rfl hown (mvT hZ (own_w hw 12 rfl)) (mvT hZ (own_w hw 13 rfl)) (mvT hZ (own_w hw 17 rfl)) (by decide) (backOf (W := 0) (rmABC l Z a0 hw [] a h0 n0 Z0) hZ (own_w hw 17 rfl) (own_w hw 16 rfl) (by decide) (by decide)) (g := (mkF m 1 #[.val (.ref a)] [(.ref a)])) rfl (by rw [hml]; rfl) (Steps.refl _) (a := a) (argsL := []) (rest := []) (lenOf pd_9 rfl) rfl (by show 2 * 0 + _ ≤ _; exact Nat.le_of_eq rfl) (hb hby d2_1) (fun _ _ => ⟨rfl, e0, (by decide : 0 + 0 ≤ _), (by decide : 0 + 0 ≤ _)⟩)
  dsimp only [Pt.U, Pt.locs, Pt.cells, Pt.slots] at X1 l1 y1 z1 st1 hQ1
  subst l1 y1 z1
  obtain ⟨rfl, N1q, eh1⟩ := hQ1
  have N1 := Fr.app N0 N1q
  refine own_via st1 ?_
  refine own_go (A := T1.setTop (mkF m 6 #[.val (.ref a)] [(.int (0 : Int32)), (.ref a)])) (fun t_ k_ => ?_) ?_
  · show Steps p.tables e below (T1.setTop (mkF m 4 #[.val (.ref a)] [])) t_
    refine XS.aloadN X1.here hx rfl (hb hby d2_4) rfl rfl ?_
    show Steps p.tables e below (T1.setTop (mkF m 5 #[.val (.ref a)] [(.ref a)])) t_
    refine XS.iconst X1.here hx rfl (hb hby d2_5) ?_
    exact k_
  obtain ⟨T2, h2, X2, e2, W2, st2⟩ := putF X1 hx hZ hown (host := "") (Or.inl (own_w hw 21 rfl)) Via.refl eh1 u3 u0 (Or.inl (own_w hw 22 rfl)) (own_w hw 1 rfl) (ty := .int) (by decide) rfl rfl (g := (mkF m 6 #[.val (.ref a)] [(.int (0 : Int32)), (.ref a)])) rfl rfl (hb hby d2_6)
  have Fw2 : Fld Z h2 a "java/util/AbstractList" "modCount" "I" (.int (0 : Int32)) := u3.same W2
  refine own_go st2 ?_
  have K2 : Keep h0 h2 [a] := (Keep.refl h0 [a]).wr W2 (Or.inl (List.mem_of_getElem? (i := 0) rfl))
  have N2 := Fr.snoc X2 N1 u4
  obtain ⟨fs3, hr3, hrun3, hended3, hW3, hsame3⟩ := X2.leave (v := none) (fun _ => rfl)
  refine ⟨_, _, ?_, hrun3, hended3, _, _, rfl, ?_, ⟨_, rfl⟩, hW3, hsame3.mono (by decide) (by decide)⟩
  · exact X2.returnOut hx Bd.returns (hb hby d2_9) hr3
  · show Q_rmABL Z a h0 n0 _ T2.heap _
    rw [e2]
    exact ⟨rfl, N2, K2, (u1.other W2 (Or.inr (slot_ne (Or.inl (own_w hw 25 rfl)) (Or.inl (own_w hw 22 rfl)) (by decide) (t := (.array (.object "java/lang/Object"))) (t' := .int) (by decide) (by decide)))), (u2.other W2 (Or.inr (slot_ne (Or.inl (own_w hw 67 rfl)) (Or.inl (own_w hw 22 rfl)) (by decide) (t := .int) (t' := .int) (by decide) (by decide)))), Fw2⟩
theorem d1_0 : decode jdk_38_method_2_code 0 = .ok (.aload_n 0, 1) := by decide +kernel
theorem d1_1 : decode jdk_38_method_2_code 1 = .ok (.invokespecial 1, 3) := by decide +kernel
theorem d1_4 : decode jdk_38_method_2_code 4 = .ok (.aload_n 0, 1) := by decide +kernel
theorem d1_5 : decode jdk_38_method_2_code 5 = .ok (.getstatic 39, 3) := by decide +kernel
theorem d1_8 : decode jdk_38_method_2_code 8 = .ok (.putfield 9, 3) := by decide +kernel
theorem d1_11 : decode jdk_38_method_2_code 11 = .ok (.return_, 1) := by decide +kernel
abbrev own_y12 : MethodName := ⟨"java/util/ArrayList", "<init>", "()V"⟩
theorem ef_rmALI (m : MethodId) (a : Addr) : entryFrame m #[(.ref a)] 1 = mkF m 0 #[.val (.ref a)] [] := by first | (simp [entryFrame, mkF, argsToLocals, Value.category]; done) | rfl
def Q_rmALI (Z : State) (a : Addr) (dc : Addr) (h0 : Heap) (n0 : Nat) (v_ : Option Value) (h_ : Heap) (L_ : List Loc) : Prop := v_ = none ∧ Fr n0 L_ ∧ Keep h0 h_ [a] ∧ Fld Z h_ a "java/util/ArrayList" "elementData" "[Ljava/lang/Object;" (.ref dc) ∧ Fld Z h_ a "java/util/ArrayList" "size" "I" (.int (0 : Int32)) ∧ Fld Z h_ a "java/util/AbstractList" "modCount" "I" (.int (0 : Int32))
theorem pn_6 : plainName "java/util/ArrayList" = true := by first | (simp [plainName, overriddenIn]; done) | decide +kernel
set_option maxRecDepth 65536 in
set_option maxHeartbeats 40000000 in
theorem rmALI (l : Launch) (Z : State) (a0 : Array Value) (hw : ∀ d ∈ tables_1, d.before a0 Z = true) (ws : List Jvm.Cond) (a : Addr) (dc : Addr) (h0 : Heap) (n0 : Nat) (Z0 : n0 ≤ h0.size) (O0 : Old Z n0 h0) (u1 : Sta Z Z.heap "java/util/ArrayList" "DEFAULTCAPACITY_EMPTY_ELEMENTDATA" "[Ljava/lang/Object;" (.ref dc)) (u2 : Exa Z h0 a "java/util/ArrayList") (u3 : Fld Z h0 a "java/util/ArrayList" "elementData" "[Ljava/lang/Object;" .null) (u4 : Fld Z h0 a "java/util/ArrayList" "size" "I" (.int (0 : Int32))) (u5 : Fld Z h0 a "java/util/AbstractList" "modCount" "I" (.int (0 : Int32))) (u6 : n0 ≤ a) :
    MetFree l own_y12 (head1 (Jvm.Cond.code own_y12 jdk_38_method_2_code 1 none :: ws) ({ frames := 3, cells := 0, slots := 0, locals := 36 } : Room)) (fun a_ U_ => a_ = #[(.ref a)] ∧ Z.Warmed39 U_.vm ∧ U_.heap = h0) (fun _ _ _ _ _ => True) (fun _ U_ o_ U2_ => ∃ v_ L_, o_ = .returned v_ ∧ Q_rmALI Z a dc h0 n0 v_ U2_.heap L_ ∧ FrameEnd U_ o_ U2_ L_ ({ frames := 3, cells := 0, slots := 0, locals := 36 } : Room).cells ({ frames := 3, cells := 0, slots := 0, locals := 36 } : Room).slots) := by
  refine MetFree.of_bodySF (plainFor_of_name pn_6) hisR ?_
  intro p e s m args below meth c s₁ Bd hml0 hP hK
  obtain ⟨rfl, hZ, hh⟩ := hP
  have hx := Bd.exec
  have hby := Bd.bytes
  have hml : c.maxLocals = 1 := hml0
  have hown : s.vm.findClass "java/util/ArrayList" = some m.cls := findClass_of_methodNamed Bd.named
  have hnm := (name_of_methodNamed Bd.named Bd.method).1
  have X0 : Stand p l e ({ frames := 3, cells := 0, slots := 0, locals := 36 } : Room) s m #[(.ref a)] below meth c s₁ [] 0 0 := Stand.of_body Bd
  have e0 : s₁.heap = h0 := by rw [← hh, Bd.state]; rfl
  have N0 := Fr.nil n0
  refine own_go (A := s₁.setTop (mkF m 0 #[.val (.ref a)] [])) (fun t_ k_ => castTop (ef_rmALI m a) k_) ?_
  refine own_go (A := s₁.setTop (mkF m 1 #[.val (.ref a)] [(.ref a)])) (fun t_ k_ => ?_) ?_
  · show Steps p.tables e below (s₁.setTop (mkF m 0 #[.val (.ref a)] [])) t_
    refine XS.aloadN X0.here hx rfl (hb hby d1_0) rfl rfl ?_
    exact k_
  obtain ⟨_, _, ⟨T1, L1, k1, n1⟩, -, X1, ⟨Lc1, hQ1, l1, y1, z1⟩, st1⟩ := X0.specialBack hx (y := own_y11) rfl hown (mvT hZ (own_w hw 6 rfl)) (mvT hZ (own_w hw 7 rfl)) (mvT hZ (own_w hw 11 rfl)) (by decide) (backOf (W := 0) (rmABL l Z a0 hw [] a h0 n0 Z0 u2 u3 u4 u5 u6) hZ (own_w hw 11 rfl) (own_w hw 10 rfl) (by decide) (by decide)) (g := (mkF m 1 #[.val (.ref a)] [(.ref a)])) rfl (by rw [hml]; rfl) (Steps.refl _) (a := a) (argsL := []) (rest := []) (lenOf pd_9 rfl) rfl (by show 2 * 0 + _ ≤ _; exact Nat.le_of_eq rfl) (hb hby d1_1) (fun _ _ => ⟨rfl, e0, (by decide : 0 + 0 ≤ _), (by decide : 0 + 0 ≤ _)⟩)
  dsimp only [Pt.U, Pt.locs, Pt.cells, Pt.slots] at X1 l1 y1 z1 st1 hQ1
  subst l1 y1 z1
  obtain ⟨rfl, N1q, Kc1, r1_0, r1_1, r1_2⟩ := hQ1
  have N1 := Fr.app N0 N1q
  refine own_via st1 ?_
  have K1 : Keep h0 T1.heap [a] := (Keep.refl h0 [a]).trans Kc1 (allS (P := fun x => x ∈ _ ∨ _ ≤ x) (Or.inl (List.mem_of_getElem? (i := 0) rfl)) all0)
  have O1 := O0.keep Kc1 (allS (P := fun x => n0 ≤ x) u6 all0)
  refine own_go (A := T1.setTop (mkF m 5 #[.val (.ref a)] [(.ref a)])) (fun t_ k_ => ?_) ?_
  · show Steps p.tables e below (T1.setTop (mkF m 4 #[.val (.ref a)] [])) t_
    refine XS.aloadN X1.here hx rfl (hb hby d1_4) rfl rfl ?_
    exact k_
  obtain ⟨T2, X2, e2, st2⟩ := getS2 X1 hx hZ hown (host := "") (Or.inl (own_w hw 23 rfl)) Via.refl rfl (u1.ext O1.2) (g := (mkF m 5 #[.val (.ref a)] [(.ref a)])) rfl (hb hby d1_5)
  refine own_go st2 ?_
  obtain ⟨T3, h3, X3, e3, W3, st3⟩ := putF X2 hx hZ hown (host := "") (Or.inl (own_w hw 24 rfl)) Via.refl e2 r1_0 (u2.keep Kc1) (Or.inl (own_w hw 25 rfl)) (own_w hw 1 rfl) (ty := (.array (.object "java/lang/Object"))) (by decide) rfl rfl (g := (mkF m 8 #[.val (.ref a)] [(.ref dc), (.ref a)])) rfl rfl (hb hby d1_8)
  have Fw3 : Fld Z h3 a "java/util/ArrayList" "elementData" "[Ljava/lang/Object;" (.ref dc) := r1_0.same W3
  refine own_go st3 ?_
  have K3 : Keep h0 h3 [a] := K1.wr W3 (Or.inl (List.mem_of_getElem? (i := 0) rfl))
  have O3 := O1.wr W3 u6
  have N3 := Fr.snoc X3 N1 u6
  obtain ⟨fs4, hr4, hrun4, hended4, hW4, hsame4⟩ := X3.leave (v := none) (fun _ => rfl)
  refine ⟨_, _, ?_, hrun4, hended4, _, _, rfl, ?_, ⟨_, rfl⟩, hW4, hsame4.mono (by decide) (by decide)⟩
  · exact X3.returnOut hx Bd.returns (hb hby d1_11) hr4
  · show Q_rmALI Z a dc h0 n0 _ T3.heap _
    rw [e3]
    exact ⟨rfl, N3, K3, Fw3, (r1_1.other W3 (Or.inr (slot_ne (Or.inl (own_w hw 67 rfl)) (Or.inl (own_w hw 25 rfl)) (by decide) (t := .int) (t' := (.array (.object "java/lang/Object"))) (by decide) (by decide)))), (r1_2.other W3 (Or.inr (slot_ne (Or.inl (own_w hw 22 rfl)) (Or.inl (own_w hw 25 rfl)) (by decide) (t := .int) (t' := (.array (.object "java/lang/Object"))) (by decide) (by decide))))⟩
theorem d14_0 : decode jdk_29_method_65_code 0 = .ok (.iload_n 0, 1) := by decide +kernel
theorem d14_1 : decode jdk_29_method_65_code 1 = .ok (.iload_n 1, 1) := by decide +kernel
theorem d14_2 : decode jdk_29_method_65_code 2 = .ok (.if_icmp .lt 7, 3) := by decide +kernel
theorem d14_5 : decode jdk_29_method_65_code 5 = .ok (.iload_n 0, 1) := by decide +kernel
theorem d14_6 : decode jdk_29_method_65_code 6 = .ok (.goto 4, 3) := by decide +kernel
theorem d14_10 : decode jdk_29_method_65_code 10 = .ok (.ireturn, 1) := by decide +kernel
abbrev own_y13 : MethodName := ⟨"java/lang/Math", "max", "(II)I"⟩
theorem ef_rmMax10 (m : MethodId)  : entryFrame m #[(.int (10 : Int32)), (.int (1 : Int32))] 2 = mkF m 0 #[.val (.int (10 : Int32)), .val (.int (1 : Int32))] [] := by first | (simp [entryFrame, mkF, argsToLocals, Value.category]; done) | rfl
def Q_rmMax10 (Z : State)  (h0 : Heap) (n0 : Nat) (v_ : Option Value) (h_ : Heap) (L_ : List Loc) : Prop := v_ = some (.int (10 : Int32)) ∧ Fr n0 L_ ∧ h_ = h0
set_option maxRecDepth 65536 in
set_option maxHeartbeats 40000000 in
theorem rmMax10 (l : Launch) (Z : State) (a0 : Array Value) (hw : ∀ d ∈ tables_1, d.before a0 Z = true) (ws : List Jvm.Cond)  (h0 : Heap) (n0 : Nat) (Z0 : n0 ≤ h0.size)  :
    MetFree l own_y13 (head1 (Jvm.Cond.code own_y13 jdk_29_method_65_code 2 (some .int) :: ws) ({ frames := 0, cells := 0, slots := 0, locals := 0 } : Room)) (fun a_ U_ => a_ = #[(.int (10 : Int32)), (.int (1 : Int32))] ∧ Z.Warmed39 U_.vm ∧ U_.heap = h0) (fun _ _ _ _ _ => True) (fun _ U_ o_ U2_ => ∃ v_ L_, o_ = .returned v_ ∧ Q_rmMax10 Z  h0 n0 v_ U2_.heap L_ ∧ FrameEnd U_ o_ U2_ L_ ({ frames := 0, cells := 0, slots := 0, locals := 0 } : Room).cells ({ frames := 0, cells := 0, slots := 0, locals := 0 } : Room).slots) := by
  refine MetFree.of_bodySF (Jvm.Free.JP.mathPlain rfl (by decide +kernel)) hisR ?_
  intro p e s m args below meth c s₁ Bd hml0 hP hK
  obtain ⟨rfl, hZ, hh⟩ := hP
  have hx := Bd.exec
  have hby := Bd.bytes
  have hml : c.maxLocals = 2 := hml0
  have hown : s.vm.findClass "java/lang/Math" = some m.cls := findClass_of_methodNamed Bd.named
  have hnm := (name_of_methodNamed Bd.named Bd.method).1
  have X0 : Stand p l e ({ frames := 0, cells := 0, slots := 0, locals := 0 } : Room) s m #[(.int (10 : Int32)), (.int (1 : Int32))] below meth c s₁ [] 0 0 := Stand.of_body Bd
  have e0 : s₁.heap = h0 := by rw [← hh, Bd.state]; rfl
  have N0 := Fr.nil n0
  refine own_go (A := s₁.setTop (mkF m 0 #[.val (.int (10 : Int32)), .val (.int (1 : Int32))] [])) (fun t_ k_ => castTop (ef_rmMax10 m ) k_) ?_
  refine own_go (A := s₁.setTop (mkF m 10 #[.val (.int (10 : Int32)), .val (.int (1 : Int32))] [(.int (10 : Int32))])) (fun t_ k_ => ?_) ?_
  · show Steps p.tables e below (s₁.setTop (mkF m 0 #[.val (.int (10 : Int32)), .val (.int (1 : Int32))] [])) t_
    refine XS.iloadN X0.here hx rfl (hb hby d14_0) rfl ?_
    show Steps p.tables e below (s₁.setTop (mkF m 1 #[.val (.int (10 : Int32)), .val (.int (1 : Int32))] [(.int (10 : Int32))])) t_
    refine XS.iloadN X0.here hx rfl (hb hby d14_1) rfl ?_
    show Steps p.tables e below (s₁.setTop (mkF m 2 #[.val (.int (10 : Int32)), .val (.int (1 : Int32))] [(.int (1 : Int32)), (.int (10 : Int32))])) t_
    refine XS.icmpNo X0.here hx rfl (hb hby d14_2) rfl (flt (by decide : ¬ ((10 : Int32) < (1 : Int32)))).1 ?_
    show Steps p.tables e below (s₁.setTop (mkF m 5 #[.val (.int (10 : Int32)), .val (.int (1 : Int32))] [])) t_
    refine XS.iloadN X0.here hx rfl (hb hby d14_5) rfl ?_
    show Steps p.tables e below (s₁.setTop (mkF m 6 #[.val (.int (10 : Int32)), .val (.int (1 : Int32))] [(.int (10 : Int32))])) t_
    refine XS.goto X0.here hx rfl (pc0 := 6) (pc' := 10) rfl (hb hby d14_6) (by decide) (by decide) ?_
    exact k_
  obtain ⟨fs1, hr1, hrun1, hended1, hW1, hsame1⟩ := X0.leave (v := some (.int (10 : Int32))) (fun h => by rw [Bd.returns] at h; cases h)
  refine ⟨_, _, ?_, hrun1, hended1, _, _, rfl, ?_, ⟨_, rfl⟩, hW1, hsame1.mono (by decide) (by decide)⟩
  · exact own_retI X0 hx Bd.returns (hb hby d14_10) hr1
  · show Q_rmMax10 Z  h0 n0 _ s₁.heap _
    rw [e0]
    exact ⟨rfl, N0, rfl⟩
theorem d13_0 : decode jdk_38_method_6_code 0 = .ok (.aload_n 0, 1) := by decide +kernel
theorem d13_1 : decode jdk_38_method_6_code 1 = .ok (.getfield 9, 3) := by decide +kernel
theorem d13_4 : decode jdk_38_method_6_code 4 = .ok (.arraylength, 1) := by decide +kernel
theorem d13_5 : decode jdk_38_method_6_code 5 = .ok (.istore_n 2, 1) := by decide +kernel
theorem d13_6 : decode jdk_38_method_6_code 6 = .ok (.iload_n 2, 1) := by decide +kernel
theorem d13_7 : decode jdk_38_method_6_code 7 = .ok (.ifCond .gt 13, 3) := by decide +kernel
theorem d13_10 : decode jdk_38_method_6_code 10 = .ok (.aload_n 0, 1) := by decide +kernel
theorem d13_11 : decode jdk_38_method_6_code 11 = .ok (.getfield 9, 3) := by decide +kernel
theorem d13_14 : decode jdk_38_method_6_code 14 = .ok (.getstatic 39, 3) := by decide +kernel
theorem d13_17 : decode jdk_38_method_6_code 17 = .ok (.if_acmp .eq 28, 3) := by decide +kernel
theorem d13_45 : decode jdk_38_method_6_code 45 = .ok (.aload_n 0, 1) := by decide +kernel
theorem d13_46 : decode jdk_38_method_6_code 46 = .ok (.bipush 10, 2) := by decide +kernel
theorem d13_48 : decode jdk_38_method_6_code 48 = .ok (.iload_n 1, 1) := by decide +kernel
theorem pd_10 : parseMethodDescriptor "(II)I" = some ⟨[.int, .int], some .int⟩ := by decide +kernel
theorem d13_49 : decode jdk_38_method_6_code 49 = .ok (.invokestatic 79, 3) := by decide +kernel
theorem d13_52 : decode jdk_38_method_6_code 52 = .ok (.anewarray 7, 3) := by decide +kernel
theorem d13_55 : decode jdk_38_method_6_code 55 = .ok (.dup_x1, 1) := by decide +kernel
theorem d13_56 : decode jdk_38_method_6_code 56 = .ok (.putfield 9, 3) := by decide +kernel
theorem d13_59 : decode jdk_38_method_6_code 59 = .ok (.areturn, 1) := by decide +kernel
abbrev own_y14 : MethodName := ⟨"java/util/ArrayList", "grow", "(I)[Ljava/lang/Object;"⟩
theorem ef_rmGrowI (m : MethodId) (a : Addr) : entryFrame m #[(.ref a), (.int (1 : Int32))] 4 = mkF m 0 #[.val (.ref a), .val (.int (1 : Int32)), .unset, .unset] [] := by first | (simp [entryFrame, mkF, argsToLocals, Value.category]; done) | rfl
def Q_rmGrowI (Z : State) (a : Addr) (dc : Addr) (kd : ClassId) (mc : Int32) (h0 : Heap) (n0 : Nat) (v_ : Option Value) (h_ : Heap) (L_ : List Loc) : Prop := ∃ ed : Addr, ∃ k : ClassId, v_ = some (.ref ed) ∧ Fr n0 L_ ∧ Keep h0 h_ [a] ∧ h0.size ≤ ed ∧ Arv Z h_ ed k (.object "java/lang/Object") (10 : Int32) [.null, .null, .null, .null, .null, .null, .null, .null, .null, .null] .null ∧ Ovr Z k "java/lang/Object" ∧ Fld Z h_ a "java/util/ArrayList" "elementData" "[Ljava/lang/Object;" (.ref ed) ∧ Fld Z h_ a "java/util/ArrayList" "size" "I" (.int (0 : Int32)) ∧ Fld Z h_ a "java/util/AbstractList" "modCount" "I" (.int mc)
set_option maxRecDepth 65536 in
set_option maxHeartbeats 40000000 in
theorem rmGrowI (l : Launch) (Z : State) (a0 : Array Value) (hw : ∀ d ∈ tables_1, d.before a0 Z = true) (ws : List Jvm.Cond) (a : Addr) (dc : Addr) (kd : ClassId) (mc : Int32) (h0 : Heap) (n0 : Nat) (Z0 : n0 ≤ h0.size) (O0 : Old Z n0 h0) (u1 : Sta Z Z.heap "java/util/ArrayList" "DEFAULTCAPACITY_EMPTY_ELEMENTDATA" "[Ljava/lang/Object;" (.ref dc)) (u2 : Exa Z h0 a "java/util/ArrayList") (u3 : Fld Z h0 a "java/util/ArrayList" "elementData" "[Ljava/lang/Object;" (.ref dc)) (u4 : Fld Z h0 a "java/util/ArrayList" "size" "I" (.int (0 : Int32))) (u5 : Fld Z h0 a "java/util/AbstractList" "modCount" "I" (.int mc)) (u6 : Arv Z Z.heap dc kd (.object "java/lang/Object") (0 : Int32) [] .null) (u7 : n0 ≤ a) :
    MetFree l own_y14 (head1 (Jvm.Cond.code own_y14 jdk_38_method_6_code 4 (some (.array (.object "java/lang/Object"))) :: ws) ({ frames := 1, cells := 1, slots := 10, locals := 14 } : Room)) (fun a_ U_ => a_ = #[(.ref a), (.int (1 : Int32))] ∧ Z.Warmed39 U_.vm ∧ U_.heap = h0) (fun _ _ _ _ _ => True) (fun _ U_ o_ U2_ => ∃ v_ L_, o_ = .returned v_ ∧ Q_rmGrowI Z a dc kd mc h0 n0 v_ U2_.heap L_ ∧ FrameEnd U_ o_ U2_ L_ ({ frames := 1, cells := 1, slots := 10, locals := 14 } : Room).cells ({ frames := 1, cells := 1, slots := 10, locals := 14 } : Room).slots) := by
  refine MetFree.of_bodySF (plainFor_of_name pn_6) hisR ?_
  intro p e s m args below meth c s₁ Bd hml0 hP hK
  obtain ⟨rfl, hZ, hh⟩ := hP
  have hx := Bd.exec
  have hby := Bd.bytes
  have hml : c.maxLocals = 4 := hml0
  have hown : s.vm.findClass "java/util/ArrayList" = some m.cls := findClass_of_methodNamed Bd.named
  have hnm := (name_of_methodNamed Bd.named Bd.method).1
  have X0 : Stand p l e ({ frames := 1, cells := 1, slots := 10, locals := 14 } : Room) s m #[(.ref a), (.int (1 : Int32))] below meth c s₁ [] 0 0 := Stand.of_body Bd
  have e0 : s₁.heap = h0 := by rw [← hh, Bd.state]; rfl
  have N0 := Fr.nil n0
  refine own_go (A := s₁.setTop (mkF m 0 #[.val (.ref a), .val (.int (1 : Int32)), .unset, .unset] [])) (fun t_ k_ => castTop (ef_rmGrowI m a) k_) ?_
  refine own_go (A := s₁.setTop (mkF m 1 #[.val (.ref a), .val (.int (1 : Int32)), .unset, .unset] [(.ref a)])) (fun t_ k_ => ?_) ?_
  · show Steps p.tables e below (s₁.setTop (mkF m 0 #[.val (.ref a), .val (.int (1 : Int32)), .unset, .unset] [])) t_
    refine XS.aloadN X0.here hx rfl (hb hby d13_0) rfl rfl ?_
    exact k_
  obtain ⟨T1, X1, e1, st1⟩ := getF X0 hx hZ hown (host := "") (Or.inl (own_w hw 24 rfl)) Via.refl e0 u3 (g := (mkF m 1 #[.val (.ref a), .val (.int (1 : Int32)), .unset, .unset] [(.ref a)])) rfl rfl (hb hby d13_1)
  refine own_go st1 ?_
  obtain ⟨cl2, Ar2, q2, S2, M2, H2, G2⟩ := id (u6.ext O0.2)
  refine own_go (A := T1.setTop (mkF m 11 #[.val (.ref a), .val (.int (1 : Int32)), .val (.int (0 : Int32)), .unset] [(.ref a)])) (fun t_ k_ => ?_) ?_
  · show Steps p.tables e below (T1.setTop (mkF m 4 #[.val (.ref a), .val (.int (1 : Int32)), .unset, .unset] [(.ref dc)])) t_
    refine X1.arraylength hx (by rw [e1]; exact Ar2.1) (State.isArrayOf_alike hZ.alike Ar2.2.1) (g := (mkF m 4 #[.val (.ref a), .val (.int (1 : Int32)), .unset, .unset] [(.ref dc)])) rfl rfl (hb hby d13_4) _ ?_
    rw [len_of S2 M2]
    show Steps p.tables e below (T1.setTop (mkF m 5 #[.val (.ref a), .val (.int (1 : Int32)), .unset, .unset] [(.int (0 : Int32))])) t_
    refine XS.istoreN X1.here hx rfl (hb hby d13_5) rfl (l' := #[.val (.ref a), .val (.int (1 : Int32)), .val (.int (0 : Int32)), .unset]) rfl ?_
    show Steps p.tables e below (T1.setTop (mkF m 6 #[.val (.ref a), .val (.int (1 : Int32)), .val (.int (0 : Int32)), .unset] [])) t_
    refine XS.iloadN X1.here hx rfl (hb hby d13_6) rfl ?_
    show Steps p.tables e below (T1.setTop (mkF m 7 #[.val (.ref a), .val (.int (1 : Int32)), .val (.int (0 : Int32)), .unset] [(.int (0 : Int32))])) t_
    refine XS.ifNo X1.here hx rfl (hb hby d13_7) rfl ((if0 _ _).trans (flt (by decide : ¬ ((0 : Int32) < (0 : Int32)))).2.2.1) ?_
    show Steps p.tables e below (T1.setTop (mkF m 10 #[.val (.ref a), .val (.int (1 : Int32)), .val (.int (0 : Int32)), .unset] [])) t_
    refine XS.aloadN X1.here hx rfl (hb hby d13_10) rfl rfl ?_
    exact k_
  obtain ⟨T3, X3, e3, st3⟩ := getF X1 hx hZ hown (host := "") (Or.inl (own_w hw 24 rfl)) Via.refl e1 u3 (g := (mkF m 11 #[.val (.ref a), .val (.int (1 : Int32)), .val (.int (0 : Int32)), .unset] [(.ref a)])) rfl rfl (hb hby d13_11)
  refine own_go st3 ?_
  obtain ⟨T4, X4, e4, st4⟩ := getS2 X3 hx hZ hown (host := "") (Or.inl (own_w hw 23 rfl)) Via.refl e3 (u1.ext O0.2) (g := (mkF m 14 #[.val (.ref a), .val (.int (1 : Int32)), .val (.int (0 : Int32)), .unset] [(.ref dc)])) rfl (hb hby d13_14)
  refine own_go st4 ?_
  refine own_go (A := T4.setTop (mkF m 49 #[.val (.ref a), .val (.int (1 : Int32)), .val (.int (0 : Int32)), .unset] [(.int (1 : Int32)), (.int (10 : Int32)), (.ref a)])) (fun t_ k_ => ?_) ?_
  · show Steps p.tables e below (T4.setTop (mkF m 17 #[.val (.ref a), .val (.int (1 : Int32)), .val (.int (0 : Int32)), .unset] [(.ref dc), (.ref dc)])) t_
    refine Jvm.RoadKit.acmp (g := (mkF m 17 #[.val (.ref a), .val (.int (1 : Int32)), .val (.int (0 : Int32)), .unset] [(.ref dc), (.ref dc)])) X4 hx rfl rfl rfl (pc0 := 17) (pc' := 45) (same := true) rfl (hb hby d13_17) rfl (decide_eq_true rfl) (by decide) (by decide) ?_
    show Steps p.tables e below (T4.setTop (mkF m 45 #[.val (.ref a), .val (.int (1 : Int32)), .val (.int (0 : Int32)), .unset] [])) t_
    refine XS.aloadN X4.here hx rfl (hb hby d13_45) rfl rfl ?_
    show Steps p.tables e below (T4.setTop (mkF m 46 #[.val (.ref a), .val (.int (1 : Int32)), .val (.int (0 : Int32)), .unset] [(.ref a)])) t_
    refine XS.bipush X4.here hx rfl (hb hby d13_46) ?_
    show Steps p.tables e below (T4.setTop (mkF m 48 #[.val (.ref a), .val (.int (1 : Int32)), .val (.int (0 : Int32)), .unset] [(.int (10 : Int32)), (.ref a)])) t_
    refine XS.iloadN X4.here hx rfl (hb hby d13_48) rfl ?_
    exact k_
  obtain ⟨_, _, ⟨T5, L5, k5, n5⟩, -, X5, ⟨Lc5, hQ5, l5, y5, z5⟩, st5⟩ := Jvm.LawKit.callS X4 hx (y := own_y13) hown (mvT hZ (own_w hw 83 rfl)) (mvT hZ (own_w hw 84 rfl)) (mvT hZ (own_w hw 85 rfl)) (mvT hZ (own_w hw 86 rfl)) (by decide) (backOf (W := 1) (rmMax10 l Z a0 hw [] h0 n0 Z0) hZ (own_w hw 86 rfl) (own_w hw 85 rfl) (by decide) (by decide)) (g := (mkF m 49 #[.val (.ref a), .val (.int (1 : Int32)), .val (.int (0 : Int32)), .unset] [(.int (1 : Int32)), (.int (10 : Int32)), (.ref a)])) rfl (by rw [hml]; rfl) (argsL := [(.int (10 : Int32)), (.int (1 : Int32))]) (rest := [(.ref a)]) (lenOf pd_10 rfl) rfl (by show 2 * 0 + _ ≤ _; exact Nat.le_of_eq rfl) (hb hby d13_49) (fun _ _ => ⟨rfl, e4, (by decide : 0 + 0 ≤ _), (by decide : 0 + 0 ≤ _)⟩)
  dsimp only [Pt.U, Pt.locs, Pt.cells, Pt.slots] at X5 l5 y5 z5 st5 hQ5
  subst l5 y5 z5
  obtain ⟨rfl, N5q, eh5⟩ := hQ5
  have N5 := Fr.app N0 N5q
  refine own_go st5 ?_
  obtain ⟨T6, h6, k6, X6, e6, E6, A6, V6, st6⟩ := newR X5 hx hZ hown (own_w hw 87 rfl) (own_w hw 88 rfl) eh5 (g := (mkF m 52 #[.val (.ref a), .val (.int (1 : Int32)), .val (.int (0 : Int32)), .unset] [(.int (10 : Int32)), (.ref a)])) rfl (hb hby d13_52) rfl (by decide) (cap := 10) (by decide) (by decide) (by decide) (by decide)
  obtain ⟨b6, g6⟩ : ∃ z, z = h0.size := ⟨_, rfl⟩
  rw [← g6] at A6 st6
  refine own_go st6 ?_
  have K6 : Keep h0 h6 [a] := (Keep.refl h0 [a]).ext E6
  have O6 := O0.ext E6
  have B6 : Arv Z h6 b6 k6 (.object "java/lang/Object") (10 : Int32) [.null, .null, .null, .null, .null, .null, .null, .null, .null, .null] .null := (Arv.new A6 (by decide)).pad (pad_rep [] .null 10)
  refine own_go (A := T6.setTop (mkF m 56 #[.val (.ref a), .val (.int (1 : Int32)), .val (.int (0 : Int32)), .unset] [(.ref b6), (.ref a), (.ref b6)])) (fun t_ k_ => ?_) ?_
  · show Steps p.tables e below (T6.setTop (mkF m 55 #[.val (.ref a), .val (.int (1 : Int32)), .val (.int (0 : Int32)), .unset] [(.ref b6), (.ref a)])) t_
    refine XS.dupX1 X6.here hx rfl (hb hby d13_55) rfl rfl rfl ?_
    exact k_
  obtain ⟨T7, h7, X7, e7, W7, st7⟩ := putF X6 hx hZ hown (host := "") (Or.inl (own_w hw 24 rfl)) Via.refl e6 (u3.ext E6) (u2.ext E6) (Or.inl (own_w hw 25 rfl)) (own_w hw 1 rfl) (ty := (.array (.object "java/lang/Object"))) (by decide) rfl rfl (g := (mkF m 56 #[.val (.ref a), .val (.int (1 : Int32)), .val (.int (0 : Int32)), .unset] [(.ref b6), (.ref a), (.ref b6)])) rfl rfl (hb hby d13_56)
  have Fw7 : Fld Z h7 a "java/util/ArrayList" "elementData" "[Ljava/lang/Object;" (.ref b6) := (u3.ext E6).same W7
  refine own_go st7 ?_
  have K7 : Keep h0 h7 [a] := K6.wr W7 (Or.inl (List.mem_of_getElem? (i := 0) rfl))
  have O7 := O6.wr W7 u7
  have N7 := Fr.snoc X7 N5 u7
  obtain ⟨fs8, hr8, hrun8, hended8, hW8, hsame8⟩ := X7.leave (v := some (.ref b6)) (fun h => by rw [Bd.returns] at h; cases h)
  refine ⟨_, _, ?_, hrun8, hended8, _, _, rfl, ?_, ⟨_, rfl⟩, hW8, hsame8.mono (by decide) (by decide)⟩
  · exact own_retA X7 hx Bd.returns rfl rfl rfl (hb hby d13_59) hr8
  · show Q_rmGrowI Z a dc kd mc h0 n0 _ T7.heap _
    rw [e7]
    exact ⟨b6, k6, rfl, N7, K7, (Nat.le_of_eq g6.symm), (B6.other W7 (Ne.symm (Nat.ne_of_lt (Nat.lt_of_lt_of_le u2.lt (Nat.le_of_eq g6.symm))))), V6, Fw7, ((u4.ext E6).other W7 (Or.inr (slot_ne (Or.inl (own_w hw 67 rfl)) (Or.inl (own_w hw 25 rfl)) (by decide) (t := .int) (t' := (.array (.object "java/lang/Object"))) (by decide) (by decide)))), ((u5.ext E6).other W7 (Or.inr (slot_ne (Or.inl (own_w hw 22 rfl)) (Or.inl (own_w hw 25 rfl)) (by decide) (t := .int) (t' := (.array (.object "java/lang/Object"))) (by decide) (by decide))))⟩
theorem d12_0 : decode jdk_38_method_7_code 0 = .ok (.aload_n 0, 1) := by decide +kernel
theorem d12_1 : decode jdk_38_method_7_code 1 = .ok (.aload_n 0, 1) := by decide +kernel
theorem d12_2 : decode jdk_38_method_7_code 2 = .ok (.getfield 48, 3) := by decide +kernel
theorem d12_5 : decode jdk_38_method_7_code 5 = .ok (.iconst 1, 1) := by decide +kernel
theorem d12_6 : decode jdk_38_method_7_code 6 = .ok (.iadd, 1) := by decide +kernel
theorem pd_11 : parseMethodDescriptor "(I)[Ljava/lang/Object;" = some ⟨[.int], some (.array (.object "java/lang/Object"))⟩ := by decide +kernel
theorem d12_7 : decode jdk_38_method_7_code 7 = .ok (.invokevirtual 69, 3) := by decide +kernel
theorem d12_10 : decode jdk_38_method_7_code 10 = .ok (.areturn, 1) := by decide +kernel
abbrev own_y15 : MethodName := ⟨"java/util/ArrayList", "grow", "()[Ljava/lang/Object;"⟩
theorem ef_rmGrow (m : MethodId) (a : Addr) : entryFrame m #[(.ref a)] 1 = mkF m 0 #[.val (.ref a)] [] := by first | (simp [entryFrame, mkF, argsToLocals, Value.category]; done) | rfl
def Q_rmGrow (Z : State) (a : Addr) (dc : Addr) (kd : ClassId) (mc : Int32) (h0 : Heap) (n0 : Nat) (v_ : Option Value) (h_ : Heap) (L_ : List Loc) : Prop := ∃ ed : Addr, ∃ k : ClassId, v_ = some (.ref ed) ∧ Fr n0 L_ ∧ Keep h0 h_ [a] ∧ h0.size ≤ ed ∧ Arv Z h_ ed k (.object "java/lang/Object") (10 : Int32) [.null, .null, .null, .null, .null, .null, .null, .null, .null, .null] .null ∧ Ovr Z k "java/lang/Object" ∧ Fld Z h_ a "java/util/ArrayList" "elementData" "[Ljava/lang/Object;" (.ref ed) ∧ Fld Z h_ a "java/util/ArrayList" "size" "I" (.int (0 : Int32)) ∧ Fld Z h_ a "java/util/AbstractList" "modCount" "I" (.int mc)
set_option maxRecDepth 65536 in
set_option maxHeartbeats 40000000 in
theorem rmGrow (l : Launch) (Z : State) (a0 : Array Value) (hw : ∀ d ∈ tables_1, d.before a0 Z = true) (ws : List Jvm.Cond) (a : Addr) (dc : Addr) (kd : ClassId) (mc : Int32) (h0 : Heap) (n0 : Nat) (Z0 : n0 ≤ h0.size) (O0 : Old Z n0 h0) (u1 : Sta Z Z.heap "java/util/ArrayList" "DEFAULTCAPACITY_EMPTY_ELEMENTDATA" "[Ljava/lang/Object;" (.ref dc)) (u2 : Exa Z h0 a "java/util/ArrayList") (u3 : Fld Z h0 a "java/util/ArrayList" "elementData" "[Ljava/lang/Object;" (.ref dc)) (u4 : Fld Z h0 a "java/util/ArrayList" "size" "I" (.int (0 : Int32))) (u5 : Fld Z h0 a "java/util/AbstractList" "modCount" "I" (.int mc)) (u6 : Arv Z Z.heap dc kd (.object "java/lang/Object") (0 : Int32) [] .null) (u7 : n0 ≤ a) :
    MetFree l own_y15 (head1 (Jvm.Cond.code own_y15 jdk_38_method_7_code 1 (some (.array (.object "java/lang/Object"))) :: ws) ({ frames := 2, cells := 1, slots := 10, locals := 29 } : Room)) (fun a_ U_ => a_ = #[(.ref a)] ∧ Z.Warmed39 U_.vm ∧ U_.heap = h0) (fun _ _ _ _ _ => True) (fun _ U_ o_ U2_ => ∃ v_ L_, o_ = .returned v_ ∧ Q_rmGrow Z a dc kd mc h0 n0 v_ U2_.heap L_ ∧ FrameEnd U_ o_ U2_ L_ ({ frames := 2, cells := 1, slots := 10, locals := 29 } : Room).cells ({ frames := 2, cells := 1, slots := 10, locals := 29 } : Room).slots) := by
  refine MetFree.of_bodySF (plainFor_of_name pn_6) hisR ?_
  intro p e s m args below meth c s₁ Bd hml0 hP hK
  obtain ⟨rfl, hZ, hh⟩ := hP
  have hx := Bd.exec
  have hby := Bd.bytes
  have hml : c.maxLocals = 1 := hml0
  have hown : s.vm.findClass "java/util/ArrayList" = some m.cls := findClass_of_methodNamed Bd.named
  have hnm := (name_of_methodNamed Bd.named Bd.method).1
  have X0 : Stand p l e ({ frames := 2, cells := 1, slots := 10, locals := 29 } : Room) s m #[(.ref a)] below meth c s₁ [] 0 0 := Stand.of_body Bd
  have e0 : s₁.heap = h0 := by rw [← hh, Bd.state]; rfl
  have N0 := Fr.nil n0
  refine own_go (A := s₁.setTop (mkF m 0 #[.val (.ref a)] [])) (fun t_ k_ => castTop (ef_rmGrow m a) k_) ?_
  refine own_go (A := s₁.setTop (mkF m 2 #[.val (.ref a)] [(.ref a), (.ref a)])) (fun t_ k_ => ?_) ?_
  · show Steps p.tables e below (s₁.setTop (mkF m 0 #[.val (.ref a)] [])) t_
    refine XS.aloadN X0.here hx rfl (hb hby d12_0) rfl rfl ?_
    show Steps p.tables e below (s₁.setTop (mkF m 1 #[.val (.ref a)] [(.ref a)])) t_
    refine XS.aloadN X0.here hx rfl (hb hby d12_1) rfl rfl ?_
    exact k_
  obtain ⟨T1, X1, e1, st1⟩ := getF X0 hx hZ hown (host := "") (Or.inl (own_w hw 66 rfl)) Via.refl e0 u4 (g := (mkF m 2 #[.val (.ref a)] [(.ref a), (.ref a)])) rfl rfl (hb hby d12_2)
  refine own_go st1 ?_
  refine own_go (A := T1.setTop (mkF m 7 #[.val (.ref a)] [(.int (1 : Int32)), (.ref a)])) (fun t_ k_ => ?_) ?_
  · show Steps p.tables e below (T1.setTop (mkF m 5 #[.val (.ref a)] [(.int (0 : Int32)), (.ref a)])) t_
    refine XS.iconst X1.here hx rfl (hb hby d12_5) ?_
    show Steps p.tables e below (T1.setTop (mkF m 6 #[.val (.ref a)] [(.int (1 : Int32)), (.int (0 : Int32)), (.ref a)])) t_
    refine XS.iadd X1.here hx rfl (hb hby d12_6) rfl ?_
    exact k_
  obtain ⟨cq2, q2, q2'⟩ := u2.cell
  obtain ⟨_, _, ⟨T2, L2, k2, n2⟩, -, X2, ⟨Lc2, hQ2, l2, y2, z2⟩, st2⟩ := X1.privateBack hx (y := own_y14) hown (mvT hZ (own_w hw 78 rfl)) (mvT hZ (own_w hw 79 rfl)) (mvT hZ (own_w hw 81 rfl)) (Cond.privateMethod_at (mvP hZ (own_w hw 80 rfl) (args := #[]))) (mvT hZ (own_w hw 82 rfl)) (by decide) (backOf (W := 0) (rmGrowI l Z a0 hw [] a dc kd mc h0 n0 Z0 O0 u1 u2 u3 u4 u5 u6 u7) hZ (own_w hw 82 rfl) (own_w hw 2 rfl) (by decide) (by decide)) (g := (mkF m 7 #[.val (.ref a)] [(.int (1 : Int32)), (.ref a)])) rfl (by rw [hml]; rfl) (Steps.refl _) (a := a) (by rw [e1]; exact q2) q2' (argsL := [(.int (1 : Int32))]) (rest := []) (lenOf pd_11 rfl) rfl (by show 2 * 0 + _ ≤ _; exact Nat.le_of_eq rfl) (hb hby d12_7) (fun _ _ => ⟨rfl, e1, (by decide : 0 + 1 ≤ _), (by decide : 0 + 10 ≤ _)⟩)
  dsimp only [Pt.U, Pt.locs, Pt.cells, Pt.slots] at X2 l2 y2 z2 st2 hQ2
  subst l2 y2 z2
  obtain ⟨ed_2, k_2, rfl, N2q, Kc2, r2_0, r2_1, r2_2, r2_3, r2_4, r2_5⟩ := hQ2
  have N2 := Fr.app N0 N2q
  refine own_via st2 ?_
  have K2 : Keep h0 T2.heap [a] := (Keep.refl h0 [a]).trans Kc2 (allS (P := fun x => x ∈ _ ∨ _ ≤ x) (Or.inl (List.mem_of_getElem? (i := 0) rfl)) all0)
  have O2 := O0.keep Kc2 (allS (P := fun x => n0 ≤ x) u7 all0)
  obtain ⟨fs3, hr3, hrun3, hended3, hW3, hsame3⟩ := X2.leave (v := some (.ref ed_2)) (fun h => by rw [Bd.returns] at h; cases h)
  refine ⟨_, _, ?_, hrun3, hended3, _, _, rfl, ?_, ⟨_, rfl⟩, hW3, hsame3.mono (by decide) (by decide)⟩
  · exact own_retA X2 hx Bd.returns rfl rfl rfl (hb hby d12_10) hr3
  · show Q_rmGrow Z a dc kd mc h0 n0 _ T2.heap _
    exact ⟨ed_2, k_2, rfl, N2, K2, r2_0, r2_1, r2_2, r2_3, r2_4, r2_5⟩
theorem d11_0 : decode jdk_38_method_24_code 0 = .ok (.iload_n 3, 1) := by decide +kernel
theorem d11_1 : decode jdk_38_method_24_code 1 = .ok (.aload_n 2, 1) := by decide +kernel
theorem d11_2 : decode jdk_38_method_24_code 2 = .ok (.arraylength, 1) := by decide +kernel
theorem d11_3 : decode jdk_38_method_24_code 3 = .ok (.if_icmp .ne 8, 3) := by decide +kernel
theorem d11_6 : decode jdk_38_method_24_code 6 = .ok (.aload_n 0, 1) := by decide +kernel
theorem pd_12 : parseMethodDescriptor "()[Ljava/lang/Object;" = some ⟨[], some (.array (.object "java/lang/Object"))⟩ := by decide +kernel
theorem d11_7 : decode jdk_38_method_24_code 7 = .ok (.invokevirtual 129, 3) := by decide +kernel
theorem d11_10 : decode jdk_38_method_24_code 10 = .ok (.astore_n 2, 1) := by decide +kernel
theorem d11_11 : decode jdk_38_method_24_code 11 = .ok (.aload_n 2, 1) := by decide +kernel
theorem d11_12 : decode jdk_38_method_24_code 12 = .ok (.iload_n 3, 1) := by decide +kernel
theorem d11_13 : decode jdk_38_method_24_code 13 = .ok (.aload_n 1, 1) := by decide +kernel
theorem d11_14 : decode jdk_38_method_24_code 14 = .ok (.aastore, 1) := by decide +kernel
theorem d11_15 : decode jdk_38_method_24_code 15 = .ok (.aload_n 0, 1) := by decide +kernel
theorem d11_16 : decode jdk_38_method_24_code 16 = .ok (.iload_n 3, 1) := by decide +kernel
theorem d11_17 : decode jdk_38_method_24_code 17 = .ok (.iconst 1, 1) := by decide +kernel
theorem d11_18 : decode jdk_38_method_24_code 18 = .ok (.iadd, 1) := by decide +kernel
theorem d11_19 : decode jdk_38_method_24_code 19 = .ok (.putfield 48, 3) := by decide +kernel
theorem d11_22 : decode jdk_38_method_24_code 22 = .ok (.return_, 1) := by decide +kernel
abbrev own_y16 : MethodName := ⟨"java/util/ArrayList", "add", "(Ljava/lang/Object;[Ljava/lang/Object;I)V"⟩
theorem ef_rmAddP0 (m : MethodId) (a : Addr) (xx : Addr) (dc : Addr) : entryFrame m #[(.ref a), (.ref xx), (.ref dc), (.int (0 : Int32))] 4 = mkF m 0 #[.val (.ref a), .val (.ref xx), .val (.ref dc), .val (.int (0 : Int32))] [] := by first | (simp [entryFrame, mkF, argsToLocals, Value.category]; done) | rfl
def Q_rmAddP0 (Z : State) (a : Addr) (xx : Addr) (dc : Addr) (kd : ClassId) (mc : Int32) (h0 : Heap) (n0 : Nat) (v_ : Option Value) (h_ : Heap) (L_ : List Loc) : Prop := ∃ ed : Addr, ∃ k : ClassId, v_ = none ∧ Fr n0 L_ ∧ Keep h0 h_ [a] ∧ h0.size ≤ ed ∧ Arv Z h_ ed k (.object "java/lang/Object") (10 : Int32) [(.ref xx), .null, .null, .null, .null, .null, .null, .null, .null, .null] .null ∧ Ovr Z k "java/lang/Object" ∧ Fld Z h_ a "java/util/ArrayList" "elementData" "[Ljava/lang/Object;" (.ref ed) ∧ Fld Z h_ a "java/util/ArrayList" "size" "I" (.int (1 : Int32)) ∧ Fld Z h_ a "java/util/AbstractList" "modCount" "I" (.int mc)
set_option maxRecDepth 65536 in
set_option maxHeartbeats 40000000 in
theorem rmAddP0 (l : Launch) (Z : State) (a0 : Array Value) (hw : ∀ d ∈ tables_1, d.before a0 Z = true) (ws : List Jvm.Cond) (a : Addr) (xx : Addr) (dc : Addr) (kd : ClassId) (mc : Int32) (h0 : Heap) (n0 : Nat) (Z0 : n0 ≤ h0.size) (O0 : Old Z n0 h0) (u1 : Sta Z Z.heap "java/util/ArrayList" "DEFAULTCAPACITY_EMPTY_ELEMENTDATA" "[Ljava/lang/Object;" (.ref dc)) (u2 : Exa Z h0 a "java/util/ArrayList") (u3 : Fld Z h0 a "java/util/ArrayList" "elementData" "[Ljava/lang/Object;" (.ref dc)) (u4 : Fld Z h0 a "java/util/ArrayList" "size" "I" (.int (0 : Int32))) (u5 : Fld Z h0 a "java/util/AbstractList" "modCount" "I" (.int mc)) (u6 : Arv Z Z.heap dc kd (.object "java/lang/Object") (0 : Int32) [] .null) (u7 : n0 ≤ a) (u8 : Exa Z h0 xx "java/lang/Integer") :
    MetFree l own_y16 (head1 (Jvm.Cond.code own_y16 jdk_38_method_24_code 4 none :: ws) ({ frames := 3, cells := 1, slots := 10, locals := 41 } : Room)) (fun a_ U_ => a_ = #[(.ref a), (.ref xx), (.ref dc), (.int (0 : Int32))] ∧ Z.Warmed39 U_.vm ∧ U_.heap = h0) (fun _ _ _ _ _ => True) (fun _ U_ o_ U2_ => ∃ v_ L_, o_ = .returned v_ ∧ Q_rmAddP0 Z a xx dc kd mc h0 n0 v_ U2_.heap L_ ∧ FrameEnd U_ o_ U2_ L_ ({ frames := 3, cells := 1, slots := 10, locals := 41 } : Room).cells ({ frames := 3, cells := 1, slots := 10, locals := 41 } : Room).slots) := by
  refine MetFree.of_bodySF (plainFor_of_name pn_6) hisR ?_
  intro p e s m args below meth c s₁ Bd hml0 hP hK
  obtain ⟨rfl, hZ, hh⟩ := hP
  have hx := Bd.exec
  have hby := Bd.bytes
  have hml : c.maxLocals = 4 := hml0
  have hown : s.vm.findClass "java/util/ArrayList" = some m.cls := findClass_of_methodNamed Bd.named
  have hnm := (name_of_methodNamed Bd.named Bd.method).1
  have X0 : Stand p l e ({ frames := 3, cells := 1, slots := 10, locals := 41 } : Room) s m #[(.ref a), (.ref xx), (.ref dc), (.int (0 : Int32))] below meth c s₁ [] 0 0 := Stand.of_body Bd
  have e0 : s₁.heap = h0 := by rw [← hh, Bd.state]; rfl
  have N0 := Fr.nil n0
  refine own_go (A := s₁.setTop (mkF m 0 #[.val (.ref a), .val (.ref xx), .val (.ref dc), .val (.int (0 : Int32))] [])) (fun t_ k_ => castTop (ef_rmAddP0 m a xx dc) k_) ?_
  obtain ⟨cl1, Ar1, q1, S1, M1, H1, G1⟩ := id (u6.ext O0.2)
  refine own_go (A := s₁.setTop (mkF m 7 #[.val (.ref a), .val (.ref xx), .val (.ref dc), .val (.int (0 : Int32))] [(.ref a)])) (fun t_ k_ => ?_) ?_
  · show Steps p.tables e below (s₁.setTop (mkF m 0 #[.val (.ref a), .val (.ref xx), .val (.ref dc), .val (.int (0 : Int32))] [])) t_
    refine XS.iloadN X0.here hx rfl (hb hby d11_0) rfl ?_
    show Steps p.tables e below (s₁.setTop (mkF m 1 #[.val (.ref a), .val (.ref xx), .val (.ref dc), .val (.int (0 : Int32))] [(.int (0 : Int32))])) t_
    refine XS.aloadN X0.here hx rfl (hb hby d11_1) rfl rfl ?_
    show Steps p.tables e below (s₁.setTop (mkF m 2 #[.val (.ref a), .val (.ref xx), .val (.ref dc), .val (.int (0 : Int32))] [(.ref dc), (.int (0 : Int32))])) t_
    refine X0.arraylength hx (by rw [e0]; exact Ar1.1) (State.isArrayOf_alike hZ.alike Ar1.2.1) (g := (mkF m 2 #[.val (.ref a), .val (.ref xx), .val (.ref dc), .val (.int (0 : Int32))] [(.ref dc), (.int (0 : Int32))])) rfl rfl (hb hby d11_2) _ ?_
    rw [len_of S1 M1]
    show Steps p.tables e below (s₁.setTop (mkF m 3 #[.val (.ref a), .val (.ref xx), .val (.ref dc), .val (.int (0 : Int32))] [(.int (0 : Int32)), (.int (0 : Int32))])) t_
    refine XS.icmpNo X0.here hx rfl (hb hby d11_3) rfl (teq (by decide : (0 : Int32) = (0 : Int32))).2 ?_
    show Steps p.tables e below (s₁.setTop (mkF m 6 #[.val (.ref a), .val (.ref xx), .val (.ref dc), .val (.int (0 : Int32))] [])) t_
    refine XS.aloadN X0.here hx rfl (hb hby d11_6) rfl rfl ?_
    exact k_
  obtain ⟨cq2, q2, q2'⟩ := u2.cell
  obtain ⟨_, _, ⟨T2, L2, k2, n2⟩, -, X2, ⟨Lc2, hQ2, l2, y2, z2⟩, st2⟩ := X0.privateBack hx (y := own_y15) hown (mvT hZ (own_w hw 73 rfl)) (mvT hZ (own_w hw 74 rfl)) (mvT hZ (own_w hw 76 rfl)) (Cond.privateMethod_at (mvP hZ (own_w hw 75 rfl) (args := #[]))) (mvT hZ (own_w hw 77 rfl)) (by decide) (backOf (W := 0) (rmGrow l Z a0 hw [] a dc kd mc h0 n0 Z0 O0 u1 u2 u3 u4 u5 u6 u7) hZ (own_w hw 77 rfl) (own_w hw 2 rfl) (by decide) (by decide)) (g := (mkF m 7 #[.val (.ref a), .val (.ref xx), .val (.ref dc), .val (.int (0 : Int32))] [(.ref a)])) rfl (by rw [hml]; rfl) (Steps.refl _) (a := a) (by rw [e0]; exact q2) q2' (argsL := []) (rest := []) (lenOf pd_12 rfl) rfl (by show 2 * 0 + _ ≤ _; exact Nat.le_of_eq rfl) (hb hby d11_7) (fun _ _ => ⟨rfl, e0, (by decide : 0 + 1 ≤ _), (by decide : 0 + 10 ≤ _)⟩)
  dsimp only [Pt.U, Pt.locs, Pt.cells, Pt.slots] at X2 l2 y2 z2 st2 hQ2
  subst l2 y2 z2
  obtain ⟨ed_2, k_2, rfl, N2q, Kc2, r2_0, r2_1, r2_2, r2_3, r2_4, r2_5⟩ := hQ2
  have N2 := Fr.app N0 N2q
  refine own_via st2 ?_
  have K2 : Keep h0 T2.heap [a] := (Keep.refl h0 [a]).trans Kc2 (allS (P := fun x => x ∈ _ ∨ _ ≤ x) (Or.inl (List.mem_of_getElem? (i := 0) rfl)) all0)
  have O2 := O0.keep Kc2 (allS (P := fun x => n0 ≤ x) u7 all0)
  refine own_go (A := T2.setTop (mkF m 14 #[.val (.ref a), .val (.ref xx), .val (.ref ed_2), .val (.int (0 : Int32))] [(.ref xx), (.int (0 : Int32)), (.ref ed_2)])) (fun t_ k_ => ?_) ?_
  · show Steps p.tables e below (T2.setTop (mkF m 10 #[.val (.ref a), .val (.ref xx), .val (.ref dc), .val (.int (0 : Int32))] [(.ref ed_2)])) t_
    refine XS.astoreN X2.here hx rfl (hb hby d11_10) rfl rfl (l' := #[.val (.ref a), .val (.ref xx), .val (.ref ed_2), .val (.int (0 : Int32))]) rfl ?_
    show Steps p.tables e below (T2.setTop (mkF m 11 #[.val (.ref a), .val (.ref xx), .val (.ref ed_2), .val (.int (0 : Int32))] [])) t_
    refine XS.aloadN X2.here hx rfl (hb hby d11_11) rfl rfl ?_
    show Steps p.tables e below (T2.setTop (mkF m 12 #[.val (.ref a), .val (.ref xx), .val (.ref ed_2), .val (.int (0 : Int32))] [(.ref ed_2)])) t_
    refine XS.iloadN X2.here hx rfl (hb hby d11_12) rfl ?_
    show Steps p.tables e below (T2.setTop (mkF m 13 #[.val (.ref a), .val (.ref xx), .val (.ref ed_2), .val (.int (0 : Int32))] [(.int (0 : Int32)), (.ref ed_2)])) t_
    refine XS.aloadN X2.here hx rfl (hb hby d11_13) rfl rfl ?_
    exact k_
  obtain ⟨cl3, Ar3, q3, S3, M3, H3, G3⟩ := id r2_1
  have hin3 : ¬ ((0 : Int32) < 0 ∨ cl3.slots.size ≤ ((0 : Int32)).toNatClampNeg) := inb_of S3 ⟨by decide, by decide⟩
  obtain ⟨T4, h4, X4, e4, W4, st4⟩ := stR X2 hx hZ rfl Ar3 (j := (0 : Int32)) hin3 rfl (Sto.ofV Ar3 q3 r2_2 (Ins.of_exa (u8.keep Kc2) (own_w hw 89 rfl))) (g := (mkF m 14 #[.val (.ref a), .val (.ref xx), .val (.ref ed_2), .val (.int (0 : Int32))] [(.ref xx), (.int (0 : Int32)), (.ref ed_2)])) rfl rfl (hb hby d11_14)
  have B4 : Arv Z h4 ed_2 k_2 (.object "java/lang/Object") (10 : Int32) [(.ref xx), .null, .null, .null, .null, .null, .null, .null, .null, .null] .null := Arv.set Ar3 q3 S3 M3 H3 G3 rfl W4 0 rfl (Nat.le_of_ble_eq_true rfl)
  refine own_go st4 ?_
  have K4 : Keep h0 h4 [a] := K2.wr W4 (Or.inr r2_0)
  have O4 := O2.wr W4 (Nat.le_trans Z0 r2_0)
  have N4 := Fr.snoc X4 N2 (Nat.le_trans Z0 r2_0)
  refine own_go (A := T4.setTop (mkF m 19 #[.val (.ref a), .val (.ref xx), .val (.ref ed_2), .val (.int (0 : Int32))] [(.int (1 : Int32)), (.ref a)])) (fun t_ k_ => ?_) ?_
  · show Steps p.tables e below (T4.setTop (mkF m 15 #[.val (.ref a), .val (.ref xx), .val (.ref ed_2), .val (.int (0 : Int32))] [])) t_
    refine XS.aloadN X4.here hx rfl (hb hby d11_15) rfl rfl ?_
    show Steps p.tables e below (T4.setTop (mkF m 16 #[.val (.ref a), .val (.ref xx), .val (.ref ed_2), .val (.int (0 : Int32))] [(.ref a)])) t_
    refine XS.iloadN X4.here hx rfl (hb hby d11_16) rfl ?_
    show Steps p.tables e below (T4.setTop (mkF m 17 #[.val (.ref a), .val (.ref xx), .val (.ref ed_2), .val (.int (0 : Int32))] [(.int (0 : Int32)), (.ref a)])) t_
    refine XS.iconst X4.here hx rfl (hb hby d11_17) ?_
    show Steps p.tables e below (T4.setTop (mkF m 18 #[.val (.ref a), .val (.ref xx), .val (.ref ed_2), .val (.int (0 : Int32))] [(.int (1 : Int32)), (.int (0 : Int32)), (.ref a)])) t_
    refine XS.iadd X4.here hx rfl (hb hby d11_18) rfl ?_
    exact k_
  obtain ⟨T5, h5, X5, e5, W5, st5⟩ := putF X4 hx hZ hown (host := "") (Or.inl (own_w hw 66 rfl)) Via.refl e4 (r2_4.other W4 (Or.inl (Nat.ne_of_lt (Nat.lt_of_lt_of_le u2.lt r2_0)))) ((u2.keep Kc2).wr W4) (Or.inl (own_w hw 67 rfl)) (own_w hw 1 rfl) (ty := .int) (by decide) rfl rfl (g := (mkF m 19 #[.val (.ref a), .val (.ref xx), .val (.ref ed_2), .val (.int (0 : Int32))] [(.int (1 : Int32)), (.ref a)])) rfl rfl (hb hby d11_19)
  have Fw5 : Fld Z h5 a "java/util/ArrayList" "size" "I" (.int (1 : Int32)) := (r2_4.other W4 (Or.inl (Nat.ne_of_lt (Nat.lt_of_lt_of_le u2.lt r2_0)))).same W5
  refine own_go st5 ?_
  have K5 : Keep h0 h5 [a] := K4.wr W5 (Or.inl (List.mem_of_getElem? (i := 0) rfl))
  have O5 := O4.wr W5 u7
  have N5 := Fr.snoc X5 N4 u7
  obtain ⟨fs6, hr6, hrun6, hended6, hW6, hsame6⟩ := X5.leave (v := none) (fun _ => rfl)
  refine ⟨_, _, ?_, hrun6, hended6, _, _, rfl, ?_, ⟨_, rfl⟩, hW6, hsame6.mono (by decide) (by decide)⟩
  · exact X5.returnOut hx Bd.returns (hb hby d11_22) hr6
  · show Q_rmAddP0 Z a xx dc kd mc h0 n0 _ T5.heap _
    rw [e5]
    exact ⟨ed_2, k_2, rfl, N5, K5, r2_0, (B4.other W5 (Ne.symm (Nat.ne_of_lt (Nat.lt_of_lt_of_le u2.lt r2_0)))), r2_2, ((r2_3.other W4 (Or.inl (Nat.ne_of_lt (Nat.lt_of_lt_of_le u2.lt r2_0)))).other W5 (Or.inr (slot_ne (Or.inl (own_w hw 25 rfl)) (Or.inl (own_w hw 67 rfl)) (by decide) (t := (.array (.object "java/lang/Object"))) (t' := .int) (by decide) (by decide)))), Fw5, ((r2_5.other W4 (Or.inl (Nat.ne_of_lt (Nat.lt_of_lt_of_le u2.lt r2_0)))).other W5 (Or.inr (slot_ne (Or.inl (own_w hw 22 rfl)) (Or.inl (own_w hw 67 rfl)) (by decide) (t := .int) (t' := .int) (by decide) (by decide))))⟩
theorem d10_0 : decode jdk_38_method_25_code 0 = .ok (.aload_n 0, 1) := by decide +kernel
theorem d10_1 : decode jdk_38_method_25_code 1 = .ok (.dup, 1) := by decide +kernel
theorem d10_2 : decode jdk_38_method_25_code 2 = .ok (.getfield 63, 3) := by decide +kernel
theorem d10_5 : decode jdk_38_method_25_code 5 = .ok (.iconst 1, 1) := by decide +kernel
theorem d10_6 : decode jdk_38_method_25_code 6 = .ok (.iadd, 1) := by decide +kernel
theorem d10_7 : decode jdk_38_method_25_code 7 = .ok (.putfield 63, 3) := by decide +kernel
theorem d10_10 : decode jdk_38_method_25_code 10 = .ok (.aload_n 0, 1) := by decide +kernel
theorem d10_11 : decode jdk_38_method_25_code 11 = .ok (.aload_n 1, 1) := by decide +kernel
theorem d10_12 : decode jdk_38_method_25_code 12 = .ok (.aload_n 0, 1) := by decide +kernel
theorem d10_13 : decode jdk_38_method_25_code 13 = .ok (.getfield 9, 3) := by decide +kernel
theorem d10_16 : decode jdk_38_method_25_code 16 = .ok (.aload_n 0, 1) := by decide +kernel
theorem d10_17 : decode jdk_38_method_25_code 17 = .ok (.getfield 48, 3) := by decide +kernel
theorem pd_13 : parseMethodDescriptor "(Ljava/lang/Object;[Ljava/lang/Object;I)V" = some ⟨[(.object "java/lang/Object"), (.array (.object "java/lang/Object")), .int], none⟩ := by decide +kernel
theorem d10_20 : decode jdk_38_method_25_code 20 = .ok (.invokevirtual 131, 3) := by decide +kernel
theorem d10_23 : decode jdk_38_method_25_code 23 = .ok (.iconst 1, 1) := by decide +kernel
theorem d10_24 : decode jdk_38_method_25_code 24 = .ok (.ireturn, 1) := by decide +kernel
abbrev own_y17 : MethodName := ⟨"java/util/ArrayList", "add", "(Ljava/lang/Object;)Z"⟩
theorem ef_rmAdd0 (m : MethodId) (a : Addr) (xx : Addr) : entryFrame m #[(.ref a), (.ref xx)] 2 = mkF m 0 #[.val (.ref a), .val (.ref xx)] [] := by first | (simp [entryFrame, mkF, argsToLocals, Value.category]; done) | rfl
def Q_rmAdd0 (Z : State) (a : Addr) (xx : Addr) (dc : Addr) (kd : ClassId) (mc : Int32) (h0 : Heap) (n0 : Nat) (v_ : Option Value) (h_ : Heap) (L_ : List Loc) : Prop := ∃ ed : Addr, ∃ k : ClassId, v_ = some (.int (1 : Int32)) ∧ Fr n0 L_ ∧ Keep h0 h_ [a] ∧ h0.size ≤ ed ∧ Arv Z h_ ed k (.object "java/lang/Object") (10 : Int32) [(.ref xx), .null, .null, .null, .null, .null, .null, .null, .null, .null] .null ∧ Ovr Z k "java/lang/Object" ∧ Fld Z h_ a "java/util/ArrayList" "elementData" "[Ljava/lang/Object;" (.ref ed) ∧ Fld Z h_ a "java/util/ArrayList" "size" "I" (.int (1 : Int32)) ∧ Fld Z h_ a "java/util/AbstractList" "modCount" "I" (.int (mc + (1 : Int32)))
set_option maxRecDepth 65536 in
set_option maxHeartbeats 40000000 in
theorem rmAdd0 (l : Launch) (Z : State) (a0 : Array Value) (hw : ∀ d ∈ tables_1, d.before a0 Z = true) (ws : List Jvm.Cond) (a : Addr) (xx : Addr) (dc : Addr) (kd : ClassId) (mc : Int32) (h0 : Heap) (n0 : Nat) (Z0 : n0 ≤ h0.size) (O0 : Old Z n0 h0) (u1 : Sta Z Z.heap "java/util/ArrayList" "DEFAULTCAPACITY_EMPTY_ELEMENTDATA" "[Ljava/lang/Object;" (.ref dc)) (u2 : Exa Z h0 a "java/util/ArrayList") (u3 : Fld Z h0 a "java/util/ArrayList" "elementData" "[Ljava/lang/Object;" (.ref dc)) (u4 : Fld Z h0 a "java/util/ArrayList" "size" "I" (.int (0 : Int32))) (u5 : Fld Z h0 a "java/util/AbstractList" "modCount" "I" (.int mc)) (u6 : Arv Z Z.heap dc kd (.object "java/lang/Object") (0 : Int32) [] .null) (u7 : n0 ≤ a) (u8 : Exa Z h0 xx "java/lang/Integer") :
    MetFree l own_y17 (head1 (Jvm.Cond.code own_y17 jdk_38_method_25_code 2 (some .boolean) :: ws) ({ frames := 4, cells := 1, slots := 10, locals := 56 } : Room)) (fun a_ U_ => a_ = #[(.ref a), (.ref xx)] ∧ Z.Warmed39 U_.vm ∧ U_.heap = h0) (fun _ _ _ _ _ => True) (fun _ U_ o_ U2_ => ∃ v_ L_, o_ = .returned v_ ∧ Q_rmAdd0 Z a xx dc kd mc h0 n0 v_ U2_.heap L_ ∧ FrameEnd U_ o_ U2_ L_ ({ frames := 4, cells := 1, slots := 10, locals := 56 } : Room).cells ({ frames := 4, cells := 1, slots := 10, locals := 56 } : Room).slots) := by
  refine MetFree.of_bodySF (plainFor_of_name pn_6) hisR ?_
  intro p e s m args below meth c s₁ Bd hml0 hP hK
  obtain ⟨rfl, hZ, hh⟩ := hP
  have hx := Bd.exec
  have hby := Bd.bytes
  have hml : c.maxLocals = 2 := hml0
  have hown : s.vm.findClass "java/util/ArrayList" = some m.cls := findClass_of_methodNamed Bd.named
  have hnm := (name_of_methodNamed Bd.named Bd.method).1
  have X0 : Stand p l e ({ frames := 4, cells := 1, slots := 10, locals := 56 } : Room) s m #[(.ref a), (.ref xx)] below meth c s₁ [] 0 0 := Stand.of_body Bd
  have e0 : s₁.heap = h0 := by rw [← hh, Bd.state]; rfl
  have N0 := Fr.nil n0
  refine own_go (A := s₁.setTop (mkF m 0 #[.val (.ref a), .val (.ref xx)] [])) (fun t_ k_ => castTop (ef_rmAdd0 m a xx) k_) ?_
  refine own_go (A := s₁.setTop (mkF m 2 #[.val (.ref a), .val (.ref xx)] [(.ref a), (.ref a)])) (fun t_ k_ => ?_) ?_
  · show Steps p.tables e below (s₁.setTop (mkF m 0 #[.val (.ref a), .val (.ref xx)] [])) t_
    refine XS.aloadN X0.here hx rfl (hb hby d10_0) rfl rfl ?_
    show Steps p.tables e below (s₁.setTop (mkF m 1 #[.val (.ref a), .val (.ref xx)] [(.ref a)])) t_
    refine XS.dup X0.here hx rfl (hb hby d10_1) rfl rfl ?_
    exact k_
  obtain ⟨T1, X1, e1, st1⟩ := getF X0 hx hZ hown (host := "") (Or.inl (own_w hw 64 rfl)) (Via.of (own_w hw 65 rfl)) e0 u5 (g := (mkF m 2 #[.val (.ref a), .val (.ref xx)] [(.ref a), (.ref a)])) rfl rfl (hb hby d10_2)
  refine own_go st1 ?_
  refine own_go (A := T1.setTop (mkF m 7 #[.val (.ref a), .val (.ref xx)] [(.int (mc + (1 : Int32))), (.ref a)])) (fun t_ k_ => ?_) ?_
  · show Steps p.tables e below (T1.setTop (mkF m 5 #[.val (.ref a), .val (.ref xx)] [(.int mc), (.ref a)])) t_
    refine XS.iconst X1.here hx rfl (hb hby d10_5) ?_
    show Steps p.tables e below (T1.setTop (mkF m 6 #[.val (.ref a), .val (.ref xx)] [(.int (1 : Int32)), (.int mc), (.ref a)])) t_
    refine XS.iadd X1.here hx rfl (hb hby d10_6) rfl ?_
    exact k_
  obtain ⟨T2, h2, X2, e2, W2, st2⟩ := putF X1 hx hZ hown (host := "") (Or.inl (own_w hw 64 rfl)) (Via.of (own_w hw 65 rfl)) e1 u5 u2 (Or.inl (own_w hw 22 rfl)) (own_w hw 1 rfl) (ty := .int) (by decide) rfl rfl (g := (mkF m 7 #[.val (.ref a), .val (.ref xx)] [(.int (mc + (1 : Int32))), (.ref a)])) rfl rfl (hb hby d10_7)
  have Fw2 : Fld Z h2 a "java/util/AbstractList" "modCount" "I" (.int (mc + (1 : Int32))) := u5.same W2
  refine own_go st2 ?_
  have K2 : Keep h0 h2 [a] := (Keep.refl h0 [a]).wr W2 (Or.inl (List.mem_of_getElem? (i := 0) rfl))
  have O2 := O0.wr W2 u7
  have N2 := Fr.snoc X2 N0 u7
  refine own_go (A := T2.setTop (mkF m 13 #[.val (.ref a), .val (.ref xx)] [(.ref a), (.ref xx), (.ref a)])) (fun t_ k_ => ?_) ?_
  · show Steps p.tables e below (T2.setTop (mkF m 10 #[.val (.ref a), .val (.ref xx)] [])) t_
    refine XS.aloadN X2.here hx rfl (hb hby d10_10) rfl rfl ?_
    show Steps p.tables e below (T2.setTop (mkF m 11 #[.val (.ref a), .val (.ref xx)] [(.ref a)])) t_
    refine XS.aloadN X2.here hx rfl (hb hby d10_11) rfl rfl ?_
    show Steps p.tables e below (T2.setTop (mkF m 12 #[.val (.ref a), .val (.ref xx)] [(.ref xx), (.ref a)])) t_
    refine XS.aloadN X2.here hx rfl (hb hby d10_12) rfl rfl ?_
    exact k_
  obtain ⟨T3, X3, e3, st3⟩ := getF X2 hx hZ hown (host := "") (Or.inl (own_w hw 24 rfl)) Via.refl e2 (u3.other W2 (Or.inr (slot_ne (Or.inl (own_w hw 25 rfl)) (Or.inl (own_w hw 22 rfl)) (by decide) (t := (.array (.object "java/lang/Object"))) (t' := .int) (by decide) (by decide)))) (g := (mkF m 13 #[.val (.ref a), .val (.ref xx)] [(.ref a), (.ref xx), (.ref a)])) rfl rfl (hb hby d10_13)
  refine own_go st3 ?_
  refine own_go (A := T3.setTop (mkF m 17 #[.val (.ref a), .val (.ref xx)] [(.ref a), (.ref dc), (.ref xx), (.ref a)])) (fun t_ k_ => ?_) ?_
  · show Steps p.tables e below (T3.setTop (mkF m 16 #[.val (.ref a), .val (.ref xx)] [(.ref dc), (.ref xx), (.ref a)])) t_
    refine XS.aloadN X3.here hx rfl (hb hby d10_16) rfl rfl ?_
    exact k_
  obtain ⟨T4, X4, e4, st4⟩ := getF X3 hx hZ hown (host := "") (Or.inl (own_w hw 66 rfl)) Via.refl e3 (u4.other W2 (Or.inr (slot_ne (Or.inl (own_w hw 67 rfl)) (Or.inl (own_w hw 22 rfl)) (by decide) (t := .int) (t' := .int) (by decide) (by decide)))) (g := (mkF m 17 #[.val (.ref a), .val (.ref xx)] [(.ref a), (.ref dc), (.ref xx), (.ref a)])) rfl rfl (hb hby d10_17)
  refine own_go st4 ?_
  obtain ⟨cq5, q5, q5'⟩ := (u2.wr W2).cell
  obtain ⟨_, _, ⟨T5, L5, k5, n5⟩, -, X5, ⟨Lc5, hQ5, l5, y5, z5⟩, st5⟩ := X4.privateBack hx (y := own_y16) hown (mvT hZ (own_w hw 68 rfl)) (mvT hZ (own_w hw 69 rfl)) (mvT hZ (own_w hw 71 rfl)) (Cond.privateMethod_at (mvP hZ (own_w hw 70 rfl) (args := #[]))) (mvT hZ (own_w hw 72 rfl)) (by decide) (backOf (W := 0) (rmAddP0 l Z a0 hw [] a xx dc kd (mc + (1 : Int32)) h2 n0 (Nat.le_trans Z0 K2.1) O2 u1 (u2.wr W2) (u3.other W2 (Or.inr (slot_ne (Or.inl (own_w hw 25 rfl)) (Or.inl (own_w hw 22 rfl)) (by decide) (t := (.array (.object "java/lang/Object"))) (t' := .int) (by decide) (by decide)))) (u4.other W2 (Or.inr (slot_ne (Or.inl (own_w hw 67 rfl)) (Or.inl (own_w hw 22 rfl)) (by decide) (t := .int) (t' := .int) (by decide) (by decide)))) Fw2 u6 u7 (u8.wr W2)) hZ (own_w hw 72 rfl) (own_w hw 2 rfl) (by decide) (by decide)) (g := (mkF m 20 #[.val (.ref a), .val (.ref xx)] [(.int (0 : Int32)), (.ref dc), (.ref xx), (.ref a)])) rfl (by rw [hml]; rfl) (Steps.refl _) (a := a) (by rw [e4]; exact q5) q5' (argsL := [(.ref xx), (.ref dc), (.int (0 : Int32))]) (rest := []) (lenOf pd_13 rfl) rfl (by show 2 * 0 + _ ≤ _; exact Nat.le_of_eq rfl) (hb hby d10_20) (fun _ _ => ⟨rfl, e4, (by decide : 0 + 1 ≤ _), (by decide : 0 + 10 ≤ _)⟩)
  dsimp only [Pt.U, Pt.locs, Pt.cells, Pt.slots] at X5 l5 y5 z5 st5 hQ5
  subst l5 y5 z5
  obtain ⟨ed_5, k_5, rfl, N5q, Kc5, r5_0, r5_1, r5_2, r5_3, r5_4, r5_5⟩ := hQ5
  have N5 := Fr.app N2 N5q
  refine own_via st5 ?_
  have K5 : Keep h0 T5.heap [a] := K2.trans Kc5 (allS (P := fun x => x ∈ _ ∨ _ ≤ x) (Or.inl (List.mem_of_getElem? (i := 0) rfl)) all0)
  have O5 := O2.keep Kc5 (allS (P := fun x => n0 ≤ x) u7 all0)
  refine own_go (A := T5.setTop (mkF m 24 #[.val (.ref a), .val (.ref xx)] [(.int (1 : Int32))])) (fun t_ k_ => ?_) ?_
  · show Steps p.tables e below (T5.setTop (mkF m 23 #[.val (.ref a), .val (.ref xx)] [])) t_
    refine XS.iconst X5.here hx rfl (hb hby d10_23) ?_
    exact k_
  obtain ⟨fs6, hr6, hrun6, hended6, hW6, hsame6⟩ := X5.leave (v := some (.int (1 : Int32))) (fun h => by rw [Bd.returns] at h; cases h)
  refine ⟨_, _, ?_, hrun6, hended6, _, _, rfl, ?_, ⟨_, rfl⟩, hW6, hsame6.mono (by decide) (by decide)⟩
  · exact retN X5 hx (t := .boolean) Bd.returns (by simp) (hb hby d10_24) hr6
  · show Q_rmAdd0 Z a xx dc kd mc h0 n0 _ T5.heap _
    exact ⟨ed_5, k_5, rfl, N5, K5, (Nat.le_trans K2.1 r5_0), r5_1, r5_2, r5_3, r5_4, r5_5⟩
theorem ef_rmAddP1 (m : MethodId) (a : Addr) (xx : Addr) (ed : Addr) : entryFrame m #[(.ref a), (.ref xx), (.ref ed), (.int (1 : Int32))] 4 = mkF m 0 #[.val (.ref a), .val (.ref xx), .val (.ref ed), .val (.int (1 : Int32))] [] := by first | (simp [entryFrame, mkF, argsToLocals, Value.category]; done) | rfl
def Q_rmAddP1 (Z : State) (a : Addr) (xx : Addr) (ed : Addr) (k : ClassId) (mc : Int32) (yy0 : Addr) (h0 : Heap) (n0 : Nat) (v_ : Option Value) (h_ : Heap) (L_ : List Loc) : Prop := v_ = none ∧ Fr n0 L_ ∧ Keep h0 h_ [a, ed] ∧ Arv Z h_ ed k (.object "java/lang/Object") (10 : Int32) [(.ref yy0), (.ref xx), .null, .null, .null, .null, .null, .null, .null, .null] .null ∧ Fld Z h_ a "java/util/ArrayList" "elementData" "[Ljava/lang/Object;" (.ref ed) ∧ Fld Z h_ a "java/util/ArrayList" "size" "I" (.int (2 : Int32)) ∧ Fld Z h_ a "java/util/AbstractList" "modCount" "I" (.int mc)
set_option maxRecDepth 65536 in
set_option maxHeartbeats 40000000 in
theorem rmAddP1 (l : Launch) (Z : State) (a0 : Array Value) (hw : ∀ d ∈ tables_1, d.before a0 Z = true) (ws : List Jvm.Cond) (a : Addr) (xx : Addr) (ed : Addr) (k : ClassId) (mc : Int32) (yy0 : Addr) (h0 : Heap) (n0 : Nat) (Z0 : n0 ≤ h0.size) (u0 : Exa Z h0 a "java/util/ArrayList") (u1 : Fld Z h0 a "java/util/ArrayList" "elementData" "[Ljava/lang/Object;" (.ref ed)) (u2 : Fld Z h0 a "java/util/ArrayList" "size" "I" (.int (1 : Int32))) (u3 : Fld Z h0 a "java/util/AbstractList" "modCount" "I" (.int mc)) (u4 : Arv Z h0 ed k (.object "java/lang/Object") (10 : Int32) [(.ref yy0), .null, .null, .null, .null, .null, .null, .null, .null, .null] .null) (u5 : Ovr Z k "java/lang/Object") (u6 : n0 ≤ a) (u7 : n0 ≤ ed) (u8 : a ≠ ed) (u9 : Exa Z h0 xx "java/lang/Integer") :
    MetFree l own_y16 (head1 (Jvm.Cond.code own_y16 jdk_38_method_24_code 4 none :: ws) ({ frames := 0, cells := 0, slots := 0, locals := 0 } : Room)) (fun a_ U_ => a_ = #[(.ref a), (.ref xx), (.ref ed), (.int (1 : Int32))] ∧ Z.Warmed39 U_.vm ∧ U_.heap = h0) (fun _ _ _ _ _ => True) (fun _ U_ o_ U2_ => ∃ v_ L_, o_ = .returned v_ ∧ Q_rmAddP1 Z a xx ed k mc yy0 h0 n0 v_ U2_.heap L_ ∧ FrameEnd U_ o_ U2_ L_ ({ frames := 0, cells := 0, slots := 0, locals := 0 } : Room).cells ({ frames := 0, cells := 0, slots := 0, locals := 0 } : Room).slots) := by
  refine MetFree.of_bodySF (plainFor_of_name pn_6) hisR ?_
  intro p e s m args below meth c s₁ Bd hml0 hP hK
  obtain ⟨rfl, hZ, hh⟩ := hP
  have hx := Bd.exec
  have hby := Bd.bytes
  have hml : c.maxLocals = 4 := hml0
  have hown : s.vm.findClass "java/util/ArrayList" = some m.cls := findClass_of_methodNamed Bd.named
  have hnm := (name_of_methodNamed Bd.named Bd.method).1
  have X0 : Stand p l e ({ frames := 0, cells := 0, slots := 0, locals := 0 } : Room) s m #[(.ref a), (.ref xx), (.ref ed), (.int (1 : Int32))] below meth c s₁ [] 0 0 := Stand.of_body Bd
  have e0 : s₁.heap = h0 := by rw [← hh, Bd.state]; rfl
  have N0 := Fr.nil n0
  refine own_go (A := s₁.setTop (mkF m 0 #[.val (.ref a), .val (.ref xx), .val (.ref ed), .val (.int (1 : Int32))] [])) (fun t_ k_ => castTop (ef_rmAddP1 m a xx ed) k_) ?_
  obtain ⟨cl1, Ar1, q1, S1, M1, H1, G1⟩ := id u4
  refine own_go (A := s₁.setTop (mkF m 14 #[.val (.ref a), .val (.ref xx), .val (.ref ed), .val (.int (1 : Int32))] [(.ref xx), (.int (1 : Int32)), (.ref ed)])) (fun t_ k_ => ?_) ?_
  · show Steps p.tables e below (s₁.setTop (mkF m 0 #[.val (.ref a), .val (.ref xx), .val (.ref ed), .val (.int (1 : Int32))] [])) t_
    refine XS.iloadN X0.here hx rfl (hb hby d11_0) rfl ?_
    show Steps p.tables e below (s₁.setTop (mkF m 1 #[.val (.ref a), .val (.ref xx), .val (.ref ed), .val (.int (1 : Int32))] [(.int (1 : Int32))])) t_
    refine XS.aloadN X0.here hx rfl (hb hby d11_1) rfl rfl ?_
    show Steps p.tables e below (s₁.setTop (mkF m 2 #[.val (.ref a), .val (.ref xx), .val (.ref ed), .val (.int (1 : Int32))] [(.ref ed), (.int (1 : Int32))])) t_
    refine X0.arraylength hx (by rw [e0]; exact Ar1.1) (State.isArrayOf_alike hZ.alike Ar1.2.1) (g := (mkF m 2 #[.val (.ref a), .val (.ref xx), .val (.ref ed), .val (.int (1 : Int32))] [(.ref ed), (.int (1 : Int32))])) rfl rfl (hb hby d11_2) _ ?_
    rw [len_of S1 M1]
    show Steps p.tables e below (s₁.setTop (mkF m 3 #[.val (.ref a), .val (.ref xx), .val (.ref ed), .val (.int (1 : Int32))] [(.int (10 : Int32)), (.int (1 : Int32))])) t_
    refine XS.icmpYes X0.here hx rfl (pc0 := 3) (pc' := 11) rfl (hb hby d11_3) rfl (feq (by decide : ¬ ((1 : Int32) = (10 : Int32)))).2 (by decide) (by decide) ?_
    show Steps p.tables e below (s₁.setTop (mkF m 11 #[.val (.ref a), .val (.ref xx), .val (.ref ed), .val (.int (1 : Int32))] [])) t_
    refine XS.aloadN X0.here hx rfl (hb hby d11_11) rfl rfl ?_
    show Steps p.tables e below (s₁.setTop (mkF m 12 #[.val (.ref a), .val (.ref xx), .val (.ref ed), .val (.int (1 : Int32))] [(.ref ed)])) t_
    refine XS.iloadN X0.here hx rfl (hb hby d11_12) rfl ?_
    show Steps p.tables e below (s₁.setTop (mkF m 13 #[.val (.ref a), .val (.ref xx), .val (.ref ed), .val (.int (1 : Int32))] [(.int (1 : Int32)), (.ref ed)])) t_
    refine XS.aloadN X0.here hx rfl (hb hby d11_13) rfl rfl ?_
    exact k_
  obtain ⟨cl2, Ar2, q2, S2, M2, H2, G2⟩ := id u4
  have hin2 : ¬ ((1 : Int32) < 0 ∨ cl2.slots.size ≤ ((1 : Int32)).toNatClampNeg) := inb_of S2 ⟨by decide, by decide⟩
  obtain ⟨T3, h3, X3, e3, W3, st3⟩ := stR X0 hx hZ e0 Ar2 (j := (1 : Int32)) hin2 rfl (Sto.ofV Ar2 q2 u5 (Ins.of_exa u9 (own_w hw 89 rfl))) (g := (mkF m 14 #[.val (.ref a), .val (.ref xx), .val (.ref ed), .val (.int (1 : Int32))] [(.ref xx), (.int (1 : Int32)), (.ref ed)])) rfl rfl (hb hby d11_14)
  have B3 : Arv Z h3 ed k (.object "java/lang/Object") (10 : Int32) [(.ref yy0), (.ref xx), .null, .null, .null, .null, .null, .null, .null, .null] .null := Arv.set Ar2 q2 S2 M2 H2 G2 rfl W3 1 rfl (Nat.le_of_ble_eq_true rfl)
  refine own_go st3 ?_
  have K3 : Keep h0 h3 [a, ed] := (Keep.refl h0 [a, ed]).wr W3 (Or.inl (List.mem_of_getElem? (i := 1) rfl))
  have N3 := Fr.snoc X3 N0 u7
  refine own_go (A := T3.setTop (mkF m 19 #[.val (.ref a), .val (.ref xx), .val (.ref ed), .val (.int (1 : Int32))] [(.int (2 : Int32)), (.ref a)])) (fun t_ k_ => ?_) ?_
  · show Steps p.tables e below (T3.setTop (mkF m 15 #[.val (.ref a), .val (.ref xx), .val (.ref ed), .val (.int (1 : Int32))] [])) t_
    refine XS.aloadN X3.here hx rfl (hb hby d11_15) rfl rfl ?_
    show Steps p.tables e below (T3.setTop (mkF m 16 #[.val (.ref a), .val (.ref xx), .val (.ref ed), .val (.int (1 : Int32))] [(.ref a)])) t_
    refine XS.iloadN X3.here hx rfl (hb hby d11_16) rfl ?_
    show Steps p.tables e below (T3.setTop (mkF m 17 #[.val (.ref a), .val (.ref xx), .val (.ref ed), .val (.int (1 : Int32))] [(.int (1 : Int32)), (.ref a)])) t_
    refine XS.iconst X3.here hx rfl (hb hby d11_17) ?_
    show Steps p.tables e below (T3.setTop (mkF m 18 #[.val (.ref a), .val (.ref xx), .val (.ref ed), .val (.int (1 : Int32))] [(.int (1 : Int32)), (.int (1 : Int32)), (.ref a)])) t_
    refine XS.iadd X3.here hx rfl (hb hby d11_18) rfl ?_
    exact k_
  obtain ⟨T4, h4, X4, e4, W4, st4⟩ := putF X3 hx hZ hown (host := "") (Or.inl (own_w hw 66 rfl)) Via.refl e3 (u2.other W3 (Or.inl u8)) (u0.wr W3) (Or.inl (own_w hw 67 rfl)) (own_w hw 1 rfl) (ty := .int) (by decide) rfl rfl (g := (mkF m 19 #[.val (.ref a), .val (.ref xx), .val (.ref ed), .val (.int (1 : Int32))] [(.int (2 : Int32)), (.ref a)])) rfl rfl (hb hby d11_19)
  have Fw4 : Fld Z h4 a "java/util/ArrayList" "size" "I" (.int (2 : Int32)) := (u2.other W3 (Or.inl u8)).same W4
  refine own_go st4 ?_
  have K4 : Keep h0 h4 [a, ed] := K3.wr W4 (Or.inl (List.mem_of_getElem? (i := 0) rfl))
  have N4 := Fr.snoc X4 N3 u6
  obtain ⟨fs5, hr5, hrun5, hended5, hW5, hsame5⟩ := X4.leave (v := none) (fun _ => rfl)
  refine ⟨_, _, ?_, hrun5, hended5, _, _, rfl, ?_, ⟨_, rfl⟩, hW5, hsame5.mono (by decide) (by decide)⟩
  · exact X4.returnOut hx Bd.returns (hb hby d11_22) hr5
  · show Q_rmAddP1 Z a xx ed k mc yy0 h0 n0 _ T4.heap _
    rw [e4]
    exact ⟨rfl, N4, K4, (B3.other W4 (Ne.symm u8)), ((u1.other W3 (Or.inl u8)).other W4 (Or.inr (slot_ne (Or.inl (own_w hw 25 rfl)) (Or.inl (own_w hw 67 rfl)) (by decide) (t := (.array (.object "java/lang/Object"))) (t' := .int) (by decide) (by decide)))), Fw4, ((u3.other W3 (Or.inl u8)).other W4 (Or.inr (slot_ne (Or.inl (own_w hw 22 rfl)) (Or.inl (own_w hw 67 rfl)) (by decide) (t := .int) (t' := .int) (by decide) (by decide))))⟩
theorem ef_rmAdd1 (m : MethodId) (a : Addr) (xx : Addr) : entryFrame m #[(.ref a), (.ref xx)] 2 = mkF m 0 #[.val (.ref a), .val (.ref xx)] [] := by first | (simp [entryFrame, mkF, argsToLocals, Value.category]; done) | rfl
def Q_rmAdd1 (Z : State) (a : Addr) (xx : Addr) (ed : Addr) (k : ClassId) (mc : Int32) (yy0 : Addr) (h0 : Heap) (n0 : Nat) (v_ : Option Value) (h_ : Heap) (L_ : List Loc) : Prop := v_ = some (.int (1 : Int32)) ∧ Fr n0 L_ ∧ Keep h0 h_ [a, ed] ∧ Arv Z h_ ed k (.object "java/lang/Object") (10 : Int32) [(.ref yy0), (.ref xx), .null, .null, .null, .null, .null, .null, .null, .null] .null ∧ Fld Z h_ a "java/util/ArrayList" "elementData" "[Ljava/lang/Object;" (.ref ed) ∧ Fld Z h_ a "java/util/ArrayList" "size" "I" (.int (2 : Int32)) ∧ Fld Z h_ a "java/util/AbstractList" "modCount" "I" (.int (mc + (1 : Int32)))
set_option maxRecDepth 65536 in
set_option maxHeartbeats 40000000 in
theorem rmAdd1 (l : Launch) (Z : State) (a0 : Array Value) (hw : ∀ d ∈ tables_1, d.before a0 Z = true) (ws : List Jvm.Cond) (a : Addr) (xx : Addr) (ed : Addr) (k : ClassId) (mc : Int32) (yy0 : Addr) (h0 : Heap) (n0 : Nat) (Z0 : n0 ≤ h0.size) (u0 : Exa Z h0 a "java/util/ArrayList") (u1 : Fld Z h0 a "java/util/ArrayList" "elementData" "[Ljava/lang/Object;" (.ref ed)) (u2 : Fld Z h0 a "java/util/ArrayList" "size" "I" (.int (1 : Int32))) (u3 : Fld Z h0 a "java/util/AbstractList" "modCount" "I" (.int mc)) (u4 : Arv Z h0 ed k (.object "java/lang/Object") (10 : Int32) [(.ref yy0), .null, .null, .null, .null, .null, .null, .null, .null, .null] .null) (u5 : Ovr Z k "java/lang/Object") (u6 : n0 ≤ a) (u7 : n0 ≤ ed) (u8 : a ≠ ed) (u9 : Exa Z h0 xx "java/lang/Integer") :
    MetFree l own_y17 (head1 (Jvm.Cond.code own_y17 jdk_38_method_25_code 2 (some .boolean) :: ws) ({ frames := 1, cells := 0, slots := 0, locals := 15 } : Room)) (fun a_ U_ => a_ = #[(.ref a), (.ref xx)] ∧ Z.Warmed39 U_.vm ∧ U_.heap = h0) (fun _ _ _ _ _ => True) (fun _ U_ o_ U2_ => ∃ v_ L_, o_ = .returned v_ ∧ Q_rmAdd1 Z a xx ed k mc yy0 h0 n0 v_ U2_.heap L_ ∧ FrameEnd U_ o_ U2_ L_ ({ frames := 1, cells := 0, slots := 0, locals := 15 } : Room).cells ({ frames := 1, cells := 0, slots := 0, locals := 15 } : Room).slots) := by
  refine MetFree.of_bodySF (plainFor_of_name pn_6) hisR ?_
  intro p e s m args below meth c s₁ Bd hml0 hP hK
  obtain ⟨rfl, hZ, hh⟩ := hP
  have hx := Bd.exec
  have hby := Bd.bytes
  have hml : c.maxLocals = 2 := hml0
  have hown : s.vm.findClass "java/util/ArrayList" = some m.cls := findClass_of_methodNamed Bd.named
  have hnm := (name_of_methodNamed Bd.named Bd.method).1
  have X0 : Stand p l e ({ frames := 1, cells := 0, slots := 0, locals := 15 } : Room) s m #[(.ref a), (.ref xx)] below meth c s₁ [] 0 0 := Stand.of_body Bd
  have e0 : s₁.heap = h0 := by rw [← hh, Bd.state]; rfl
  have N0 := Fr.nil n0
  refine own_go (A := s₁.setTop (mkF m 0 #[.val (.ref a), .val (.ref xx)] [])) (fun t_ k_ => castTop (ef_rmAdd1 m a xx) k_) ?_
  refine own_go (A := s₁.setTop (mkF m 2 #[.val (.ref a), .val (.ref xx)] [(.ref a), (.ref a)])) (fun t_ k_ => ?_) ?_
  · show Steps p.tables e below (s₁.setTop (mkF m 0 #[.val (.ref a), .val (.ref xx)] [])) t_
    refine XS.aloadN X0.here hx rfl (hb hby d10_0) rfl rfl ?_
    show Steps p.tables e below (s₁.setTop (mkF m 1 #[.val (.ref a), .val (.ref xx)] [(.ref a)])) t_
    refine XS.dup X0.here hx rfl (hb hby d10_1) rfl rfl ?_
    exact k_
  obtain ⟨T1, X1, e1, st1⟩ := getF X0 hx hZ hown (host := "") (Or.inl (own_w hw 64 rfl)) (Via.of (own_w hw 65 rfl)) e0 u3 (g := (mkF m 2 #[.val (.ref a), .val (.ref xx)] [(.ref a), (.ref a)])) rfl rfl (hb hby d10_2)
  refine own_go st1 ?_
  refine own_go (A := T1.setTop (mkF m 7 #[.val (.ref a), .val (.ref xx)] [(.int (mc + (1 : Int32))), (.ref a)])) (fun t_ k_ => ?_) ?_
  · show Steps p.tables e below (T1.setTop (mkF m 5 #[.val (.ref a), .val (.ref xx)] [(.int mc), (.ref a)])) t_
    refine XS.iconst X1.here hx rfl (hb hby d10_5) ?_
    show Steps p.tables e below (T1.setTop (mkF m 6 #[.val (.ref a), .val (.ref xx)] [(.int (1 : Int32)), (.int mc), (.ref a)])) t_
    refine XS.iadd X1.here hx rfl (hb hby d10_6) rfl ?_
    exact k_
  obtain ⟨T2, h2, X2, e2, W2, st2⟩ := putF X1 hx hZ hown (host := "") (Or.inl (own_w hw 64 rfl)) (Via.of (own_w hw 65 rfl)) e1 u3 u0 (Or.inl (own_w hw 22 rfl)) (own_w hw 1 rfl) (ty := .int) (by decide) rfl rfl (g := (mkF m 7 #[.val (.ref a), .val (.ref xx)] [(.int (mc + (1 : Int32))), (.ref a)])) rfl rfl (hb hby d10_7)
  have Fw2 : Fld Z h2 a "java/util/AbstractList" "modCount" "I" (.int (mc + (1 : Int32))) := u3.same W2
  refine own_go st2 ?_
  have K2 : Keep h0 h2 [a, ed] := (Keep.refl h0 [a, ed]).wr W2 (Or.inl (List.mem_of_getElem? (i := 0) rfl))
  have N2 := Fr.snoc X2 N0 u6
  refine own_go (A := T2.setTop (mkF m 13 #[.val (.ref a), .val (.ref xx)] [(.ref a), (.ref xx), (.ref a)])) (fun t_ k_ => ?_) ?_
  · show Steps p.tables e below (T2.setTop (mkF m 10 #[.val (.ref a), .val (.ref xx)] [])) t_
    refine XS.aloadN X2.here hx rfl (hb hby d10_10) rfl rfl ?_
    show Steps p.tables e below (T2.setTop (mkF m 11 #[.val (.ref a), .val (.ref xx)] [(.ref a)])) t_
    refine XS.aloadN X2.here hx rfl (hb hby d10_11) rfl rfl ?_
    show Steps p.tables e below (T2.setTop (mkF m 12 #[.val (.ref a), .val (.ref xx)] [(.ref xx), (.ref a)])) t_
    refine XS.aloadN X2.here hx rfl (hb hby d10_12) rfl rfl ?_
    exact k_
  obtain ⟨T3, X3, e3, st3⟩ := getF X2 hx hZ hown (host := "") (Or.inl (own_w hw 24 rfl)) Via.refl e2 (u1.other W2 (Or.inr (slot_ne (Or.inl (own_w hw 25 rfl)) (Or.inl (own_w hw 22 rfl)) (by decide) (t := (.array (.object "java/lang/Object"))) (t' := .int) (by decide) (by decide)))) (g := (mkF m 13 #[.val (.ref a), .val (.ref xx)] [(.ref a), (.ref xx), (.ref a)])) rfl rfl (hb hby d10_13)
  refine own_go st3 ?_
  refine own_go (A := T3.setTop (mkF m 17 #[.val (.ref a), .val (.ref xx)] [(.ref a), (.ref ed), (.ref xx), (.ref a)])) (fun t_ k_ => ?_) ?_
  · show Steps p.tables e below (T3.setTop (mkF m 16 #[.val (.ref a), .val (.ref xx)] [(.ref ed), (.ref xx), (.ref a)])) t_
    refine XS.aloadN X3.here hx rfl (hb hby d10_16) rfl rfl ?_
    exact k_
  obtain ⟨T4, X4, e4, st4⟩ := getF X3 hx hZ hown (host := "") (Or.inl (own_w hw 66 rfl)) Via.refl e3 (u2.other W2 (Or.inr (slot_ne (Or.inl (own_w hw 67 rfl)) (Or.inl (own_w hw 22 rfl)) (by decide) (t := .int) (t' := .int) (by decide) (by decide)))) (g := (mkF m 17 #[.val (.ref a), .val (.ref xx)] [(.ref a), (.ref ed), (.ref xx), (.ref a)])) rfl rfl (hb hby d10_17)
  refine own_go st4 ?_
  obtain ⟨cq5, q5, q5'⟩ := (u0.wr W2).cell
  obtain ⟨_, _, ⟨T5, L5, k5, n5⟩, -, X5, ⟨Lc5, hQ5, l5, y5, z5⟩, st5⟩ := X4.privateBack hx (y := own_y16) hown (mvT hZ (own_w hw 68 rfl)) (mvT hZ (own_w hw 69 rfl)) (mvT hZ (own_w hw 71 rfl)) (Cond.privateMethod_at (mvP hZ (own_w hw 70 rfl) (args := #[]))) (mvT hZ (own_w hw 72 rfl)) (by decide) (backOf (W := 0) (rmAddP1 l Z a0 hw [] a xx ed k (mc + (1 : Int32)) yy0 h2 n0 (Nat.le_trans Z0 K2.1) (u0.wr W2) (u1.other W2 (Or.inr (slot_ne (Or.inl (own_w hw 25 rfl)) (Or.inl (own_w hw 22 rfl)) (by decide) (t := (.array (.object "java/lang/Object"))) (t' := .int) (by decide) (by decide)))) (u2.other W2 (Or.inr (slot_ne (Or.inl (own_w hw 67 rfl)) (Or.inl (own_w hw 22 rfl)) (by decide) (t := .int) (t' := .int) (by decide) (by decide)))) Fw2 (u4.other W2 (Ne.symm u8)) u5 u6 u7 u8 (u9.wr W2)) hZ (own_w hw 72 rfl) (own_w hw 2 rfl) (by decide) (by decide)) (g := (mkF m 20 #[.val (.ref a), .val (.ref xx)] [(.int (1 : Int32)), (.ref ed), (.ref xx), (.ref a)])) rfl (by rw [hml]; rfl) (Steps.refl _) (a := a) (by rw [e4]; exact q5) q5' (argsL := [(.ref xx), (.ref ed), (.int (1 : Int32))]) (rest := []) (lenOf pd_13 rfl) rfl (by show 2 * 0 + _ ≤ _; exact Nat.le_of_eq rfl) (hb hby d10_20) (fun _ _ => ⟨rfl, e4, (by decide : 0 + 0 ≤ _), (by decide : 0 + 0 ≤ _)⟩)
  dsimp only [Pt.U, Pt.locs, Pt.cells, Pt.slots] at X5 l5 y5 z5 st5 hQ5
  subst l5 y5 z5
  obtain ⟨rfl, N5q, Kc5, r5_0, r5_1, r5_2, r5_3⟩ := hQ5
  have N5 := Fr.app N2 N5q
  refine own_via st5 ?_
  have K5 : Keep h0 T5.heap [a, ed] := K2.trans Kc5 (allS (P := fun x => x ∈ _ ∨ _ ≤ x) (Or.inl (List.mem_of_getElem? (i := 0) rfl)) (allS (P := fun x => x ∈ _ ∨ _ ≤ x) (Or.inl (List.mem_of_getElem? (i := 1) rfl)) all0))
  refine own_go (A := T5.setTop (mkF m 24 #[.val (.ref a), .val (.ref xx)] [(.int (1 : Int32))])) (fun t_ k_ => ?_) ?_
  · show Steps p.tables e below (T5.setTop (mkF m 23 #[.val (.ref a), .val (.ref xx)] [])) t_
    refine XS.iconst X5.here hx rfl (hb hby d10_23) ?_
    exact k_
  obtain ⟨fs6, hr6, hrun6, hended6, hW6, hsame6⟩ := X5.leave (v := some (.int (1 : Int32))) (fun h => by rw [Bd.returns] at h; cases h)
  refine ⟨_, _, ?_, hrun6, hended6, _, _, rfl, ?_, ⟨_, rfl⟩, hW6, hsame6.mono (by decide) (by decide)⟩
  · exact retN X5 hx (t := .boolean) Bd.returns (by simp) (hb hby d10_24) hr6
  · show Q_rmAdd1 Z a xx ed k mc yy0 h0 n0 _ T5.heap _
    exact ⟨rfl, N5, K5, r5_0, r5_1, r5_2, r5_3⟩
theorem ef_rmAddP2 (m : MethodId) (a : Addr) (xx : Addr) (ed : Addr) : entryFrame m #[(.ref a), (.ref xx), (.ref ed), (.int (2 : Int32))] 4 = mkF m 0 #[.val (.ref a), .val (.ref xx), .val (.ref ed), .val (.int (2 : Int32))] [] := by first | (simp [entryFrame, mkF, argsToLocals, Value.category]; done) | rfl
def Q_rmAddP2 (Z : State) (a : Addr) (xx : Addr) (ed : Addr) (k : ClassId) (mc : Int32) (yy0 : Addr) (yy1 : Addr) (h0 : Heap) (n0 : Nat) (v_ : Option Value) (h_ : Heap) (L_ : List Loc) : Prop := v_ = none ∧ Fr n0 L_ ∧ Keep h0 h_ [a, ed] ∧ Arv Z h_ ed k (.object "java/lang/Object") (10 : Int32) [(.ref yy0), (.ref yy1), (.ref xx), .null, .null, .null, .null, .null, .null, .null] .null ∧ Fld Z h_ a "java/util/ArrayList" "elementData" "[Ljava/lang/Object;" (.ref ed) ∧ Fld Z h_ a "java/util/ArrayList" "size" "I" (.int (3 : Int32)) ∧ Fld Z h_ a "java/util/AbstractList" "modCount" "I" (.int mc)
set_option maxRecDepth 65536 in
set_option maxHeartbeats 40000000 in
theorem rmAddP2 (l : Launch) (Z : State) (a0 : Array Value) (hw : ∀ d ∈ tables_1, d.before a0 Z = true) (ws : List Jvm.Cond) (a : Addr) (xx : Addr) (ed : Addr) (k : ClassId) (mc : Int32) (yy0 : Addr) (yy1 : Addr) (h0 : Heap) (n0 : Nat) (Z0 : n0 ≤ h0.size) (u0 : Exa Z h0 a "java/util/ArrayList") (u1 : Fld Z h0 a "java/util/ArrayList" "elementData" "[Ljava/lang/Object;" (.ref ed)) (u2 : Fld Z h0 a "java/util/ArrayList" "size" "I" (.int (2 : Int32))) (u3 : Fld Z h0 a "java/util/AbstractList" "modCount" "I" (.int mc)) (u4 : Arv Z h0 ed k (.object "java/lang/Object") (10 : Int32) [(.ref yy0), (.ref yy1), .null, .null, .null, .null, .null, .null, .null, .null] .null) (u5 : Ovr Z k "java/lang/Object") (u6 : n0 ≤ a) (u7 : n0 ≤ ed) (u8 : a ≠ ed) (u9 : Exa Z h0 xx "java/lang/Integer") :
    MetFree l own_y16 (head1 (Jvm.Cond.code own_y16 jdk_38_method_24_code 4 none :: ws) ({ frames := 0, cells := 0, slots := 0, locals := 0 } : Room)) (fun a_ U_ => a_ = #[(.ref a), (.ref xx), (.ref ed), (.int (2 : Int32))] ∧ Z.Warmed39 U_.vm ∧ U_.heap = h0) (fun _ _ _ _ _ => True) (fun _ U_ o_ U2_ => ∃ v_ L_, o_ = .returned v_ ∧ Q_rmAddP2 Z a xx ed k mc yy0 yy1 h0 n0 v_ U2_.heap L_ ∧ FrameEnd U_ o_ U2_ L_ ({ frames := 0, cells := 0, slots := 0, locals := 0 } : Room).cells ({ frames := 0, cells := 0, slots := 0, locals := 0 } : Room).slots) := by
  refine MetFree.of_bodySF (plainFor_of_name pn_6) hisR ?_
  intro p e s m args below meth c s₁ Bd hml0 hP hK
  obtain ⟨rfl, hZ, hh⟩ := hP
  have hx := Bd.exec
  have hby := Bd.bytes
  have hml : c.maxLocals = 4 := hml0
  have hown : s.vm.findClass "java/util/ArrayList" = some m.cls := findClass_of_methodNamed Bd.named
  have hnm := (name_of_methodNamed Bd.named Bd.method).1
  have X0 : Stand p l e ({ frames := 0, cells := 0, slots := 0, locals := 0 } : Room) s m #[(.ref a), (.ref xx), (.ref ed), (.int (2 : Int32))] below meth c s₁ [] 0 0 := Stand.of_body Bd
  have e0 : s₁.heap = h0 := by rw [← hh, Bd.state]; rfl
  have N0 := Fr.nil n0
  refine own_go (A := s₁.setTop (mkF m 0 #[.val (.ref a), .val (.ref xx), .val (.ref ed), .val (.int (2 : Int32))] [])) (fun t_ k_ => castTop (ef_rmAddP2 m a xx ed) k_) ?_
  obtain ⟨cl1, Ar1, q1, S1, M1, H1, G1⟩ := id u4
  refine own_go (A := s₁.setTop (mkF m 14 #[.val (.ref a), .val (.ref xx), .val (.ref ed), .val (.int (2 : Int32))] [(.ref xx), (.int (2 : Int32)), (.ref ed)])) (fun t_ k_ => ?_) ?_
  · show Steps p.tables e below (s₁.setTop (mkF m 0 #[.val (.ref a), .val (.ref xx), .val (.ref ed), .val (.int (2 : Int32))] [])) t_
    refine XS.iloadN X0.here hx rfl (hb hby d11_0) rfl ?_
    show Steps p.tables e below (s₁.setTop (mkF m 1 #[.val (.ref a), .val (.ref xx), .val (.ref ed), .val (.int (2 : Int32))] [(.int (2 : Int32))])) t_
    refine XS.aloadN X0.here hx rfl (hb hby d11_1) rfl rfl ?_
    show Steps p.tables e below (s₁.setTop (mkF m 2 #[.val (.ref a), .val (.ref xx), .val (.ref ed), .val (.int (2 : Int32))] [(.ref ed), (.int (2 : Int32))])) t_
    refine X0.arraylength hx (by rw [e0]; exact Ar1.1) (State.isArrayOf_alike hZ.alike Ar1.2.1) (g := (mkF m 2 #[.val (.ref a), .val (.ref xx), .val (.ref ed), .val (.int (2 : Int32))] [(.ref ed), (.int (2 : Int32))])) rfl rfl (hb hby d11_2) _ ?_
    rw [len_of S1 M1]
    show Steps p.tables e below (s₁.setTop (mkF m 3 #[.val (.ref a), .val (.ref xx), .val (.ref ed), .val (.int (2 : Int32))] [(.int (10 : Int32)), (.int (2 : Int32))])) t_
    refine XS.icmpYes X0.here hx rfl (pc0 := 3) (pc' := 11) rfl (hb hby d11_3) rfl (feq (by decide : ¬ ((2 : Int32) = (10 : Int32)))).2 (by decide) (by decide) ?_
    show Steps p.tables e below (s₁.setTop (mkF m 11 #[.val (.ref a), .val (.ref xx), .val (.ref ed), .val (.int (2 : Int32))] [])) t_
    refine XS.aloadN X0.here hx rfl (hb hby d11_11) rfl rfl ?_
    show Steps p.tables e below (s₁.setTop (mkF m 12 #[.val (.ref a), .val (.ref xx), .val (.ref ed), .val (.int (2 : Int32))] [(.ref ed)])) t_
    refine XS.iloadN X0.here hx rfl (hb hby d11_12) rfl ?_
    show Steps p.tables e below (s₁.setTop (mkF m 13 #[.val (.ref a), .val (.ref xx), .val (.ref ed), .val (.int (2 : Int32))] [(.int (2 : Int32)), (.ref ed)])) t_
    refine XS.aloadN X0.here hx rfl (hb hby d11_13) rfl rfl ?_
    exact k_
  obtain ⟨cl2, Ar2, q2, S2, M2, H2, G2⟩ := id u4
  have hin2 : ¬ ((2 : Int32) < 0 ∨ cl2.slots.size ≤ ((2 : Int32)).toNatClampNeg) := inb_of S2 ⟨by decide, by decide⟩
  obtain ⟨T3, h3, X3, e3, W3, st3⟩ := stR X0 hx hZ e0 Ar2 (j := (2 : Int32)) hin2 rfl (Sto.ofV Ar2 q2 u5 (Ins.of_exa u9 (own_w hw 89 rfl))) (g := (mkF m 14 #[.val (.ref a), .val (.ref xx), .val (.ref ed), .val (.int (2 : Int32))] [(.ref xx), (.int (2 : Int32)), (.ref ed)])) rfl rfl (hb hby d11_14)
  have B3 : Arv Z h3 ed k (.object "java/lang/Object") (10 : Int32) [(.ref yy0), (.ref yy1), (.ref xx), .null, .null, .null, .null, .null, .null, .null] .null := Arv.set Ar2 q2 S2 M2 H2 G2 rfl W3 2 rfl (Nat.le_of_ble_eq_true rfl)
  refine own_go st3 ?_
  have K3 : Keep h0 h3 [a, ed] := (Keep.refl h0 [a, ed]).wr W3 (Or.inl (List.mem_of_getElem? (i := 1) rfl))
  have N3 := Fr.snoc X3 N0 u7
  refine own_go (A := T3.setTop (mkF m 19 #[.val (.ref a), .val (.ref xx), .val (.ref ed), .val (.int (2 : Int32))] [(.int (3 : Int32)), (.ref a)])) (fun t_ k_ => ?_) ?_
  · show Steps p.tables e below (T3.setTop (mkF m 15 #[.val (.ref a), .val (.ref xx), .val (.ref ed), .val (.int (2 : Int32))] [])) t_
    refine XS.aloadN X3.here hx rfl (hb hby d11_15) rfl rfl ?_
    show Steps p.tables e below (T3.setTop (mkF m 16 #[.val (.ref a), .val (.ref xx), .val (.ref ed), .val (.int (2 : Int32))] [(.ref a)])) t_
    refine XS.iloadN X3.here hx rfl (hb hby d11_16) rfl ?_
    show Steps p.tables e below (T3.setTop (mkF m 17 #[.val (.ref a), .val (.ref xx), .val (.ref ed), .val (.int (2 : Int32))] [(.int (2 : Int32)), (.ref a)])) t_
    refine XS.iconst X3.here hx rfl (hb hby d11_17) ?_
    show Steps p.tables e below (T3.setTop (mkF m 18 #[.val (.ref a), .val (.ref xx), .val (.ref ed), .val (.int (2 : Int32))] [(.int (1 : Int32)), (.int (2 : Int32)), (.ref a)])) t_
    refine XS.iadd X3.here hx rfl (hb hby d11_18) rfl ?_
    exact k_
  obtain ⟨T4, h4, X4, e4, W4, st4⟩ := putF X3 hx hZ hown (host := "") (Or.inl (own_w hw 66 rfl)) Via.refl e3 (u2.other W3 (Or.inl u8)) (u0.wr W3) (Or.inl (own_w hw 67 rfl)) (own_w hw 1 rfl) (ty := .int) (by decide) rfl rfl (g := (mkF m 19 #[.val (.ref a), .val (.ref xx), .val (.ref ed), .val (.int (2 : Int32))] [(.int (3 : Int32)), (.ref a)])) rfl rfl (hb hby d11_19)
  have Fw4 : Fld Z h4 a "java/util/ArrayList" "size" "I" (.int (3 : Int32)) := (u2.other W3 (Or.inl u8)).same W4
  refine own_go st4 ?_
  have K4 : Keep h0 h4 [a, ed] := K3.wr W4 (Or.inl (List.mem_of_getElem? (i := 0) rfl))
  have N4 := Fr.snoc X4 N3 u6
  obtain ⟨fs5, hr5, hrun5, hended5, hW5, hsame5⟩ := X4.leave (v := none) (fun _ => rfl)
  refine ⟨_, _, ?_, hrun5, hended5, _, _, rfl, ?_, ⟨_, rfl⟩, hW5, hsame5.mono (by decide) (by decide)⟩
  · exact X4.returnOut hx Bd.returns (hb hby d11_22) hr5
  · show Q_rmAddP2 Z a xx ed k mc yy0 yy1 h0 n0 _ T4.heap _
    rw [e4]
    exact ⟨rfl, N4, K4, (B3.other W4 (Ne.symm u8)), ((u1.other W3 (Or.inl u8)).other W4 (Or.inr (slot_ne (Or.inl (own_w hw 25 rfl)) (Or.inl (own_w hw 67 rfl)) (by decide) (t := (.array (.object "java/lang/Object"))) (t' := .int) (by decide) (by decide)))), Fw4, ((u3.other W3 (Or.inl u8)).other W4 (Or.inr (slot_ne (Or.inl (own_w hw 22 rfl)) (Or.inl (own_w hw 67 rfl)) (by decide) (t := .int) (t' := .int) (by decide) (by decide))))⟩
theorem ef_rmAdd2 (m : MethodId) (a : Addr) (xx : Addr) : entryFrame m #[(.ref a), (.ref xx)] 2 = mkF m 0 #[.val (.ref a), .val (.ref xx)] [] := by first | (simp [entryFrame, mkF, argsToLocals, Value.category]; done) | rfl
def Q_rmAdd2 (Z : State) (a : Addr) (xx : Addr) (ed : Addr) (k : ClassId) (mc : Int32) (yy0 : Addr) (yy1 : Addr) (h0 : Heap) (n0 : Nat) (v_ : Option Value) (h_ : Heap) (L_ : List Loc) : Prop := v_ = some (.int (1 : Int32)) ∧ Fr n0 L_ ∧ Keep h0 h_ [a, ed] ∧ Arv Z h_ ed k (.object "java/lang/Object") (10 : Int32) [(.ref yy0), (.ref yy1), (.ref xx), .null, .null, .null, .null, .null, .null, .null] .null ∧ Fld Z h_ a "java/util/ArrayList" "elementData" "[Ljava/lang/Object;" (.ref ed) ∧ Fld Z h_ a "java/util/ArrayList" "size" "I" (.int (3 : Int32)) ∧ Fld Z h_ a "java/util/AbstractList" "modCount" "I" (.int (mc + (1 : Int32)))
set_option maxRecDepth 65536 in
set_option maxHeartbeats 40000000 in
theorem rmAdd2 (l : Launch) (Z : State) (a0 : Array Value) (hw : ∀ d ∈ tables_1, d.before a0 Z = true) (ws : List Jvm.Cond) (a : Addr) (xx : Addr) (ed : Addr) (k : ClassId) (mc : Int32) (yy0 : Addr) (yy1 : Addr) (h0 : Heap) (n0 : Nat) (Z0 : n0 ≤ h0.size) (u0 : Exa Z h0 a "java/util/ArrayList") (u1 : Fld Z h0 a "java/util/ArrayList" "elementData" "[Ljava/lang/Object;" (.ref ed)) (u2 : Fld Z h0 a "java/util/ArrayList" "size" "I" (.int (2 : Int32))) (u3 : Fld Z h0 a "java/util/AbstractList" "modCount" "I" (.int mc)) (u4 : Arv Z h0 ed k (.object "java/lang/Object") (10 : Int32) [(.ref yy0), (.ref yy1), .null, .null, .null, .null, .null, .null, .null, .null] .null) (u5 : Ovr Z k "java/lang/Object") (u6 : n0 ≤ a) (u7 : n0 ≤ ed) (u8 : a ≠ ed) (u9 : Exa Z h0 xx "java/lang/Integer") :
    MetFree l own_y17 (head1 (Jvm.Cond.code own_y17 jdk_38_method_25_code 2 (some .boolean) :: ws) ({ frames := 1, cells := 0, slots := 0, locals := 15 } : Room)) (fun a_ U_ => a_ = #[(.ref a), (.ref xx)] ∧ Z.Warmed39 U_.vm ∧ U_.heap = h0) (fun _ _ _ _ _ => True) (fun _ U_ o_ U2_ => ∃ v_ L_, o_ = .returned v_ ∧ Q_rmAdd2 Z a xx ed k mc yy0 yy1 h0 n0 v_ U2_.heap L_ ∧ FrameEnd U_ o_ U2_ L_ ({ frames := 1, cells := 0, slots := 0, locals := 15 } : Room).cells ({ frames := 1, cells := 0, slots := 0, locals := 15 } : Room).slots) := by
  refine MetFree.of_bodySF (plainFor_of_name pn_6) hisR ?_
  intro p e s m args below meth c s₁ Bd hml0 hP hK
  obtain ⟨rfl, hZ, hh⟩ := hP
  have hx := Bd.exec
  have hby := Bd.bytes
  have hml : c.maxLocals = 2 := hml0
  have hown : s.vm.findClass "java/util/ArrayList" = some m.cls := findClass_of_methodNamed Bd.named
  have hnm := (name_of_methodNamed Bd.named Bd.method).1
  have X0 : Stand p l e ({ frames := 1, cells := 0, slots := 0, locals := 15 } : Room) s m #[(.ref a), (.ref xx)] below meth c s₁ [] 0 0 := Stand.of_body Bd
  have e0 : s₁.heap = h0 := by rw [← hh, Bd.state]; rfl
  have N0 := Fr.nil n0
  refine own_go (A := s₁.setTop (mkF m 0 #[.val (.ref a), .val (.ref xx)] [])) (fun t_ k_ => castTop (ef_rmAdd2 m a xx) k_) ?_
  refine own_go (A := s₁.setTop (mkF m 2 #[.val (.ref a), .val (.ref xx)] [(.ref a), (.ref a)])) (fun t_ k_ => ?_) ?_
  · show Steps p.tables e below (s₁.setTop (mkF m 0 #[.val (.ref a), .val (.ref xx)] [])) t_
    refine XS.aloadN X0.here hx rfl (hb hby d10_0) rfl rfl ?_
    show Steps p.tables e below (s₁.setTop (mkF m 1 #[.val (.ref a), .val (.ref xx)] [(.ref a)])) t_
    refine XS.dup X0.here hx rfl (hb hby d10_1) rfl rfl ?_
    exact k_
  obtain ⟨T1, X1, e1, st1⟩ := getF X0 hx hZ hown (host := "") (Or.inl (own_w hw 64 rfl)) (Via.of (own_w hw 65 rfl)) e0 u3 (g := (mkF m 2 #[.val (.ref a), .val (.ref xx)] [(.ref a), (.ref a)])) rfl rfl (hb hby d10_2)
  refine own_go st1 ?_
  refine own_go (A := T1.setTop (mkF m 7 #[.val (.ref a), .val (.ref xx)] [(.int (mc + (1 : Int32))), (.ref a)])) (fun t_ k_ => ?_) ?_
  · show Steps p.tables e below (T1.setTop (mkF m 5 #[.val (.ref a), .val (.ref xx)] [(.int mc), (.ref a)])) t_
    refine XS.iconst X1.here hx rfl (hb hby d10_5) ?_
    show Steps p.tables e below (T1.setTop (mkF m 6 #[.val (.ref a), .val (.ref xx)] [(.int (1 : Int32)), (.int mc), (.ref a)])) t_
    refine XS.iadd X1.here hx rfl (hb hby d10_6) rfl ?_
    exact k_
  obtain ⟨T2, h2, X2, e2, W2, st2⟩ := putF X1 hx hZ hown (host := "") (Or.inl (own_w hw 64 rfl)) (Via.of (own_w hw 65 rfl)) e1 u3 u0 (Or.inl (own_w hw 22 rfl)) (own_w hw 1 rfl) (ty := .int) (by decide) rfl rfl (g := (mkF m 7 #[.val (.ref a), .val (.ref xx)] [(.int (mc + (1 : Int32))), (.ref a)])) rfl rfl (hb hby d10_7)
  have Fw2 : Fld Z h2 a "java/util/AbstractList" "modCount" "I" (.int (mc + (1 : Int32))) := u3.same W2
  refine own_go st2 ?_
  have K2 : Keep h0 h2 [a, ed] := (Keep.refl h0 [a, ed]).wr W2 (Or.inl (List.mem_of_getElem? (i := 0) rfl))
  have N2 := Fr.snoc X2 N0 u6
  refine own_go (A := T2.setTop (mkF m 13 #[.val (.ref a), .val (.ref xx)] [(.ref a), (.ref xx), (.ref a)])) (fun t_ k_ => ?_) ?_
  · show Steps p.tables e below (T2.setTop (mkF m 10 #[.val (.ref a), .val (.ref xx)] [])) t_
    refine XS.aloadN X2.here hx rfl (hb hby d10_10) rfl rfl ?_
    show Steps p.tables e below (T2.setTop (mkF m 11 #[.val (.ref a), .val (.ref xx)] [(.ref a)])) t_
    refine XS.aloadN X2.here hx rfl (hb hby d10_11) rfl rfl ?_
    show Steps p.tables e below (T2.setTop (mkF m 12 #[.val (.ref a), .val (.ref xx)] [(.ref xx), (.ref a)])) t_
    refine XS.aloadN X2.here hx rfl (hb hby d10_12) rfl rfl ?_
    exact k_
  obtain ⟨T3, X3, e3, st3⟩ := getF X2 hx hZ hown (host := "") (Or.inl (own_w hw 24 rfl)) Via.refl e2 (u1.other W2 (Or.inr (slot_ne (Or.inl (own_w hw 25 rfl)) (Or.inl (own_w hw 22 rfl)) (by decide) (t := (.array (.object "java/lang/Object"))) (t' := .int) (by decide) (by decide)))) (g := (mkF m 13 #[.val (.ref a), .val (.ref xx)] [(.ref a), (.ref xx), (.ref a)])) rfl rfl (hb hby d10_13)
  refine own_go st3 ?_
  refine own_go (A := T3.setTop (mkF m 17 #[.val (.ref a), .val (.ref xx)] [(.ref a), (.ref ed), (.ref xx), (.ref a)])) (fun t_ k_ => ?_) ?_
  · show Steps p.tables e below (T3.setTop (mkF m 16 #[.val (.ref a), .val (.ref xx)] [(.ref ed), (.ref xx), (.ref a)])) t_
    refine XS.aloadN X3.here hx rfl (hb hby d10_16) rfl rfl ?_
    exact k_
  obtain ⟨T4, X4, e4, st4⟩ := getF X3 hx hZ hown (host := "") (Or.inl (own_w hw 66 rfl)) Via.refl e3 (u2.other W2 (Or.inr (slot_ne (Or.inl (own_w hw 67 rfl)) (Or.inl (own_w hw 22 rfl)) (by decide) (t := .int) (t' := .int) (by decide) (by decide)))) (g := (mkF m 17 #[.val (.ref a), .val (.ref xx)] [(.ref a), (.ref ed), (.ref xx), (.ref a)])) rfl rfl (hb hby d10_17)
  refine own_go st4 ?_
  obtain ⟨cq5, q5, q5'⟩ := (u0.wr W2).cell
  obtain ⟨_, _, ⟨T5, L5, k5, n5⟩, -, X5, ⟨Lc5, hQ5, l5, y5, z5⟩, st5⟩ := X4.privateBack hx (y := own_y16) hown (mvT hZ (own_w hw 68 rfl)) (mvT hZ (own_w hw 69 rfl)) (mvT hZ (own_w hw 71 rfl)) (Cond.privateMethod_at (mvP hZ (own_w hw 70 rfl) (args := #[]))) (mvT hZ (own_w hw 72 rfl)) (by decide) (backOf (W := 0) (rmAddP2 l Z a0 hw [] a xx ed k (mc + (1 : Int32)) yy0 yy1 h2 n0 (Nat.le_trans Z0 K2.1) (u0.wr W2) (u1.other W2 (Or.inr (slot_ne (Or.inl (own_w hw 25 rfl)) (Or.inl (own_w hw 22 rfl)) (by decide) (t := (.array (.object "java/lang/Object"))) (t' := .int) (by decide) (by decide)))) (u2.other W2 (Or.inr (slot_ne (Or.inl (own_w hw 67 rfl)) (Or.inl (own_w hw 22 rfl)) (by decide) (t := .int) (t' := .int) (by decide) (by decide)))) Fw2 (u4.other W2 (Ne.symm u8)) u5 u6 u7 u8 (u9.wr W2)) hZ (own_w hw 72 rfl) (own_w hw 2 rfl) (by decide) (by decide)) (g := (mkF m 20 #[.val (.ref a), .val (.ref xx)] [(.int (2 : Int32)), (.ref ed), (.ref xx), (.ref a)])) rfl (by rw [hml]; rfl) (Steps.refl _) (a := a) (by rw [e4]; exact q5) q5' (argsL := [(.ref xx), (.ref ed), (.int (2 : Int32))]) (rest := []) (lenOf pd_13 rfl) rfl (by show 2 * 0 + _ ≤ _; exact Nat.le_of_eq rfl) (hb hby d10_20) (fun _ _ => ⟨rfl, e4, (by decide : 0 + 0 ≤ _), (by decide : 0 + 0 ≤ _)⟩)
  dsimp only [Pt.U, Pt.locs, Pt.cells, Pt.slots] at X5 l5 y5 z5 st5 hQ5
  subst l5 y5 z5
  obtain ⟨rfl, N5q, Kc5, r5_0, r5_1, r5_2, r5_3⟩ := hQ5
  have N5 := Fr.app N2 N5q
  refine own_via st5 ?_
  have K5 : Keep h0 T5.heap [a, ed] := K2.trans Kc5 (allS (P := fun x => x ∈ _ ∨ _ ≤ x) (Or.inl (List.mem_of_getElem? (i := 0) rfl)) (allS (P := fun x => x ∈ _ ∨ _ ≤ x) (Or.inl (List.mem_of_getElem? (i := 1) rfl)) all0))
  refine own_go (A := T5.setTop (mkF m 24 #[.val (.ref a), .val (.ref xx)] [(.int (1 : Int32))])) (fun t_ k_ => ?_) ?_
  · show Steps p.tables e below (T5.setTop (mkF m 23 #[.val (.ref a), .val (.ref xx)] [])) t_
    refine XS.iconst X5.here hx rfl (hb hby d10_23) ?_
    exact k_
  obtain ⟨fs6, hr6, hrun6, hended6, hW6, hsame6⟩ := X5.leave (v := some (.int (1 : Int32))) (fun h => by rw [Bd.returns] at h; cases h)
  refine ⟨_, _, ?_, hrun6, hended6, _, _, rfl, ?_, ⟨_, rfl⟩, hW6, hsame6.mono (by decide) (by decide)⟩
  · exact retN X5 hx (t := .boolean) Bd.returns (by simp) (hb hby d10_24) hr6
  · show Q_rmAdd2 Z a xx ed k mc yy0 yy1 h0 n0 _ T5.heap _
    exact ⟨rfl, N5, K5, r5_0, r5_1, r5_2, r5_3⟩
def own_bval (j : Int32) : Value := .int (j - 128)
theorem own_ci {i : Int32} (h1 : ¬ (i < (-128 : Int32))) (h2 : ¬ ((127 : Int32) < i)) : ¬ (i + (128 : Int32)) < 0 ∧ (i + (128 : Int32)) < (256 : Int32) := by
  simp only [Int32.lt_iff_toInt_lt] at *
  have h3 := c_iadd i 128
  have h4 := rng32 (i + 128)
  simp only [show ((-128 : Int32).toInt) = -128 from by decide, show ((127 : Int32).toInt) = 127 from by decide, show ((128 : Int32).toInt) = 128 from by decide, show ((0 : Int32).toInt) = 0 from by decide, show ((256 : Int32).toInt) = 256 from by decide] at *
  omega
theorem own_cj {i : Int32} : (i + (128 : Int32)) - 128 = i := by
  apply Int32.toBitVec_inj.mp; simp
theorem d16_0 : decode jdk_18_method_1_code 0 = .ok (.aload_n 0, 1) := by decide +kernel
theorem d16_1 : decode jdk_18_method_1_code 1 = .ok (.invokespecial 1, 3) := by decide +kernel
theorem d16_4 : decode jdk_18_method_1_code 4 = .ok (.return_, 1) := by decide +kernel
abbrev own_y18 : MethodName := ⟨"java/lang/Number", "<init>", "()V"⟩
theorem ef_rmNum (m : MethodId) (a : Addr) : entryFrame m #[(.ref a)] 1 = mkF m 0 #[.val (.ref a)] [] := by first | (simp [entryFrame, mkF, argsToLocals, Value.category]; done) | rfl
def Q_rmNum (Z : State) (a : Addr) (h0 : Heap) (n0 : Nat) (v_ : Option Value) (h_ : Heap) (L_ : List Loc) : Prop := v_ = none ∧ Fr n0 L_ ∧ h_ = h0
theorem pn_7 : plainName "java/lang/Number" = true := by first | (simp [plainName, overriddenIn]; done) | decide +kernel
set_option maxRecDepth 65536 in
set_option maxHeartbeats 40000000 in
theorem rmNum (l : Launch) (Z : State) (a0 : Array Value) (hw : ∀ d ∈ tables_1, d.before a0 Z = true) (ws : List Jvm.Cond) (a : Addr) (h0 : Heap) (n0 : Nat) (Z0 : n0 ≤ h0.size)  :
    MetFree l own_y18 (head1 (Jvm.Cond.code own_y18 jdk_18_method_1_code 1 none :: ws) ({ frames := 1, cells := 0, slots := 0, locals := 12 } : Room)) (fun a_ U_ => a_ = #[(.ref a)] ∧ Z.Warmed39 U_.vm ∧ U_.heap = h0) (fun _ _ _ _ _ => True) (fun _ U_ o_ U2_ => ∃ v_ L_, o_ = .returned v_ ∧ Q_rmNum Z a h0 n0 v_ U2_.heap L_ ∧ FrameEnd U_ o_ U2_ L_ ({ frames := 1, cells := 0, slots := 0, locals := 12 } : Room).cells ({ frames := 1, cells := 0, slots := 0, locals := 12 } : Room).slots) := by
  refine MetFree.of_bodySF (plainFor_of_name pn_7) hisR ?_
  intro p e s m args below meth c s₁ Bd hml0 hP hK
  obtain ⟨rfl, hZ, hh⟩ := hP
  have hx := Bd.exec
  have hby := Bd.bytes
  have hml : c.maxLocals = 1 := hml0
  have hown : s.vm.findClass "java/lang/Number" = some m.cls := findClass_of_methodNamed Bd.named
  have hnm := (name_of_methodNamed Bd.named Bd.method).1
  have X0 : Stand p l e ({ frames := 1, cells := 0, slots := 0, locals := 12 } : Room) s m #[(.ref a)] below meth c s₁ [] 0 0 := Stand.of_body Bd
  have e0 : s₁.heap = h0 := by rw [← hh, Bd.state]; rfl
  have N0 := Fr.nil n0
  refine own_go (A := s₁.setTop (mkF m 0 #[.val (.ref a)] [])) (fun t_ k_ => castTop (ef_rmNum m a) k_) ?_
  refine own_go (A := s₁.setTop (mkF m 1 #[.val (.ref a)] [(.ref a)])) (fun t_ k_ => ?_) ?_
  · show Steps p.tables e below (s₁.setTop (mkF m 0 #[.val (.ref a)] [])) t_
    refine XS.aloadN X0.here hx rfl (hb hby d16_0) rfl rfl ?_
    exact k_
  obtain ⟨T1, X1, e1, st1⟩ := initO X0 hx hZ hown (own_w hw 102 rfl) (own_w hw 19 rfl) (own_w hw 20 rfl) e0 (g := (mkF m 1 #[.val (.ref a)] [(.ref a)])) rfl (by rw [hml]; rfl) rfl (hb hby d16_1) (by decide) (W := 0) (by show 2 * 0 + _ ≤ _; exact Nat.le_of_eq rfl) (by decide)
  refine own_go st1 ?_
  obtain ⟨fs2, hr2, hrun2, hended2, hW2, hsame2⟩ := X1.leave (v := none) (fun _ => rfl)
  refine ⟨_, _, ?_, hrun2, hended2, _, _, rfl, ?_, ⟨_, rfl⟩, hW2, hsame2.mono (by decide) (by decide)⟩
  · exact X1.returnOut hx Bd.returns (hb hby d16_4) hr2
  · show Q_rmNum Z a h0 n0 _ T1.heap _
    rw [e1]
    exact ⟨rfl, N0, rfl⟩
theorem d15_0 : decode jdk_33_method_23_code 0 = .ok (.aload_n 0, 1) := by decide +kernel
theorem d15_1 : decode jdk_33_method_23_code 1 = .ok (.invokespecial 202, 3) := by decide +kernel
theorem d15_4 : decode jdk_33_method_23_code 4 = .ok (.aload_n 0, 1) := by decide +kernel
theorem d15_5 : decode jdk_33_method_23_code 5 = .ok (.iload_n 1, 1) := by decide +kernel
theorem d15_6 : decode jdk_33_method_23_code 6 = .ok (.putfield 205, 3) := by decide +kernel
theorem d15_9 : decode jdk_33_method_23_code 9 = .ok (.return_, 1) := by decide +kernel
abbrev own_y19 : MethodName := ⟨"java/lang/Integer", "<init>", "(I)V"⟩
theorem ef_rmInt (m : MethodId) (a : Addr) (i : Int32) : entryFrame m #[(.ref a), (.int i)] 2 = mkF m 0 #[.val (.ref a), .val (.int i)] [] := by first | (simp [entryFrame, mkF, argsToLocals, Value.category]; done) | rfl
def Q_rmInt (Z : State) (a : Addr) (i : Int32) (h0 : Heap) (n0 : Nat) (v_ : Option Value) (h_ : Heap) (L_ : List Loc) : Prop := v_ = none ∧ Fr n0 L_ ∧ Keep h0 h_ [a] ∧ Fld Z h_ a "java/lang/Integer" "value" "I" (.int i)
theorem pn_8 : plainName "java/lang/Integer" = true := by first | (simp [plainName, overriddenIn]; done) | decide +kernel
set_option maxRecDepth 65536 in
set_option maxHeartbeats 40000000 in
theorem rmInt (l : Launch) (Z : State) (a0 : Array Value) (hw : ∀ d ∈ tables_1, d.before a0 Z = true) (ws : List Jvm.Cond) (a : Addr) (i : Int32) (h0 : Heap) (n0 : Nat) (Z0 : n0 ≤ h0.size) (u0 : Exa Z h0 a "java/lang/Integer") (u1 : Fld Z h0 a "java/lang/Integer" "value" "I" (.int (0 : Int32))) (u2 : n0 ≤ a) :
    MetFree l own_y19 (head1 (Jvm.Cond.code own_y19 jdk_33_method_23_code 2 none :: ws) ({ frames := 2, cells := 0, slots := 0, locals := 24 } : Room)) (fun a_ U_ => a_ = #[(.ref a), (.int i)] ∧ Z.Warmed39 U_.vm ∧ U_.heap = h0) (fun _ _ _ _ _ => True) (fun _ U_ o_ U2_ => ∃ v_ L_, o_ = .returned v_ ∧ Q_rmInt Z a i h0 n0 v_ U2_.heap L_ ∧ FrameEnd U_ o_ U2_ L_ ({ frames := 2, cells := 0, slots := 0, locals := 24 } : Room).cells ({ frames := 2, cells := 0, slots := 0, locals := 24 } : Room).slots) := by
  refine MetFree.of_bodySF (plainFor_of_name pn_8) hisR ?_
  intro p e s m args below meth c s₁ Bd hml0 hP hK
  obtain ⟨rfl, hZ, hh⟩ := hP
  have hx := Bd.exec
  have hby := Bd.bytes
  have hml : c.maxLocals = 2 := hml0
  have hown : s.vm.findClass "java/lang/Integer" = some m.cls := findClass_of_methodNamed Bd.named
  have hnm := (name_of_methodNamed Bd.named Bd.method).1
  have X0 : Stand p l e ({ frames := 2, cells := 0, slots := 0, locals := 24 } : Room) s m #[(.ref a), (.int i)] below meth c s₁ [] 0 0 := Stand.of_body Bd
  have e0 : s₁.heap = h0 := by rw [← hh, Bd.state]; rfl
  have N0 := Fr.nil n0
  refine own_go (A := s₁.setTop (mkF m 0 #[.val (.ref a), .val (.int i)] [])) (fun t_ k_ => castTop (ef_rmInt m a i) k_) ?_
  refine own_go (A := s₁.setTop (mkF m 1 #[.val (.ref a), .val (.int i)] [(.ref a)])) (fun t_ k_ => ?_) ?_
  · show Steps p.tables e below (s₁.setTop (mkF m 0 #[.val (.ref a), .val (.int i)] [])) t_
    refine XS.aloadN X0.here hx rfl (hb hby d15_0) rfl rfl ?_
    exact k_
  obtain ⟨_, _, ⟨T1, L1, k1, n1⟩, -, X1, ⟨Lc1, hQ1, l1, y1, z1⟩, st1⟩ := X0.specialBack hx (y := own_y18) rfl hown (mvT hZ (own_w hw 96 rfl)) (mvT hZ (own_w hw 97 rfl)) (mvT hZ (own_w hw 101 rfl)) (by decide) (backOf (W := 0) (rmNum l Z a0 hw [] a h0 n0 Z0) hZ (own_w hw 101 rfl) (own_w hw 100 rfl) (by decide) (by decide)) (g := (mkF m 1 #[.val (.ref a), .val (.int i)] [(.ref a)])) rfl (by rw [hml]; rfl) (Steps.refl _) (a := a) (argsL := []) (rest := []) (lenOf pd_9 rfl) rfl (by show 2 * 0 + _ ≤ _; exact Nat.le_of_eq rfl) (hb hby d15_1) (fun _ _ => ⟨rfl, e0, (by decide : 0 + 0 ≤ _), (by decide : 0 + 0 ≤ _)⟩)
  dsimp only [Pt.U, Pt.locs, Pt.cells, Pt.slots] at X1 l1 y1 z1 st1 hQ1
  subst l1 y1 z1
  obtain ⟨rfl, N1q, eh1⟩ := hQ1
  have N1 := Fr.app N0 N1q
  refine own_via st1 ?_
  refine own_go (A := T1.setTop (mkF m 6 #[.val (.ref a), .val (.int i)] [(.int i), (.ref a)])) (fun t_ k_ => ?_) ?_
  · show Steps p.tables e below (T1.setTop (mkF m 4 #[.val (.ref a), .val (.int i)] [])) t_
    refine XS.aloadN X1.here hx rfl (hb hby d15_4) rfl rfl ?_
    show Steps p.tables e below (T1.setTop (mkF m 5 #[.val (.ref a), .val (.int i)] [(.ref a)])) t_
    refine XS.iloadN X1.here hx rfl (hb hby d15_5) rfl ?_
    exact k_
  obtain ⟨T2, h2, X2, e2, W2, st2⟩ := putF X1 hx hZ hown (host := "") (Or.inl (own_w hw 103 rfl)) Via.refl eh1 u1 u0 (Or.inr ⟨(own_w hw 104 rfl), rfl, hnm⟩) (own_w hw 91 rfl) (ty := .int) (by decide) rfl rfl (g := (mkF m 6 #[.val (.ref a), .val (.int i)] [(.int i), (.ref a)])) rfl rfl (hb hby d15_6)
  have Fw2 : Fld Z h2 a "java/lang/Integer" "value" "I" (.int i) := u1.same W2
  refine own_go st2 ?_
  have K2 : Keep h0 h2 [a] := (Keep.refl h0 [a]).wr W2 (Or.inl (List.mem_of_getElem? (i := 0) rfl))
  have N2 := Fr.snoc X2 N1 u2
  obtain ⟨fs3, hr3, hrun3, hended3, hW3, hsame3⟩ := X2.leave (v := none) (fun _ => rfl)
  refine ⟨_, _, ?_, hrun3, hended3, _, _, rfl, ?_, ⟨_, rfl⟩, hW3, hsame3.mono (by decide) (by decide)⟩
  · exact X2.returnOut hx Bd.returns (hb hby d15_9) hr3
  · show Q_rmInt Z a i h0 n0 _ T2.heap _
    rw [e2]
    exact ⟨rfl, N2, K2, Fw2⟩
theorem d9_0 : decode jdk_33_method_22_code 0 = .ok (.iload_n 0, 1) := by decide +kernel
theorem d9_1 : decode jdk_33_method_22_code 1 = .ok (.bipush (-128), 2) := by decide +kernel
theorem d9_3 : decode jdk_33_method_22_code 3 = .ok (.if_icmp .lt 20, 3) := by decide +kernel
theorem d9_23 : decode jdk_33_method_22_code 23 = .ok (.new 1, 3) := by decide +kernel
theorem d9_26 : decode jdk_33_method_22_code 26 = .ok (.dup, 1) := by decide +kernel
theorem d9_27 : decode jdk_33_method_22_code 27 = .ok (.iload_n 0, 1) := by decide +kernel
theorem pd_14 : parseMethodDescriptor "(I)V" = some ⟨[.int], none⟩ := by decide +kernel
theorem d9_28 : decode jdk_33_method_22_code 28 = .ok (.invokespecial 199, 3) := by decide +kernel
theorem d9_31 : decode jdk_33_method_22_code 31 = .ok (.areturn, 1) := by decide +kernel
theorem d9_6 : decode jdk_33_method_22_code 6 = .ok (.iload_n 0, 1) := by decide +kernel
theorem d9_7 : decode jdk_33_method_22_code 7 = .ok (.getstatic 191, 3) := by decide +kernel
theorem d9_10 : decode jdk_33_method_22_code 10 = .ok (.if_icmp .gt 13, 3) := by decide +kernel
theorem d9_13 : decode jdk_33_method_22_code 13 = .ok (.getstatic 195, 3) := by decide +kernel
theorem d9_16 : decode jdk_33_method_22_code 16 = .ok (.iload_n 0, 1) := by decide +kernel
theorem d9_17 : decode jdk_33_method_22_code 17 = .ok (.sipush 128, 3) := by decide +kernel
theorem d9_20 : decode jdk_33_method_22_code 20 = .ok (.iadd, 1) := by decide +kernel
theorem d9_21 : decode jdk_33_method_22_code 21 = .ok (.aaload, 1) := by decide +kernel
theorem d9_22 : decode jdk_33_method_22_code 22 = .ok (.areturn, 1) := by decide +kernel
abbrev own_y20 : MethodName := ⟨"java/lang/Integer", "valueOf", "(I)Ljava/lang/Integer;"⟩
theorem ef_rmVO (m : MethodId) (i : Int32) : entryFrame m #[(.int i)] 1 = mkF m 0 #[.val (.int i)] [] := by first | (simp [entryFrame, mkF, argsToLocals, Value.category]; done) | rfl
def Q_rmVO (Z : State) (i : Int32) (ca : Addr) (bxc : Cell) (h0 : Heap) (n0 : Nat) (v_ : Option Value) (h_ : Heap) (L_ : List Loc) : Prop := ∃ r : Addr, v_ = some (.ref r) ∧ Fr n0 L_ ∧ Keep h0 h_ [] ∧ Exa Z h_ r "java/lang/Integer"
set_option maxRecDepth 65536 in
set_option maxHeartbeats 40000000 in
theorem rmVO (l : Launch) (Z : State) (a0 : Array Value) (hw : ∀ d ∈ tables_1, d.before a0 Z = true) (ws : List Jvm.Cond) (i : Int32) (ca : Addr) (bxc : Cell) (h0 : Heap) (n0 : Nat) (Z0 : n0 ≤ h0.size) (O0 : Old Z n0 h0) (u1 : Sta Z Z.heap "java/lang/Integer$IntegerCache" "high" "I" (.int (127 : Int32))) (u2 : Sta Z Z.heap "java/lang/Integer$IntegerCache" "cache" "[Ljava/lang/Integer;" (.ref ca)) (hbx : Bxs Z ca bxc "java/lang/Integer" "I" (256 : Int32) own_bval) :
    MetFree l own_y20 (head1 (Jvm.Cond.code own_y20 jdk_33_method_22_code 1 (some (.object "java/lang/Integer")) :: ws) ({ frames := 3, cells := 1, slots := 1, locals := 38 } : Room)) (fun a_ U_ => a_ = #[(.int i)] ∧ Z.Warmed39 U_.vm ∧ U_.heap = h0) (fun _ _ _ _ _ => True) (fun _ U_ o_ U2_ => ∃ v_ L_, o_ = .returned v_ ∧ Q_rmVO Z i ca bxc h0 n0 v_ U2_.heap L_ ∧ FrameEnd U_ o_ U2_ L_ ({ frames := 3, cells := 1, slots := 1, locals := 38 } : Room).cells ({ frames := 3, cells := 1, slots := 1, locals := 38 } : Room).slots) := by
  refine MetFree.of_bodySF (plainFor_of_name pn_8) hisR ?_
  intro p e s m args below meth c s₁ Bd hml0 hP hK
  obtain ⟨rfl, hZ, hh⟩ := hP
  have hx := Bd.exec
  have hby := Bd.bytes
  have hml : c.maxLocals = 1 := hml0
  have hown : s.vm.findClass "java/lang/Integer" = some m.cls := findClass_of_methodNamed Bd.named
  have hnm := (name_of_methodNamed Bd.named Bd.method).1
  have X0 : Stand p l e ({ frames := 3, cells := 1, slots := 1, locals := 38 } : Room) s m #[(.int i)] below meth c s₁ [] 0 0 := Stand.of_body Bd
  have e0 : s₁.heap = h0 := by rw [← hh, Bd.state]; rfl
  have N0 := Fr.nil n0
  refine own_go (A := s₁.setTop (mkF m 0 #[.val (.int i)] [])) (fun t_ k_ => castTop (ef_rmVO m i) k_) ?_
  refine own_go (A := s₁.setTop (mkF m 3 #[.val (.int i)] [(.int (-128 : Int32)), (.int i)])) (fun t_ k_ => ?_) ?_
  · show Steps p.tables e below (s₁.setTop (mkF m 0 #[.val (.int i)] [])) t_
    refine XS.iloadN X0.here hx rfl (hb hby d9_0) rfl ?_
    show Steps p.tables e below (s₁.setTop (mkF m 1 #[.val (.int i)] [(.int i)])) t_
    refine XS.bipush X0.here hx rfl (hb hby d9_1) ?_
    exact k_
  by_cases hc3_1 : i < (-128 : Int32)
  · refine own_go (A := s₁.setTop (mkF m 23 #[.val (.int i)] [])) (fun t_ k_ => ?_) ?_
    · show Steps p.tables e below (s₁.setTop (mkF m 3 #[.val (.int i)] [(.int (-128 : Int32)), (.int i)])) t_
      refine XS.icmpYes X0.here hx rfl (pc0 := 3) (pc' := 23) rfl (hb hby d9_3) rfl (tlt hc3_1).1 (by decide) (by decide) ?_
      exact k_
    obtain ⟨T2, h2, X2, e2, E2, A2, D2, -, st2⟩ := newO X0 hx hZ hown (own_w hw 90 rfl) (own_w hw 91 rfl) (own_w hw 54 rfl) e0 (g := (mkF m 23 #[.val (.int i)] [])) rfl (hb hby d9_23) (by decide) (by decide)
    obtain ⟨b2, g2⟩ : ∃ z, z = h0.size := ⟨_, rfl⟩
    rw [← g2] at A2 D2 st2
    refine own_go st2 ?_
    have K2 : Keep h0 h2 [] := (Keep.refl h0 []).ext E2
    have O2 := O0.ext E2
    have F2_value : Fld Z h2 b2 "java/lang/Integer" "value" "I" (.int (0 : Int32)) := D2 (Or.inr (own_w hw 104 rfl)) (ty := .int) (by decide)
    refine own_go (A := T2.setTop (mkF m 28 #[.val (.int i)] [(.int i), (.ref b2), (.ref b2)])) (fun t_ k_ => ?_) ?_
    · show Steps p.tables e below (T2.setTop (mkF m 26 #[.val (.int i)] [(.ref b2)])) t_
      refine XS.dup X2.here hx rfl (hb hby d9_26) rfl rfl ?_
      show Steps p.tables e below (T2.setTop (mkF m 27 #[.val (.int i)] [(.ref b2), (.ref b2)])) t_
      refine XS.iloadN X2.here hx rfl (hb hby d9_27) rfl ?_
      exact k_
    obtain ⟨_, _, ⟨T3, L3, k3, n3⟩, -, X3, ⟨Lc3, hQ3, l3, y3, z3⟩, st3⟩ := X2.specialBack hx (y := own_y19) rfl hown (mvT hZ (own_w hw 92 rfl)) (mvT hZ (own_w hw 93 rfl)) (mvT hZ (own_w hw 95 rfl)) (by decide) (backOf (W := 1) (rmInt l Z a0 hw [] b2 i h2 n0 (Nat.le_trans Z0 K2.1) A2 F2_value (Nat.le_trans Z0 (Nat.le_of_eq g2.symm))) hZ (own_w hw 95 rfl) (own_w hw 54 rfl) (by decide) (by decide)) (g := (mkF m 28 #[.val (.int i)] [(.int i), (.ref b2), (.ref b2)])) rfl (by rw [hml]; rfl) (Steps.refl _) (a := b2) (argsL := [(.int i)]) (rest := [(.ref b2)]) (lenOf pd_14 rfl) rfl (by show 2 * 0 + _ ≤ _; exact Nat.le_of_eq rfl) (hb hby d9_28) (fun _ _ => ⟨rfl, e2, (by decide : 1 + 0 ≤ _), (by decide : 1 + 0 ≤ _)⟩)
    dsimp only [Pt.U, Pt.locs, Pt.cells, Pt.slots] at X3 l3 y3 z3 st3 hQ3
    subst l3 y3 z3
    obtain ⟨rfl, N3q, Kc3, r3_0⟩ := hQ3
    have N3 := Fr.app N0 N3q
    refine own_via st3 ?_
    have K3 : Keep h0 T3.heap [] := K2.trans Kc3 (allS (P := fun x => x ∈ _ ∨ _ ≤ x) (Or.inr (Nat.le_of_eq g2.symm)) all0)
    have O3 := O2.keep Kc3 (allS (P := fun x => n0 ≤ x) (Nat.le_trans Z0 (Nat.le_of_eq g2.symm)) all0)
    obtain ⟨fs4, hr4, hrun4, hended4, hW4, hsame4⟩ := X3.leave (v := some (.ref b2)) (fun h => by rw [Bd.returns] at h; cases h)
    refine ⟨_, _, ?_, hrun4, hended4, _, _, rfl, ?_, ⟨_, rfl⟩, hW4, hsame4.mono (by decide) (by decide)⟩
    · exact own_retA X3 hx Bd.returns rfl rfl rfl (hb hby d9_31) hr4
    · show Q_rmVO Z i ca bxc h0 n0 _ T3.heap _
      exact ⟨b2, rfl, N3, K3, (A2.keep Kc3)⟩
  · refine own_go (A := s₁.setTop (mkF m 7 #[.val (.int i)] [(.int i)])) (fun t_ k_ => ?_) ?_
    · show Steps p.tables e below (s₁.setTop (mkF m 3 #[.val (.int i)] [(.int (-128 : Int32)), (.int i)])) t_
      refine XS.icmpNo X0.here hx rfl (hb hby d9_3) rfl (flt hc3_1).1 ?_
      show Steps p.tables e below (s₁.setTop (mkF m 6 #[.val (.int i)] [])) t_
      refine XS.iloadN X0.here hx rfl (hb hby d9_6) rfl ?_
      exact k_
    obtain ⟨T5, X5, e5, st5⟩ := getS2 X0 hx hZ hown (host := "") (Or.inl (own_w hw 56 rfl)) Via.refl e0 (u1.ext O0.2) (g := (mkF m 7 #[.val (.int i)] [(.int i)])) rfl (hb hby d9_7)
    refine own_go st5 ?_
    by_cases hc10_6 : (127 : Int32) < i
    · refine own_go (A := T5.setTop (mkF m 23 #[.val (.int i)] [])) (fun t_ k_ => ?_) ?_
      · show Steps p.tables e below (T5.setTop (mkF m 10 #[.val (.int i)] [(.int (127 : Int32)), (.int i)])) t_
        refine XS.icmpYes X5.here hx rfl (pc0 := 10) (pc' := 23) rfl (hb hby d9_10) rfl (tlt hc10_6).2.2.1 (by decide) (by decide) ?_
        exact k_
      obtain ⟨T7, h7, X7, e7, E7, A7, D7, -, st7⟩ := newO X5 hx hZ hown (own_w hw 90 rfl) (own_w hw 91 rfl) (own_w hw 54 rfl) e5 (g := (mkF m 23 #[.val (.int i)] [])) rfl (hb hby d9_23) (by decide) (by decide)
      obtain ⟨b7, g7⟩ : ∃ z, z = h0.size := ⟨_, rfl⟩
      rw [← g7] at A7 D7 st7
      refine own_go st7 ?_
      have K7 : Keep h0 h7 [] := (Keep.refl h0 []).ext E7
      have O7 := O0.ext E7
      have F7_value : Fld Z h7 b7 "java/lang/Integer" "value" "I" (.int (0 : Int32)) := D7 (Or.inr (own_w hw 104 rfl)) (ty := .int) (by decide)
      refine own_go (A := T7.setTop (mkF m 28 #[.val (.int i)] [(.int i), (.ref b7), (.ref b7)])) (fun t_ k_ => ?_) ?_
      · show Steps p.tables e below (T7.setTop (mkF m 26 #[.val (.int i)] [(.ref b7)])) t_
        refine XS.dup X7.here hx rfl (hb hby d9_26) rfl rfl ?_
        show Steps p.tables e below (T7.setTop (mkF m 27 #[.val (.int i)] [(.ref b7), (.ref b7)])) t_
        refine XS.iloadN X7.here hx rfl (hb hby d9_27) rfl ?_
        exact k_
      obtain ⟨_, _, ⟨T8, L8, k8, n8⟩, -, X8, ⟨Lc8, hQ8, l8, y8, z8⟩, st8⟩ := X7.specialBack hx (y := own_y19) rfl hown (mvT hZ (own_w hw 92 rfl)) (mvT hZ (own_w hw 93 rfl)) (mvT hZ (own_w hw 95 rfl)) (by decide) (backOf (W := 1) (rmInt l Z a0 hw [] b7 i h7 n0 (Nat.le_trans Z0 K7.1) A7 F7_value (Nat.le_trans Z0 (Nat.le_of_eq g7.symm))) hZ (own_w hw 95 rfl) (own_w hw 54 rfl) (by decide) (by decide)) (g := (mkF m 28 #[.val (.int i)] [(.int i), (.ref b7), (.ref b7)])) rfl (by rw [hml]; rfl) (Steps.refl _) (a := b7) (argsL := [(.int i)]) (rest := [(.ref b7)]) (lenOf pd_14 rfl) rfl (by show 2 * 0 + _ ≤ _; exact Nat.le_of_eq rfl) (hb hby d9_28) (fun _ _ => ⟨rfl, e7, (by decide : 1 + 0 ≤ _), (by decide : 1 + 0 ≤ _)⟩)
      dsimp only [Pt.U, Pt.locs, Pt.cells, Pt.slots] at X8 l8 y8 z8 st8 hQ8
      subst l8 y8 z8
      obtain ⟨rfl, N8q, Kc8, r8_0⟩ := hQ8
      have N8 := Fr.app N0 N8q
      refine own_via st8 ?_
      have K8 : Keep h0 T8.heap [] := K7.trans Kc8 (allS (P := fun x => x ∈ _ ∨ _ ≤ x) (Or.inr (Nat.le_of_eq g7.symm)) all0)
      have O8 := O7.keep Kc8 (allS (P := fun x => n0 ≤ x) (Nat.le_trans Z0 (Nat.le_of_eq g7.symm)) all0)
      obtain ⟨fs9, hr9, hrun9, hended9, hW9, hsame9⟩ := X8.leave (v := some (.ref b7)) (fun h => by rw [Bd.returns] at h; cases h)
      refine ⟨_, _, ?_, hrun9, hended9, _, _, rfl, ?_, ⟨_, rfl⟩, hW9, hsame9.mono (by decide) (by decide)⟩
      · exact own_retA X8 hx Bd.returns rfl rfl rfl (hb hby d9_31) hr9
      · show Q_rmVO Z i ca bxc h0 n0 _ T8.heap _
        exact ⟨b7, rfl, N8, K8, (A7.keep Kc8)⟩
    · refine own_go (A := T5.setTop (mkF m 13 #[.val (.int i)] [])) (fun t_ k_ => ?_) ?_
      · show Steps p.tables e below (T5.setTop (mkF m 10 #[.val (.int i)] [(.int (127 : Int32)), (.int i)])) t_
        refine XS.icmpNo X5.here hx rfl (hb hby d9_10) rfl (flt hc10_6).2.2.1 ?_
        exact k_
      obtain ⟨T10, X10, e10, st10⟩ := getS2 X5 hx hZ hown (host := "") (Or.inl (own_w hw 58 rfl)) Via.refl e5 (u2.ext O0.2) (g := (mkF m 13 #[.val (.int i)] [])) rfl (hb hby d9_13)
      refine own_go st10 ?_
      refine own_go (A := T10.setTop (mkF m 21 #[.val (.int i)] [(.int (i + (128 : Int32))), (.ref ca)])) (fun t_ k_ => ?_) ?_
      · show Steps p.tables e below (T10.setTop (mkF m 16 #[.val (.int i)] [(.ref ca)])) t_
        refine XS.iloadN X10.here hx rfl (hb hby d9_16) rfl ?_
        show Steps p.tables e below (T10.setTop (mkF m 17 #[.val (.int i)] [(.int i), (.ref ca)])) t_
        refine XS.sipush X10.here hx rfl (hb hby d9_17) ?_
        show Steps p.tables e below (T10.setTop (mkF m 20 #[.val (.int i)] [(.int (128 : Int32)), (.int i), (.ref ca)])) t_
        refine XS.iadd X10.here hx rfl (hb hby d9_20) rfl ?_
        exact k_
      obtain ⟨Ar11, S11, M11⟩ := Bxs.ext hbx O0.2
      have hin11 : ¬ ((i + (128 : Int32)) < 0 ∨ bxc.slots.size ≤ ((i + (128 : Int32))).toNatClampNeg) := inb_of S11 (own_ci hc3_1 hc10_6)
      obtain ⟨rr11, hat11, hE11, hF11⟩ := hbx.2.2.2 _ hin11
      have hG11 : Fld Z Z.heap rr11 "java/lang/Integer" "value" "I" (.int i) := by have q := hF11; rw [own_bval, own_cj] at q; exact q
      refine own_go (A := T10.setTop (mkF m 22 #[.val (.int i)] [(.ref rr11)])) (fun t_ k_ => ?_) ?_
      · show Steps p.tables e below (T10.setTop (mkF m 21 #[.val (.int i)] [(.int (i + (128 : Int32))), (.ref ca)])) t_
        refine X10.aaload hx (j := (i + (128 : Int32))) (v := (.ref rr11)) (by rw [e10]; exact Ar11.1) (State.isArrayOf_alike hZ.alike Ar11.2.1) rfl Ar11.2.2 hin11 hat11 (g := (mkF m 21 #[.val (.int i)] [(.int (i + (128 : Int32))), (.ref ca)])) rfl rfl (hb hby d9_21) _ ?_
        exact k_
      obtain ⟨fs12, hr12, hrun12, hended12, hW12, hsame12⟩ := X10.leave (v := some (.ref rr11)) (fun h => by rw [Bd.returns] at h; cases h)
      refine ⟨_, _, ?_, hrun12, hended12, _, _, rfl, ?_, ⟨_, rfl⟩, hW12, hsame12.mono (by decide) (by decide)⟩
      · exact own_retA X10 hx Bd.returns rfl rfl rfl (hb hby d9_22) hr12
      · show Q_rmVO Z i ca bxc h0 n0 _ T10.heap _
        rw [e10]
        exact ⟨rr11, rfl, N0, (Keep.refl h0 []), (hE11.ext O0.2)⟩
theorem d6_0 : decode jdk_30_method_1_code 0 = .ok (.aload_n 0, 1) := by decide +kernel
theorem d6_1 : decode jdk_30_method_1_code 1 = .ok (.invokespecial 1, 3) := by decide +kernel
theorem d6_4 : decode jdk_30_method_1_code 4 = .ok (.return_, 1) := by decide +kernel
abbrev own_y21 : MethodName := ⟨"java/lang/Record", "<init>", "()V"⟩
theorem ef_rmRec (m : MethodId) (a : Addr) : entryFrame m #[(.ref a)] 1 = mkF m 0 #[.val (.ref a)] [] := by first | (simp [entryFrame, mkF, argsToLocals, Value.category]; done) | rfl
def Q_rmRec (Z : State) (a : Addr) (h0 : Heap) (n0 : Nat) (v_ : Option Value) (h_ : Heap) (L_ : List Loc) : Prop := v_ = none ∧ Fr n0 L_ ∧ h_ = h0
theorem pn_9 : plainName "java/lang/Record" = true := by first | (simp [plainName, overriddenIn]; done) | decide +kernel
set_option maxRecDepth 65536 in
set_option maxHeartbeats 40000000 in
theorem rmRec (l : Launch) (Z : State) (a0 : Array Value) (hw : ∀ d ∈ tables_1, d.before a0 Z = true) (ws : List Jvm.Cond) (a : Addr) (h0 : Heap) (n0 : Nat) (Z0 : n0 ≤ h0.size)  :
    MetFree l own_y21 (head1 (Jvm.Cond.code own_y21 jdk_30_method_1_code 1 none :: ws) ({ frames := 1, cells := 0, slots := 0, locals := 12 } : Room)) (fun a_ U_ => a_ = #[(.ref a)] ∧ Z.Warmed39 U_.vm ∧ U_.heap = h0) (fun _ _ _ _ _ => True) (fun _ U_ o_ U2_ => ∃ v_ L_, o_ = .returned v_ ∧ Q_rmRec Z a h0 n0 v_ U2_.heap L_ ∧ FrameEnd U_ o_ U2_ L_ ({ frames := 1, cells := 0, slots := 0, locals := 12 } : Room).cells ({ frames := 1, cells := 0, slots := 0, locals := 12 } : Room).slots) := by
  refine MetFree.of_bodySF (plainFor_of_name pn_9) hisR ?_
  intro p e s m args below meth c s₁ Bd hml0 hP hK
  obtain ⟨rfl, hZ, hh⟩ := hP
  have hx := Bd.exec
  have hby := Bd.bytes
  have hml : c.maxLocals = 1 := hml0
  have hown : s.vm.findClass "java/lang/Record" = some m.cls := findClass_of_methodNamed Bd.named
  have hnm := (name_of_methodNamed Bd.named Bd.method).1
  have X0 : Stand p l e ({ frames := 1, cells := 0, slots := 0, locals := 12 } : Room) s m #[(.ref a)] below meth c s₁ [] 0 0 := Stand.of_body Bd
  have e0 : s₁.heap = h0 := by rw [← hh, Bd.state]; rfl
  have N0 := Fr.nil n0
  refine own_go (A := s₁.setTop (mkF m 0 #[.val (.ref a)] [])) (fun t_ k_ => castTop (ef_rmRec m a) k_) ?_
  refine own_go (A := s₁.setTop (mkF m 1 #[.val (.ref a)] [(.ref a)])) (fun t_ k_ => ?_) ?_
  · show Steps p.tables e below (s₁.setTop (mkF m 0 #[.val (.ref a)] [])) t_
    refine XS.aloadN X0.here hx rfl (hb hby d6_0) rfl rfl ?_
    exact k_
  obtain ⟨T1, X1, e1, st1⟩ := initO X0 hx hZ hown (own_w hw 37 rfl) (own_w hw 19 rfl) (own_w hw 20 rfl) e0 (g := (mkF m 1 #[.val (.ref a)] [(.ref a)])) rfl (by rw [hml]; rfl) rfl (hb hby d6_1) (by decide) (W := 0) (by show 2 * 0 + _ ≤ _; exact Nat.le_of_eq rfl) (by decide)
  refine own_go st1 ?_
  obtain ⟨fs2, hr2, hrun2, hended2, hW2, hsame2⟩ := X1.leave (v := none) (fun _ => rfl)
  refine ⟨_, _, ?_, hrun2, hended2, _, _, rfl, ?_, ⟨_, rfl⟩, hW2, hsame2.mono (by decide) (by decide)⟩
  · exact X1.returnOut hx Bd.returns (hb hby d6_4) hr2
  · show Q_rmRec Z a h0 n0 _ T1.heap _
    rw [e1]
    exact ⟨rfl, N0, rfl⟩
theorem d5_0 : decode prog_15_method_1_code 0 = .ok (.aload_n 0, 1) := by decide +kernel
theorem d5_1 : decode prog_15_method_1_code 1 = .ok (.invokespecial 1, 3) := by decide +kernel
theorem d5_4 : decode prog_15_method_1_code 4 = .ok (.aload_n 0, 1) := by decide +kernel
theorem d5_5 : decode prog_15_method_1_code 5 = .ok (.aload_n 1, 1) := by decide +kernel
theorem d5_6 : decode prog_15_method_1_code 6 = .ok (.putfield 7, 3) := by decide +kernel
theorem d5_9 : decode prog_15_method_1_code 9 = .ok (.aload_n 0, 1) := by decide +kernel
theorem d5_10 : decode prog_15_method_1_code 10 = .ok (.aload_n 2, 1) := by decide +kernel
theorem d5_11 : decode prog_15_method_1_code 11 = .ok (.putfield 13, 3) := by decide +kernel
theorem d5_14 : decode prog_15_method_1_code 14 = .ok (.return_, 1) := by decide +kernel
abbrev own_y22 : MethodName := ⟨"com/example/tenant/tenant/core/Page", "<init>", "(Ljava/util/List;Ljava/lang/String;)V"⟩
theorem ef_rmPage0 (m : MethodId) (a : Addr) (li : Addr) : entryFrame m #[(.ref a), (.ref li), .null] 3 = mkF m 0 #[.val (.ref a), .val (.ref li), .val .null] [] := by first | (simp [entryFrame, mkF, argsToLocals, Value.category]; done) | rfl
def Q_rmPage0 (Z : State) (a : Addr) (li : Addr) (h0 : Heap) (n0 : Nat) (v_ : Option Value) (h_ : Heap) (L_ : List Loc) : Prop := v_ = none ∧ Fr n0 L_ ∧ Keep h0 h_ [a] ∧ Fld Z h_ a "com/example/tenant/tenant/core/Page" "marker" "Ljava/lang/String;" .null
theorem pn_10 : plainName "com/example/tenant/tenant/core/Page" = true := by first | (simp [plainName, overriddenIn]; done) | decide +kernel
set_option maxRecDepth 65536 in
set_option maxHeartbeats 40000000 in
theorem rmPage0 (l : Launch) (Z : State) (a0 : Array Value) (hw : ∀ d ∈ tables_1, d.before a0 Z = true) (ws : List Jvm.Cond) (a : Addr) (li : Addr) (h0 : Heap) (n0 : Nat) (Z0 : n0 ≤ h0.size) (u0 : Exa Z h0 a "com/example/tenant/tenant/core/Page") (u1 : Fld Z h0 a "com/example/tenant/tenant/core/Page" "items" "Ljava/util/List;" .null) (u2 : Fld Z h0 a "com/example/tenant/tenant/core/Page" "marker" "Ljava/lang/String;" .null) (u3 : n0 ≤ a) :
    MetFree l own_y22 (head1 (Jvm.Cond.code own_y22 prog_15_method_1_code 3 none :: ws) ({ frames := 2, cells := 0, slots := 0, locals := 24 } : Room)) (fun a_ U_ => a_ = #[(.ref a), (.ref li), .null] ∧ Z.Warmed39 U_.vm ∧ U_.heap = h0) (fun _ _ _ _ _ => True) (fun _ U_ o_ U2_ => ∃ v_ L_, o_ = .returned v_ ∧ Q_rmPage0 Z a li h0 n0 v_ U2_.heap L_ ∧ FrameEnd U_ o_ U2_ L_ ({ frames := 2, cells := 0, slots := 0, locals := 24 } : Room).cells ({ frames := 2, cells := 0, slots := 0, locals := 24 } : Room).slots) := by
  refine MetFree.of_bodySF (plainFor_of_name pn_10) hisR ?_
  intro p e s m args below meth c s₁ Bd hml0 hP hK
  obtain ⟨rfl, hZ, hh⟩ := hP
  have hx := Bd.exec
  have hby := Bd.bytes
  have hml : c.maxLocals = 3 := hml0
  have hown : s.vm.findClass "com/example/tenant/tenant/core/Page" = some m.cls := findClass_of_methodNamed Bd.named
  have hnm := (name_of_methodNamed Bd.named Bd.method).1
  have X0 : Stand p l e ({ frames := 2, cells := 0, slots := 0, locals := 24 } : Room) s m #[(.ref a), (.ref li), .null] below meth c s₁ [] 0 0 := Stand.of_body Bd
  have e0 : s₁.heap = h0 := by rw [← hh, Bd.state]; rfl
  have N0 := Fr.nil n0
  refine own_go (A := s₁.setTop (mkF m 0 #[.val (.ref a), .val (.ref li), .val .null] [])) (fun t_ k_ => castTop (ef_rmPage0 m a li) k_) ?_
  refine own_go (A := s₁.setTop (mkF m 1 #[.val (.ref a), .val (.ref li), .val .null] [(.ref a)])) (fun t_ k_ => ?_) ?_
  · show Steps p.tables e below (s₁.setTop (mkF m 0 #[.val (.ref a), .val (.ref li), .val .null] [])) t_
    refine XS.aloadN X0.here hx rfl (hb hby d5_0) rfl rfl ?_
    exact k_
  obtain ⟨_, _, ⟨T1, L1, k1, n1⟩, -, X1, ⟨Lc1, hQ1, l1, y1, z1⟩, st1⟩ := X0.specialBack hx (y := own_y21) rfl hown (mvT hZ (own_w hw 32 rfl)) (mvT hZ (own_w hw 33 rfl)) (mvT hZ (own_w hw 36 rfl)) (by decide) (backOf (W := 0) (rmRec l Z a0 hw [] a h0 n0 Z0) hZ (own_w hw 36 rfl) (own_w hw 35 rfl) (by decide) (by decide)) (g := (mkF m 1 #[.val (.ref a), .val (.ref li), .val .null] [(.ref a)])) rfl (by rw [hml]; rfl) (Steps.refl _) (a := a) (argsL := []) (rest := []) (lenOf pd_9 rfl) rfl (by show 2 * 0 + _ ≤ _; exact Nat.le_of_eq rfl) (hb hby d5_1) (fun _ _ => ⟨rfl, e0, (by decide : 0 + 0 ≤ _), (by decide : 0 + 0 ≤ _)⟩)
  dsimp only [Pt.U, Pt.locs, Pt.cells, Pt.slots] at X1 l1 y1 z1 st1 hQ1
  subst l1 y1 z1
  obtain ⟨rfl, N1q, eh1⟩ := hQ1
  have N1 := Fr.app N0 N1q
  refine own_via st1 ?_
  refine own_go (A := T1.setTop (mkF m 6 #[.val (.ref a), .val (.ref li), .val .null] [(.ref li), (.ref a)])) (fun t_ k_ => ?_) ?_
  · show Steps p.tables e below (T1.setTop (mkF m 4 #[.val (.ref a), .val (.ref li), .val .null] [])) t_
    refine XS.aloadN X1.here hx rfl (hb hby d5_4) rfl rfl ?_
    show Steps p.tables e below (T1.setTop (mkF m 5 #[.val (.ref a), .val (.ref li), .val .null] [(.ref a)])) t_
    refine XS.aloadN X1.here hx rfl (hb hby d5_5) rfl rfl ?_
    exact k_
  obtain ⟨T2, h2, X2, e2, W2, st2⟩ := putF X1 hx hZ hown (host := "") (Or.inl (own_w hw 38 rfl)) Via.refl eh1 u1 u0 (Or.inr ⟨(own_w hw 39 rfl), rfl, hnm⟩) (own_w hw 27 rfl) (ty := (.object "java/util/List")) (by decide) rfl rfl (g := (mkF m 6 #[.val (.ref a), .val (.ref li), .val .null] [(.ref li), (.ref a)])) rfl rfl (hb hby d5_6)
  have Fw2 : Fld Z h2 a "com/example/tenant/tenant/core/Page" "items" "Ljava/util/List;" (.ref li) := u1.same W2
  refine own_go st2 ?_
  have K2 : Keep h0 h2 [a] := (Keep.refl h0 [a]).wr W2 (Or.inl (List.mem_of_getElem? (i := 0) rfl))
  have N2 := Fr.snoc X2 N1 u3
  refine own_go (A := T2.setTop (mkF m 11 #[.val (.ref a), .val (.ref li), .val .null] [.null, (.ref a)])) (fun t_ k_ => ?_) ?_
  · show Steps p.tables e below (T2.setTop (mkF m 9 #[.val (.ref a), .val (.ref li), .val .null] [])) t_
    refine XS.aloadN X2.here hx rfl (hb hby d5_9) rfl rfl ?_
    show Steps p.tables e below (T2.setTop (mkF m 10 #[.val (.ref a), .val (.ref li), .val .null] [(.ref a)])) t_
    refine XS.aloadN X2.here hx rfl (hb hby d5_10) rfl rfl ?_
    exact k_
  obtain ⟨T3, h3, X3, e3, W3, st3⟩ := putF X2 hx hZ hown (host := "") (Or.inl (own_w hw 40 rfl)) Via.refl e2 (u2.other W2 (Or.inr (slot_ne (Or.inr (own_w hw 41 rfl)) (Or.inr (own_w hw 39 rfl)) (by decide) (t := (.object "java/lang/String")) (t' := (.object "java/util/List")) (by decide) (by decide)))) (u0.wr W2) (Or.inr ⟨(own_w hw 41 rfl), rfl, hnm⟩) (own_w hw 27 rfl) (ty := (.object "java/lang/String")) (by decide) rfl rfl (g := (mkF m 11 #[.val (.ref a), .val (.ref li), .val .null] [.null, (.ref a)])) rfl rfl (hb hby d5_11)
  have Fw3 : Fld Z h3 a "com/example/tenant/tenant/core/Page" "marker" "Ljava/lang/String;" .null := (u2.other W2 (Or.inr (slot_ne (Or.inr (own_w hw 41 rfl)) (Or.inr (own_w hw 39 rfl)) (by decide) (t := (.object "java/lang/String")) (t' := (.object "java/util/List")) (by decide) (by decide)))).same W3
  refine own_go st3 ?_
  have K3 : Keep h0 h3 [a] := K2.wr W3 (Or.inl (List.mem_of_getElem? (i := 0) rfl))
  have N3 := Fr.snoc X3 N2 u3
  obtain ⟨fs4, hr4, hrun4, hended4, hW4, hsame4⟩ := X3.leave (v := none) (fun _ => rfl)
  refine ⟨_, _, ?_, hrun4, hended4, _, _, rfl, ?_, ⟨_, rfl⟩, hW4, hsame4.mono (by decide) (by decide)⟩
  · exact X3.returnOut hx Bd.returns (hb hby d5_14) hr4
  · show Q_rmPage0 Z a li h0 n0 _ T3.heap _
    rw [e3]
    exact ⟨rfl, N3, K3, Fw3⟩
theorem d7_0 : decode prog_15_method_2_code 0 = .ok (.aload_n 0, 1) := by decide +kernel
theorem d7_1 : decode prog_15_method_2_code 1 = .ok (.getfield 13, 3) := by decide +kernel
theorem d7_4 : decode prog_15_method_2_code 4 = .ok (.ifnull 7, 3) := by decide +kernel
theorem d7_11 : decode prog_15_method_2_code 11 = .ok (.iconst 0, 1) := by decide +kernel
theorem d7_12 : decode prog_15_method_2_code 12 = .ok (.ireturn, 1) := by decide +kernel
abbrev own_y23 : MethodName := ⟨"com/example/tenant/tenant/core/Page", "isTruncated", "()Z"⟩
theorem ef_rmTr0 (m : MethodId) (a : Addr) : entryFrame m #[(.ref a)] 1 = mkF m 0 #[.val (.ref a)] [] := by first | (simp [entryFrame, mkF, argsToLocals, Value.category]; done) | rfl
def Q_rmTr0 (Z : State) (a : Addr) (h0 : Heap) (n0 : Nat) (v_ : Option Value) (h_ : Heap) (L_ : List Loc) : Prop := v_ = some (.int (0 : Int32)) ∧ Fr n0 L_ ∧ h_ = h0
set_option maxRecDepth 65536 in
set_option maxHeartbeats 40000000 in
theorem rmTr0 (l : Launch) (Z : State) (a0 : Array Value) (hw : ∀ d ∈ tables_1, d.before a0 Z = true) (ws : List Jvm.Cond) (a : Addr) (h0 : Heap) (n0 : Nat) (Z0 : n0 ≤ h0.size) (u0 : Fld Z h0 a "com/example/tenant/tenant/core/Page" "marker" "Ljava/lang/String;" .null) :
    MetFree l own_y23 (head1 (Jvm.Cond.code own_y23 prog_15_method_2_code 1 (some .boolean) :: ws) ({ frames := 0, cells := 0, slots := 0, locals := 0 } : Room)) (fun a_ U_ => a_ = #[(.ref a)] ∧ Z.Warmed39 U_.vm ∧ U_.heap = h0) (fun _ _ _ _ _ => True) (fun _ U_ o_ U2_ => ∃ v_ L_, o_ = .returned v_ ∧ Q_rmTr0 Z a h0 n0 v_ U2_.heap L_ ∧ FrameEnd U_ o_ U2_ L_ ({ frames := 0, cells := 0, slots := 0, locals := 0 } : Room).cells ({ frames := 0, cells := 0, slots := 0, locals := 0 } : Room).slots) := by
  refine MetFree.of_bodySF (plainFor_of_name pn_10) hisR ?_
  intro p e s m args below meth c s₁ Bd hml0 hP hK
  obtain ⟨rfl, hZ, hh⟩ := hP
  have hx := Bd.exec
  have hby := Bd.bytes
  have hml : c.maxLocals = 1 := hml0
  have hown : s.vm.findClass "com/example/tenant/tenant/core/Page" = some m.cls := findClass_of_methodNamed Bd.named
  have hnm := (name_of_methodNamed Bd.named Bd.method).1
  have X0 : Stand p l e ({ frames := 0, cells := 0, slots := 0, locals := 0 } : Room) s m #[(.ref a)] below meth c s₁ [] 0 0 := Stand.of_body Bd
  have e0 : s₁.heap = h0 := by rw [← hh, Bd.state]; rfl
  have N0 := Fr.nil n0
  refine own_go (A := s₁.setTop (mkF m 0 #[.val (.ref a)] [])) (fun t_ k_ => castTop (ef_rmTr0 m a) k_) ?_
  refine own_go (A := s₁.setTop (mkF m 1 #[.val (.ref a)] [(.ref a)])) (fun t_ k_ => ?_) ?_
  · show Steps p.tables e below (s₁.setTop (mkF m 0 #[.val (.ref a)] [])) t_
    refine XS.aloadN X0.here hx rfl (hb hby d7_0) rfl rfl ?_
    exact k_
  obtain ⟨T1, X1, e1, st1⟩ := getF X0 hx hZ hown (host := "") (Or.inl (own_w hw 40 rfl)) Via.refl e0 u0 (g := (mkF m 1 #[.val (.ref a)] [(.ref a)])) rfl rfl (hb hby d7_1)
  refine own_go st1 ?_
  refine own_go (A := T1.setTop (mkF m 12 #[.val (.ref a)] [(.int (0 : Int32))])) (fun t_ k_ => ?_) ?_
  · show Steps p.tables e below (T1.setTop (mkF m 4 #[.val (.ref a)] [.null])) t_
    refine XS.ifnullYes X1.here hx rfl (pc0 := 4) (pc' := 11) rfl (hb hby d7_4) rfl (by decide) (by decide) ?_
    show Steps p.tables e below (T1.setTop (mkF m 11 #[.val (.ref a)] [])) t_
    refine XS.iconst X1.here hx rfl (hb hby d7_11) ?_
    exact k_
  obtain ⟨fs2, hr2, hrun2, hended2, hW2, hsame2⟩ := X1.leave (v := some (.int (0 : Int32))) (fun h => by rw [Bd.returns] at h; cases h)
  refine ⟨_, _, ?_, hrun2, hended2, _, _, rfl, ?_, ⟨_, rfl⟩, hW2, hsame2.mono (by decide) (by decide)⟩
  · exact retN X1 hx (t := .boolean) Bd.returns (by simp) (hb hby d7_12) hr2
  · show Q_rmTr0 Z a h0 n0 _ T1.heap _
    rw [e1]
    exact ⟨rfl, N0, rfl⟩
theorem d8_0 : decode prog_15_method_8_code 0 = .ok (.aload_n 0, 1) := by decide +kernel
theorem d8_1 : decode prog_15_method_8_code 1 = .ok (.getfield 13, 3) := by decide +kernel
theorem d8_4 : decode prog_15_method_8_code 4 = .ok (.areturn, 1) := by decide +kernel
abbrev own_y24 : MethodName := ⟨"com/example/tenant/tenant/core/Page", "marker", "()Ljava/lang/String;"⟩
theorem ef_rmMar0 (m : MethodId) (a : Addr) : entryFrame m #[(.ref a)] 1 = mkF m 0 #[.val (.ref a)] [] := by first | (simp [entryFrame, mkF, argsToLocals, Value.category]; done) | rfl
def Q_rmMar0 (Z : State) (a : Addr) (h0 : Heap) (n0 : Nat) (v_ : Option Value) (h_ : Heap) (L_ : List Loc) : Prop := v_ = some .null ∧ Fr n0 L_ ∧ h_ = h0
set_option maxRecDepth 65536 in
set_option maxHeartbeats 40000000 in
theorem rmMar0 (l : Launch) (Z : State) (a0 : Array Value) (hw : ∀ d ∈ tables_1, d.before a0 Z = true) (ws : List Jvm.Cond) (a : Addr) (h0 : Heap) (n0 : Nat) (Z0 : n0 ≤ h0.size) (u0 : Fld Z h0 a "com/example/tenant/tenant/core/Page" "marker" "Ljava/lang/String;" .null) :
    MetFree l own_y24 (head1 (Jvm.Cond.code own_y24 prog_15_method_8_code 1 (some (.object "java/lang/String")) :: ws) ({ frames := 0, cells := 0, slots := 0, locals := 0 } : Room)) (fun a_ U_ => a_ = #[(.ref a)] ∧ Z.Warmed39 U_.vm ∧ U_.heap = h0) (fun _ _ _ _ _ => True) (fun _ U_ o_ U2_ => ∃ v_ L_, o_ = .returned v_ ∧ Q_rmMar0 Z a h0 n0 v_ U2_.heap L_ ∧ FrameEnd U_ o_ U2_ L_ ({ frames := 0, cells := 0, slots := 0, locals := 0 } : Room).cells ({ frames := 0, cells := 0, slots := 0, locals := 0 } : Room).slots) := by
  refine MetFree.of_bodySF (plainFor_of_name pn_10) hisR ?_
  intro p e s m args below meth c s₁ Bd hml0 hP hK
  obtain ⟨rfl, hZ, hh⟩ := hP
  have hx := Bd.exec
  have hby := Bd.bytes
  have hml : c.maxLocals = 1 := hml0
  have hown : s.vm.findClass "com/example/tenant/tenant/core/Page" = some m.cls := findClass_of_methodNamed Bd.named
  have hnm := (name_of_methodNamed Bd.named Bd.method).1
  have X0 : Stand p l e ({ frames := 0, cells := 0, slots := 0, locals := 0 } : Room) s m #[(.ref a)] below meth c s₁ [] 0 0 := Stand.of_body Bd
  have e0 : s₁.heap = h0 := by rw [← hh, Bd.state]; rfl
  have N0 := Fr.nil n0
  refine own_go (A := s₁.setTop (mkF m 0 #[.val (.ref a)] [])) (fun t_ k_ => castTop (ef_rmMar0 m a) k_) ?_
  refine own_go (A := s₁.setTop (mkF m 1 #[.val (.ref a)] [(.ref a)])) (fun t_ k_ => ?_) ?_
  · show Steps p.tables e below (s₁.setTop (mkF m 0 #[.val (.ref a)] [])) t_
    refine XS.aloadN X0.here hx rfl (hb hby d8_0) rfl rfl ?_
    exact k_
  obtain ⟨T1, X1, e1, st1⟩ := getF X0 hx hZ hown (host := "") (Or.inl (own_w hw 40 rfl)) Via.refl e0 u0 (g := (mkF m 1 #[.val (.ref a)] [(.ref a)])) rfl rfl (hb hby d8_1)
  refine own_go st1 ?_
  obtain ⟨fs2, hr2, hrun2, hended2, hW2, hsame2⟩ := X1.leave (v := some .null) (fun h => by rw [Bd.returns] at h; cases h)
  refine ⟨_, _, ?_, hrun2, hended2, _, _, rfl, ?_, ⟨_, rfl⟩, hW2, hsame2.mono (by decide) (by decide)⟩
  · exact own_retA X1 hx Bd.returns rfl rfl rfl (hb hby d8_4) hr2
  · show Q_rmMar0 Z a h0 n0 _ T1.heap _
    rw [e1]
    exact ⟨rfl, N0, rfl⟩
theorem ef_rmPage1 (m : MethodId) (a : Addr) (li : Addr) (mm : Addr) : entryFrame m #[(.ref a), (.ref li), (.ref mm)] 3 = mkF m 0 #[.val (.ref a), .val (.ref li), .val (.ref mm)] [] := by first | (simp [entryFrame, mkF, argsToLocals, Value.category]; done) | rfl
def Q_rmPage1 (Z : State) (a : Addr) (li : Addr) (mm : Addr) (h0 : Heap) (n0 : Nat) (v_ : Option Value) (h_ : Heap) (L_ : List Loc) : Prop := v_ = none ∧ Fr n0 L_ ∧ Keep h0 h_ [a] ∧ Fld Z h_ a "com/example/tenant/tenant/core/Page" "marker" "Ljava/lang/String;" (.ref mm)
set_option maxRecDepth 65536 in
set_option maxHeartbeats 40000000 in
theorem rmPage1 (l : Launch) (Z : State) (a0 : Array Value) (hw : ∀ d ∈ tables_1, d.before a0 Z = true) (ws : List Jvm.Cond) (a : Addr) (li : Addr) (mm : Addr) (h0 : Heap) (n0 : Nat) (Z0 : n0 ≤ h0.size) (u0 : Exa Z h0 a "com/example/tenant/tenant/core/Page") (u1 : Fld Z h0 a "com/example/tenant/tenant/core/Page" "items" "Ljava/util/List;" .null) (u2 : Fld Z h0 a "com/example/tenant/tenant/core/Page" "marker" "Ljava/lang/String;" .null) (u3 : n0 ≤ a) :
    MetFree l own_y22 (head1 (Jvm.Cond.code own_y22 prog_15_method_1_code 3 none :: ws) ({ frames := 2, cells := 0, slots := 0, locals := 24 } : Room)) (fun a_ U_ => a_ = #[(.ref a), (.ref li), (.ref mm)] ∧ Z.Warmed39 U_.vm ∧ U_.heap = h0) (fun _ _ _ _ _ => True) (fun _ U_ o_ U2_ => ∃ v_ L_, o_ = .returned v_ ∧ Q_rmPage1 Z a li mm h0 n0 v_ U2_.heap L_ ∧ FrameEnd U_ o_ U2_ L_ ({ frames := 2, cells := 0, slots := 0, locals := 24 } : Room).cells ({ frames := 2, cells := 0, slots := 0, locals := 24 } : Room).slots) := by
  refine MetFree.of_bodySF (plainFor_of_name pn_10) hisR ?_
  intro p e s m args below meth c s₁ Bd hml0 hP hK
  obtain ⟨rfl, hZ, hh⟩ := hP
  have hx := Bd.exec
  have hby := Bd.bytes
  have hml : c.maxLocals = 3 := hml0
  have hown : s.vm.findClass "com/example/tenant/tenant/core/Page" = some m.cls := findClass_of_methodNamed Bd.named
  have hnm := (name_of_methodNamed Bd.named Bd.method).1
  have X0 : Stand p l e ({ frames := 2, cells := 0, slots := 0, locals := 24 } : Room) s m #[(.ref a), (.ref li), (.ref mm)] below meth c s₁ [] 0 0 := Stand.of_body Bd
  have e0 : s₁.heap = h0 := by rw [← hh, Bd.state]; rfl
  have N0 := Fr.nil n0
  refine own_go (A := s₁.setTop (mkF m 0 #[.val (.ref a), .val (.ref li), .val (.ref mm)] [])) (fun t_ k_ => castTop (ef_rmPage1 m a li mm) k_) ?_
  refine own_go (A := s₁.setTop (mkF m 1 #[.val (.ref a), .val (.ref li), .val (.ref mm)] [(.ref a)])) (fun t_ k_ => ?_) ?_
  · show Steps p.tables e below (s₁.setTop (mkF m 0 #[.val (.ref a), .val (.ref li), .val (.ref mm)] [])) t_
    refine XS.aloadN X0.here hx rfl (hb hby d5_0) rfl rfl ?_
    exact k_
  obtain ⟨_, _, ⟨T1, L1, k1, n1⟩, -, X1, ⟨Lc1, hQ1, l1, y1, z1⟩, st1⟩ := X0.specialBack hx (y := own_y21) rfl hown (mvT hZ (own_w hw 32 rfl)) (mvT hZ (own_w hw 33 rfl)) (mvT hZ (own_w hw 36 rfl)) (by decide) (backOf (W := 0) (rmRec l Z a0 hw [] a h0 n0 Z0) hZ (own_w hw 36 rfl) (own_w hw 35 rfl) (by decide) (by decide)) (g := (mkF m 1 #[.val (.ref a), .val (.ref li), .val (.ref mm)] [(.ref a)])) rfl (by rw [hml]; rfl) (Steps.refl _) (a := a) (argsL := []) (rest := []) (lenOf pd_9 rfl) rfl (by show 2 * 0 + _ ≤ _; exact Nat.le_of_eq rfl) (hb hby d5_1) (fun _ _ => ⟨rfl, e0, (by decide : 0 + 0 ≤ _), (by decide : 0 + 0 ≤ _)⟩)
  dsimp only [Pt.U, Pt.locs, Pt.cells, Pt.slots] at X1 l1 y1 z1 st1 hQ1
  subst l1 y1 z1
  obtain ⟨rfl, N1q, eh1⟩ := hQ1
  have N1 := Fr.app N0 N1q
  refine own_via st1 ?_
  refine own_go (A := T1.setTop (mkF m 6 #[.val (.ref a), .val (.ref li), .val (.ref mm)] [(.ref li), (.ref a)])) (fun t_ k_ => ?_) ?_
  · show Steps p.tables e below (T1.setTop (mkF m 4 #[.val (.ref a), .val (.ref li), .val (.ref mm)] [])) t_
    refine XS.aloadN X1.here hx rfl (hb hby d5_4) rfl rfl ?_
    show Steps p.tables e below (T1.setTop (mkF m 5 #[.val (.ref a), .val (.ref li), .val (.ref mm)] [(.ref a)])) t_
    refine XS.aloadN X1.here hx rfl (hb hby d5_5) rfl rfl ?_
    exact k_
  obtain ⟨T2, h2, X2, e2, W2, st2⟩ := putF X1 hx hZ hown (host := "") (Or.inl (own_w hw 38 rfl)) Via.refl eh1 u1 u0 (Or.inr ⟨(own_w hw 39 rfl), rfl, hnm⟩) (own_w hw 27 rfl) (ty := (.object "java/util/List")) (by decide) rfl rfl (g := (mkF m 6 #[.val (.ref a), .val (.ref li), .val (.ref mm)] [(.ref li), (.ref a)])) rfl rfl (hb hby d5_6)
  have Fw2 : Fld Z h2 a "com/example/tenant/tenant/core/Page" "items" "Ljava/util/List;" (.ref li) := u1.same W2
  refine own_go st2 ?_
  have K2 : Keep h0 h2 [a] := (Keep.refl h0 [a]).wr W2 (Or.inl (List.mem_of_getElem? (i := 0) rfl))
  have N2 := Fr.snoc X2 N1 u3
  refine own_go (A := T2.setTop (mkF m 11 #[.val (.ref a), .val (.ref li), .val (.ref mm)] [(.ref mm), (.ref a)])) (fun t_ k_ => ?_) ?_
  · show Steps p.tables e below (T2.setTop (mkF m 9 #[.val (.ref a), .val (.ref li), .val (.ref mm)] [])) t_
    refine XS.aloadN X2.here hx rfl (hb hby d5_9) rfl rfl ?_
    show Steps p.tables e below (T2.setTop (mkF m 10 #[.val (.ref a), .val (.ref li), .val (.ref mm)] [(.ref a)])) t_
    refine XS.aloadN X2.here hx rfl (hb hby d5_10) rfl rfl ?_
    exact k_
  obtain ⟨T3, h3, X3, e3, W3, st3⟩ := putF X2 hx hZ hown (host := "") (Or.inl (own_w hw 40 rfl)) Via.refl e2 (u2.other W2 (Or.inr (slot_ne (Or.inr (own_w hw 41 rfl)) (Or.inr (own_w hw 39 rfl)) (by decide) (t := (.object "java/lang/String")) (t' := (.object "java/util/List")) (by decide) (by decide)))) (u0.wr W2) (Or.inr ⟨(own_w hw 41 rfl), rfl, hnm⟩) (own_w hw 27 rfl) (ty := (.object "java/lang/String")) (by decide) rfl rfl (g := (mkF m 11 #[.val (.ref a), .val (.ref li), .val (.ref mm)] [(.ref mm), (.ref a)])) rfl rfl (hb hby d5_11)
  have Fw3 : Fld Z h3 a "com/example/tenant/tenant/core/Page" "marker" "Ljava/lang/String;" (.ref mm) := (u2.other W2 (Or.inr (slot_ne (Or.inr (own_w hw 41 rfl)) (Or.inr (own_w hw 39 rfl)) (by decide) (t := (.object "java/lang/String")) (t' := (.object "java/util/List")) (by decide) (by decide)))).same W3
  refine own_go st3 ?_
  have K3 : Keep h0 h3 [a] := K2.wr W3 (Or.inl (List.mem_of_getElem? (i := 0) rfl))
  have N3 := Fr.snoc X3 N2 u3
  obtain ⟨fs4, hr4, hrun4, hended4, hW4, hsame4⟩ := X3.leave (v := none) (fun _ => rfl)
  refine ⟨_, _, ?_, hrun4, hended4, _, _, rfl, ?_, ⟨_, rfl⟩, hW4, hsame4.mono (by decide) (by decide)⟩
  · exact X3.returnOut hx Bd.returns (hb hby d5_14) hr4
  · show Q_rmPage1 Z a li mm h0 n0 _ T3.heap _
    rw [e3]
    exact ⟨rfl, N3, K3, Fw3⟩
theorem d7_7 : decode prog_15_method_2_code 7 = .ok (.iconst 1, 1) := by decide +kernel
theorem d7_8 : decode prog_15_method_2_code 8 = .ok (.goto 4, 3) := by decide +kernel
theorem ef_rmTr1 (m : MethodId) (a : Addr) : entryFrame m #[(.ref a)] 1 = mkF m 0 #[.val (.ref a)] [] := by first | (simp [entryFrame, mkF, argsToLocals, Value.category]; done) | rfl
def Q_rmTr1 (Z : State) (a : Addr) (mm : Addr) (h0 : Heap) (n0 : Nat) (v_ : Option Value) (h_ : Heap) (L_ : List Loc) : Prop := v_ = some (.int (1 : Int32)) ∧ Fr n0 L_ ∧ h_ = h0
set_option maxRecDepth 65536 in
set_option maxHeartbeats 40000000 in
theorem rmTr1 (l : Launch) (Z : State) (a0 : Array Value) (hw : ∀ d ∈ tables_1, d.before a0 Z = true) (ws : List Jvm.Cond) (a : Addr) (mm : Addr) (h0 : Heap) (n0 : Nat) (Z0 : n0 ≤ h0.size) (u0 : Fld Z h0 a "com/example/tenant/tenant/core/Page" "marker" "Ljava/lang/String;" (.ref mm)) :
    MetFree l own_y23 (head1 (Jvm.Cond.code own_y23 prog_15_method_2_code 1 (some .boolean) :: ws) ({ frames := 0, cells := 0, slots := 0, locals := 0 } : Room)) (fun a_ U_ => a_ = #[(.ref a)] ∧ Z.Warmed39 U_.vm ∧ U_.heap = h0) (fun _ _ _ _ _ => True) (fun _ U_ o_ U2_ => ∃ v_ L_, o_ = .returned v_ ∧ Q_rmTr1 Z a mm h0 n0 v_ U2_.heap L_ ∧ FrameEnd U_ o_ U2_ L_ ({ frames := 0, cells := 0, slots := 0, locals := 0 } : Room).cells ({ frames := 0, cells := 0, slots := 0, locals := 0 } : Room).slots) := by
  refine MetFree.of_bodySF (plainFor_of_name pn_10) hisR ?_
  intro p e s m args below meth c s₁ Bd hml0 hP hK
  obtain ⟨rfl, hZ, hh⟩ := hP
  have hx := Bd.exec
  have hby := Bd.bytes
  have hml : c.maxLocals = 1 := hml0
  have hown : s.vm.findClass "com/example/tenant/tenant/core/Page" = some m.cls := findClass_of_methodNamed Bd.named
  have hnm := (name_of_methodNamed Bd.named Bd.method).1
  have X0 : Stand p l e ({ frames := 0, cells := 0, slots := 0, locals := 0 } : Room) s m #[(.ref a)] below meth c s₁ [] 0 0 := Stand.of_body Bd
  have e0 : s₁.heap = h0 := by rw [← hh, Bd.state]; rfl
  have N0 := Fr.nil n0
  refine own_go (A := s₁.setTop (mkF m 0 #[.val (.ref a)] [])) (fun t_ k_ => castTop (ef_rmTr1 m a) k_) ?_
  refine own_go (A := s₁.setTop (mkF m 1 #[.val (.ref a)] [(.ref a)])) (fun t_ k_ => ?_) ?_
  · show Steps p.tables e below (s₁.setTop (mkF m 0 #[.val (.ref a)] [])) t_
    refine XS.aloadN X0.here hx rfl (hb hby d7_0) rfl rfl ?_
    exact k_
  obtain ⟨T1, X1, e1, st1⟩ := getF X0 hx hZ hown (host := "") (Or.inl (own_w hw 40 rfl)) Via.refl e0 u0 (g := (mkF m 1 #[.val (.ref a)] [(.ref a)])) rfl rfl (hb hby d7_1)
  refine own_go st1 ?_
  refine own_go (A := T1.setTop (mkF m 12 #[.val (.ref a)] [(.int (1 : Int32))])) (fun t_ k_ => ?_) ?_
  · show Steps p.tables e below (T1.setTop (mkF m 4 #[.val (.ref a)] [(.ref mm)])) t_
    refine XS.ifnullNo X1.here hx rfl (hb hby d7_4) rfl ?_
    show Steps p.tables e below (T1.setTop (mkF m 7 #[.val (.ref a)] [])) t_
    refine XS.iconst X1.here hx rfl (hb hby d7_7) ?_
    show Steps p.tables e below (T1.setTop (mkF m 8 #[.val (.ref a)] [(.int (1 : Int32))])) t_
    refine XS.goto X1.here hx rfl (pc0 := 8) (pc' := 12) rfl (hb hby d7_8) (by decide) (by decide) ?_
    exact k_
  obtain ⟨fs2, hr2, hrun2, hended2, hW2, hsame2⟩ := X1.leave (v := some (.int (1 : Int32))) (fun h => by rw [Bd.returns] at h; cases h)
  refine ⟨_, _, ?_, hrun2, hended2, _, _, rfl, ?_, ⟨_, rfl⟩, hW2, hsame2.mono (by decide) (by decide)⟩
  · exact retN X1 hx (t := .boolean) Bd.returns (by simp) (hb hby d7_12) hr2
  · show Q_rmTr1 Z a mm h0 n0 _ T1.heap _
    rw [e1]
    exact ⟨rfl, N0, rfl⟩
theorem ef_rmMar1 (m : MethodId) (a : Addr) : entryFrame m #[(.ref a)] 1 = mkF m 0 #[.val (.ref a)] [] := by first | (simp [entryFrame, mkF, argsToLocals, Value.category]; done) | rfl
def Q_rmMar1 (Z : State) (a : Addr) (mm : Addr) (h0 : Heap) (n0 : Nat) (v_ : Option Value) (h_ : Heap) (L_ : List Loc) : Prop := v_ = some (.ref mm) ∧ Fr n0 L_ ∧ h_ = h0
set_option maxRecDepth 65536 in
set_option maxHeartbeats 40000000 in
theorem rmMar1 (l : Launch) (Z : State) (a0 : Array Value) (hw : ∀ d ∈ tables_1, d.before a0 Z = true) (ws : List Jvm.Cond) (a : Addr) (mm : Addr) (h0 : Heap) (n0 : Nat) (Z0 : n0 ≤ h0.size) (u0 : Fld Z h0 a "com/example/tenant/tenant/core/Page" "marker" "Ljava/lang/String;" (.ref mm)) :
    MetFree l own_y24 (head1 (Jvm.Cond.code own_y24 prog_15_method_8_code 1 (some (.object "java/lang/String")) :: ws) ({ frames := 0, cells := 0, slots := 0, locals := 0 } : Room)) (fun a_ U_ => a_ = #[(.ref a)] ∧ Z.Warmed39 U_.vm ∧ U_.heap = h0) (fun _ _ _ _ _ => True) (fun _ U_ o_ U2_ => ∃ v_ L_, o_ = .returned v_ ∧ Q_rmMar1 Z a mm h0 n0 v_ U2_.heap L_ ∧ FrameEnd U_ o_ U2_ L_ ({ frames := 0, cells := 0, slots := 0, locals := 0 } : Room).cells ({ frames := 0, cells := 0, slots := 0, locals := 0 } : Room).slots) := by
  refine MetFree.of_bodySF (plainFor_of_name pn_10) hisR ?_
  intro p e s m args below meth c s₁ Bd hml0 hP hK
  obtain ⟨rfl, hZ, hh⟩ := hP
  have hx := Bd.exec
  have hby := Bd.bytes
  have hml : c.maxLocals = 1 := hml0
  have hown : s.vm.findClass "com/example/tenant/tenant/core/Page" = some m.cls := findClass_of_methodNamed Bd.named
  have hnm := (name_of_methodNamed Bd.named Bd.method).1
  have X0 : Stand p l e ({ frames := 0, cells := 0, slots := 0, locals := 0 } : Room) s m #[(.ref a)] below meth c s₁ [] 0 0 := Stand.of_body Bd
  have e0 : s₁.heap = h0 := by rw [← hh, Bd.state]; rfl
  have N0 := Fr.nil n0
  refine own_go (A := s₁.setTop (mkF m 0 #[.val (.ref a)] [])) (fun t_ k_ => castTop (ef_rmMar1 m a) k_) ?_
  refine own_go (A := s₁.setTop (mkF m 1 #[.val (.ref a)] [(.ref a)])) (fun t_ k_ => ?_) ?_
  · show Steps p.tables e below (s₁.setTop (mkF m 0 #[.val (.ref a)] [])) t_
    refine XS.aloadN X0.here hx rfl (hb hby d8_0) rfl rfl ?_
    exact k_
  obtain ⟨T1, X1, e1, st1⟩ := getF X0 hx hZ hown (host := "") (Or.inl (own_w hw 40 rfl)) Via.refl e0 u0 (g := (mkF m 1 #[.val (.ref a)] [(.ref a)])) rfl rfl (hb hby d8_1)
  refine own_go st1 ?_
  obtain ⟨fs2, hr2, hrun2, hended2, hW2, hsame2⟩ := X1.leave (v := some (.ref mm)) (fun h => by rw [Bd.returns] at h; cases h)
  refine ⟨_, _, ?_, hrun2, hended2, _, _, rfl, ?_, ⟨_, rfl⟩, hW2, hsame2.mono (by decide) (by decide)⟩
  · exact own_retA X1 hx Bd.returns rfl rfl rfl (hb hby d8_4) hr2
  · show Q_rmMar1 Z a mm h0 n0 _ T1.heap _
    rw [e1]
    exact ⟨rfl, N0, rfl⟩
theorem own_and3 (p : Int32) : (p &&& (3 : Int32)) = (0 : Int32) ∨ (p &&& (3 : Int32)) = (1 : Int32) ∨ (p &&& (3 : Int32)) = (2 : Int32) ∨ (p &&& (3 : Int32)) = (3 : Int32) := by
  have h1 := c_and p 3 (by decide)
  rw [show ((3 : Int32).toInt) = 3 from by decide] at h1
  have h3 : (p &&& (3 : Int32)).toInt = 0 ∨ (p &&& (3 : Int32)).toInt = 1 ∨ (p &&& (3 : Int32)).toInt = 2 ∨ (p &&& (3 : Int32)).toInt = 3 := by omega
  rcases h3 with h | h | h | h
  · exact Or.inl (Int32.toInt_inj.mp (h.trans (by decide)))
  · exact Or.inr (Or.inl (Int32.toInt_inj.mp (h.trans (by decide))))
  · exact Or.inr (Or.inr (Or.inl (Int32.toInt_inj.mp (h.trans (by decide)))))
  · exact Or.inr (Or.inr (Or.inr (Int32.toInt_inj.mp (h.trans (by decide)))))
theorem pd_15 : parseMethodDescriptor "(Ljava/util/List;Ljava/lang/String;)V" = some ⟨[(.object "java/util/List"), (.object "java/lang/String")], none⟩ := by decide +kernel
theorem pd_16 : parseMethodDescriptor "()Z" = some ⟨[], some .boolean⟩ := by decide +kernel
theorem pd_17 : parseMethodDescriptor "()Ljava/lang/String;" = some ⟨[], some (.object "java/lang/String")⟩ := by decide +kernel
theorem pd_18 : parseMethodDescriptor "(I)Ljava/lang/Integer;" = some ⟨[.int], some (.object "java/lang/Integer")⟩ := by decide +kernel
theorem pd_19 : parseMethodDescriptor "(Ljava/lang/Object;)Z" = some ⟨[(.object "java/lang/Object")], some .boolean⟩ := by decide +kernel
theorem pd_20 : parseMethodDescriptor "(IIII)Ljava/lang/String;" = some ⟨[.int, .int, .int, .int], some (.object "java/lang/String")⟩ := by decide +kernel
theorem ef_rm0 (m : MethodId) (p1 : Int32) (p2 : Int32) (p3 : Int32) (p4 : Int32) (p5 : Int32) (p6 : Int32) : entryFrame m #[(.int p1), (.int p2), (.int p3), (.int p4), (.int p5), (.int p6)] maxLocals = mkF m 0 #[.val (.int p1), .val (.int p2), .val (.int p3), .val (.int p4), .val (.int p5), .val (.int p6), .unset, .unset, .unset, .unset, .unset, .unset] [] := by first | (simp [entryFrame, mkF, argsToLocals, Value.category, maxLocals]; done) | rfl
def Q_rm0 (Z : State) (p1 : Int32) (p2 : Int32) (p3 : Int32) (p4 : Int32) (p5 : Int32) (p6 : Int32) (cs : Int32) (dc : Addr) (kd : ClassId) (ca : Addr) (bxc : Cell) (h0 : Heap) (n0 : Nat) (v_ : Option Value) (h_ : Heap) (L_ : List Loc) : Prop := v_ = some (.int (1 : Int32)) ∧ Fr n0 L_ ∧ Keep h0 h_ []
set_option maxRecDepth 65536 in
set_option maxHeartbeats 40000000 in
theorem rm0 (l : Launch) (Z : State) (a0 : Array Value) (hw : ∀ d ∈ tables_1, d.before a0 Z = true) (ws : List Jvm.Cond) (p1 : Int32) (p2 : Int32) (p3 : Int32) (p4 : Int32) (p5 : Int32) (p6 : Int32) (cs : Int32) (dc : Addr) (kd : ClassId) (ca : Addr) (bxc : Cell) (h0 : Heap) (n0 : Nat) (Z0 : n0 ≤ h0.size) (O0 : Old Z n0 h0) (u1 : Sta Z Z.heap "java/lang/String" "COMPACT_STRINGS" "Z" (.int cs)) (hcs : ¬ (cs = (0 : Int32))) (u3 : Sta Z Z.heap "java/util/ArrayList" "DEFAULTCAPACITY_EMPTY_ELEMENTDATA" "[Ljava/lang/Object;" (.ref dc)) (u4 : Arv Z Z.heap dc kd (.object "java/lang/Object") (0 : Int32) [] .null) (u5 : Sta Z Z.heap "java/lang/Integer$IntegerCache" "high" "I" (.int (127 : Int32))) (u6 : Sta Z Z.heap "java/lang/Integer$IntegerCache" "cache" "[Ljava/lang/Integer;" (.ref ca)) (hbx : Bxs Z ca bxc "java/lang/Integer" "I" (256 : Int32) own_bval) :
    MetFree l x (head1 (Jvm.Cond.code x code maxLocals ret :: ws) room_1) (fun a_ U_ => a_ = #[(.int p1), (.int p2), (.int p3), (.int p4), (.int p5), (.int p6)] ∧ Z.Warmed39 U_.vm ∧ U_.heap = h0 ∧ CHv Z own_EL U_.vm h0) (fun _ _ _ _ _ => True) (fun _ U_ o_ U2_ => ∃ v_ L_, o_ = .returned v_ ∧ Q_rm0 Z p1 p2 p3 p4 p5 p6 cs dc kd ca bxc h0 n0 v_ U2_.heap L_ ∧ CHr Z own_EL U_.vm U_.heap U2_.vm U2_.heap ∧ ReturnedEndW U_ o_ U2_ L_ room_1.cells room_1.slots) := by
  refine MetFree.of_bodySF (plainFor_of_name pn_3) hisR ?_
  intro p e s m args below meth c s₁ Bd hml0 hP hK
  obtain ⟨rfl, hZ, hh, hC⟩ := hP
  have hx := Bd.exec
  have hby := Bd.bytes
  have hml : c.maxLocals = 12 := hml0
  have hown : s.vm.findClass "com/example/tenant/tenant/core/PageIsTruncatedPinLaw" = some m.cls := findClass_of_methodNamed Bd.named
  have hnm := (name_of_methodNamed Bd.named Bd.method).1
  have X0 : Stand p l e room_1 (s.setVm s.vm) m #[(.int p1), (.int p2), (.int p3), (.int p4), (.int p5), (.int p6)] below meth c s₁ [] 0 0 := Stand.of_body Bd
  have e0 : s₁.heap = h0 := by rw [← hh, Bd.state]; rfl
  have N0 := Fr.nil n0
  have hS : s.Since s.vm h0.size := (State.WarmedH.refl s).since _
  have hk := Nat.le_refl h0.size
  have hSA := own_strA hw
  have hEL := own_EW hw
  have R0 : CHr Z own_EL s.vm h0 s.vm h0 := CHr.refl hC
  refine own_go (A := s₁.setTop (mkF m 0 #[.val (.int p1), .val (.int p2), .val (.int p3), .val (.int p4), .val (.int p5), .val (.int p6), .unset, .unset, .unset, .unset, .unset, .unset] [])) (fun t_ k_ => castTop (ef_rm0 m p1 p2 p3 p4 p5 p6) k_) ?_
  refine own_go (A := s₁.setTop (mkF m 3 #[.val (.int p1), .val (.int p2), .val (.int p3), .val (.int p4), .val (.int p5), .val (.int p6), .unset, .unset, .unset, .unset, .unset, .unset] [(.int (p1 &&& (1 : Int32)))])) (fun t_ k_ => ?_) ?_
  · show Steps p.tables e below (s₁.setTop (mkF m 0 #[.val (.int p1), .val (.int p2), .val (.int p3), .val (.int p4), .val (.int p5), .val (.int p6), .unset, .unset, .unset, .unset, .unset, .unset] [])) t_
    refine XS.iloadN X0.here hx rfl (hb hby at_0) rfl ?_
    show Steps p.tables e below (s₁.setTop (mkF m 1 #[.val (.int p1), .val (.int p2), .val (.int p3), .val (.int p4), .val (.int p5), .val (.int p6), .unset, .unset, .unset, .unset, .unset, .unset] [(.int p1)])) t_
    refine XS.iconst X0.here hx rfl (hb hby at_1) ?_
    show Steps p.tables e below (s₁.setTop (mkF m 2 #[.val (.int p1), .val (.int p2), .val (.int p3), .val (.int p4), .val (.int p5), .val (.int p6), .unset, .unset, .unset, .unset, .unset, .unset] [(.int (1 : Int32)), (.int p1)])) t_
    refine XS.iand X0.here hx rfl (hb hby at_2) rfl ?_
    exact k_
  by_cases hc3_1 : (p1 &&& (1 : Int32)) = (0 : Int32)
  · refine own_go (A := s₁.setTop (mkF m 18 #[.val (.int p1), .val (.int p2), .val (.int p3), .val (.int p4), .val (.int p5), .val (.int p6), .val (.int (0 : Int32)), .unset, .unset, .unset, .unset, .unset] [(.int ((p1 >>> ((1 : Int32) &&& 31)) &&& (3 : Int32)))])) (fun t_ k_ => ?_) ?_
    · show Steps p.tables e below (s₁.setTop (mkF m 3 #[.val (.int p1), .val (.int p2), .val (.int p3), .val (.int p4), .val (.int p5), .val (.int p6), .unset, .unset, .unset, .unset, .unset, .unset] [(.int (p1 &&& (1 : Int32)))])) t_
      refine XS.ifYes X0.here hx rfl (pc0 := 3) (pc' := 10) rfl (hb hby at_3) rfl ((if0 _ _).trans (teq hc3_1).1) (by decide) (by decide) ?_
      show Steps p.tables e below (s₁.setTop (mkF m 10 #[.val (.int p1), .val (.int p2), .val (.int p3), .val (.int p4), .val (.int p5), .val (.int p6), .unset, .unset, .unset, .unset, .unset, .unset] [])) t_
      refine XS.iconst X0.here hx rfl (hb hby at_10) ?_
      show Steps p.tables e below (s₁.setTop (mkF m 11 #[.val (.int p1), .val (.int p2), .val (.int p3), .val (.int p4), .val (.int p5), .val (.int p6), .unset, .unset, .unset, .unset, .unset, .unset] [(.int (0 : Int32))])) t_
      refine XS.istore X0.here hx rfl (hb hby at_11) rfl (l' := #[.val (.int p1), .val (.int p2), .val (.int p3), .val (.int p4), .val (.int p5), .val (.int p6), .val (.int (0 : Int32)), .unset, .unset, .unset, .unset, .unset]) rfl ?_
      show Steps p.tables e below (s₁.setTop (mkF m 13 #[.val (.int p1), .val (.int p2), .val (.int p3), .val (.int p4), .val (.int p5), .val (.int p6), .val (.int (0 : Int32)), .unset, .unset, .unset, .unset, .unset] [])) t_
      refine XS.iloadN X0.here hx rfl (hb hby at_13) rfl ?_
      show Steps p.tables e below (s₁.setTop (mkF m 14 #[.val (.int p1), .val (.int p2), .val (.int p3), .val (.int p4), .val (.int p5), .val (.int p6), .val (.int (0 : Int32)), .unset, .unset, .unset, .unset, .unset] [(.int p1)])) t_
      refine XS.iconst X0.here hx rfl (hb hby at_14) ?_
      show Steps p.tables e below (s₁.setTop (mkF m 15 #[.val (.int p1), .val (.int p2), .val (.int p3), .val (.int p4), .val (.int p5), .val (.int p6), .val (.int (0 : Int32)), .unset, .unset, .unset, .unset, .unset] [(.int (1 : Int32)), (.int p1)])) t_
      refine XS.ishr X0.here hx rfl (hb hby at_15) rfl ?_
      show Steps p.tables e below (s₁.setTop (mkF m 16 #[.val (.int p1), .val (.int p2), .val (.int p3), .val (.int p4), .val (.int p5), .val (.int p6), .val (.int (0 : Int32)), .unset, .unset, .unset, .unset, .unset] [(.int (p1 >>> ((1 : Int32) &&& 31)))])) t_
      refine XS.iconst X0.here hx rfl (hb hby at_16) ?_
      show Steps p.tables e below (s₁.setTop (mkF m 17 #[.val (.int p1), .val (.int p2), .val (.int p3), .val (.int p4), .val (.int p5), .val (.int p6), .val (.int (0 : Int32)), .unset, .unset, .unset, .unset, .unset] [(.int (3 : Int32)), (.int (p1 >>> ((1 : Int32) &&& 31)))])) t_
      refine XS.iand X0.here hx rfl (hb hby at_17) rfl ?_
      exact k_
    rcases own_and3 (p1 >>> ((1 : Int32) &&& 31)) with hm2 | hm2 | hm2 | hm2
    · rw [hm2]
      refine own_go (A := s₁.setTop (mkF m 20 #[.val (.int p1), .val (.int p2), .val (.int p3), .val (.int p4), .val (.int p5), .val (.int p6), .val (.int (0 : Int32)), .val (.int (0 : Int32)), .unset, .unset, .unset, .unset] [])) (fun t_ k_ => ?_) ?_
      · show Steps p.tables e below (s₁.setTop (mkF m 18 #[.val (.int p1), .val (.int p2), .val (.int p3), .val (.int p4), .val (.int p5), .val (.int p6), .val (.int (0 : Int32)), .unset, .unset, .unset, .unset, .unset] [(.int (0 : Int32))])) t_
        refine XS.istore X0.here hx rfl (hb hby at_18) rfl (l' := #[.val (.int p1), .val (.int p2), .val (.int p3), .val (.int p4), .val (.int p5), .val (.int p6), .val (.int (0 : Int32)), .val (.int (0 : Int32)), .unset, .unset, .unset, .unset]) rfl ?_
        exact k_
      obtain ⟨T3, h3, X3, e3, E3, A3, D3, -, st3⟩ := newO X0 hx hZ hown (own_w hw 0 rfl) (own_w hw 1 rfl) (own_w hw 2 rfl) e0 (g := (mkF m 20 #[.val (.int p1), .val (.int p2), .val (.int p3), .val (.int p4), .val (.int p5), .val (.int p6), .val (.int (0 : Int32)), .val (.int (0 : Int32)), .unset, .unset, .unset, .unset] [])) rfl (hb hby at_20) (by decide) (by decide)
      obtain ⟨b3, g3⟩ : ∃ z, z = h0.size := ⟨_, rfl⟩
      rw [← g3] at A3 D3 st3
      refine own_go st3 ?_
      have K3 : Keep h0 h3 [] := (Keep.refl h0 []).ext E3
      have r3 := CHr.ext E3 R0.1
      have R3 := R0.trans r3
      have hk := Nat.le_trans hk E3.1
      have O3 := O0.ext E3
      have Q3 := Safe.ext E3 R0.1 (Safe.new (Nat.le_of_eq g3.symm))
      have F3_modCount : Fld Z h3 b3 "java/util/AbstractList" "modCount" "I" (.int (0 : Int32)) := D3 (Or.inl (own_w hw 22 rfl)) (ty := .int) (by decide)
      have F3_elementData : Fld Z h3 b3 "java/util/ArrayList" "elementData" "[Ljava/lang/Object;" .null := D3 (Or.inl (own_w hw 25 rfl)) (ty := (.array (.object "java/lang/Object"))) (by decide)
      have F3_size : Fld Z h3 b3 "java/util/ArrayList" "size" "I" (.int (0 : Int32)) := D3 (Or.inl (own_w hw 67 rfl)) (ty := .int) (by decide)
      refine own_go (A := T3.setTop (mkF m 24 #[.val (.int p1), .val (.int p2), .val (.int p3), .val (.int p4), .val (.int p5), .val (.int p6), .val (.int (0 : Int32)), .val (.int (0 : Int32)), .unset, .unset, .unset, .unset] [(.ref b3), (.ref b3)])) (fun t_ k_ => ?_) ?_
      · show Steps p.tables e below (T3.setTop (mkF m 23 #[.val (.int p1), .val (.int p2), .val (.int p3), .val (.int p4), .val (.int p5), .val (.int p6), .val (.int (0 : Int32)), .val (.int (0 : Int32)), .unset, .unset, .unset, .unset] [(.ref b3)])) t_
        refine XS.dup X3.here hx rfl (hb hby at_23) rfl rfl ?_
        exact k_
      obtain ⟨_, _, ⟨T4, L4, k4, n4⟩, -, X4, ⟨Lc4, hQ4, l4, y4, z4⟩, st4⟩ := X3.specialBack hx (y := own_y12) rfl hown (mvT hZ (own_w hw 3 rfl)) (mvT hZ (own_w hw 4 rfl)) (mvT hZ (own_w hw 5 rfl)) (by decide) (backOf (W := 1) (rmALI l Z a0 hw [] b3 dc h3 n0 (Nat.le_trans Z0 K3.1) O3 u3 A3 F3_elementData F3_size F3_modCount (Nat.le_trans Z0 (Nat.le_of_eq g3.symm))) hZ (own_w hw 5 rfl) (own_w hw 2 rfl) (by decide) (by decide)) (g := (mkF m 24 #[.val (.int p1), .val (.int p2), .val (.int p3), .val (.int p4), .val (.int p5), .val (.int p6), .val (.int (0 : Int32)), .val (.int (0 : Int32)), .unset, .unset, .unset, .unset] [(.ref b3), (.ref b3)])) rfl (by rw [hml]; rfl) (Steps.refl _) (a := b3) (argsL := []) (rest := [(.ref b3)]) (lenOf pd_9 rfl) rfl (by show 2 * 0 + _ ≤ _; exact Nat.le_of_eq rfl) (hb hby at_24) (fun _ _ => ⟨rfl, e3, (by decide : 1 + 0 ≤ _), (by decide : 3 + 0 ≤ _)⟩)
      dsimp only [Pt.U, Pt.locs, Pt.cells, Pt.slots] at X4 l4 y4 z4 st4 hQ4
      subst l4 y4 z4
      obtain ⟨rfl, N4q, Kc4, r4_0, r4_1, r4_2⟩ := hQ4
      have N4 := Fr.app N0 N4q
      refine own_via st4 ?_
      have K4 : Keep h0 T4.heap [] := K3.trans Kc4 (allS (P := fun x => x ∈ _ ∨ _ ≤ x) (Or.inr (Nat.le_of_eq g3.symm)) all0)
      have r4 := CHr.keep Kc4 (allS (P := fun x => Safe Z own_EL _ _ x) Q3 all0) R3.1
      have R4 := R3.trans r4
      have hk := Nat.le_trans hk Kc4.1
      have O4 := O3.keep Kc4 (allS (P := fun x => n0 ≤ x) (Nat.le_trans Z0 (Nat.le_of_eq g3.symm)) all0)
      refine own_go (A := T4.setTop (mkF m 98 #[.val (.int p1), .val (.int p2), .val (.int p3), .val (.int p4), .val (.int p5), .val (.int p6), .val (.int (0 : Int32)), .val (.int (0 : Int32)), .val (.ref b3), .val .null, .unset, .unset] [])) (fun t_ k_ => ?_) ?_
      · show Steps p.tables e below (T4.setTop (mkF m 27 #[.val (.int p1), .val (.int p2), .val (.int p3), .val (.int p4), .val (.int p5), .val (.int p6), .val (.int (0 : Int32)), .val (.int (0 : Int32)), .unset, .unset, .unset, .unset] [(.ref b3)])) t_
        refine XS.astore X4.here hx rfl (hb hby at_27) rfl rfl (l' := #[.val (.int p1), .val (.int p2), .val (.int p3), .val (.int p4), .val (.int p5), .val (.int p6), .val (.int (0 : Int32)), .val (.int (0 : Int32)), .val (.ref b3), .unset, .unset, .unset]) rfl ?_
        show Steps p.tables e below (T4.setTop (mkF m 29 #[.val (.int p1), .val (.int p2), .val (.int p3), .val (.int p4), .val (.int p5), .val (.int p6), .val (.int (0 : Int32)), .val (.int (0 : Int32)), .val (.ref b3), .unset, .unset, .unset] [])) t_
        refine XS.iload X4.here hx rfl (hb hby at_29) rfl ?_
        show Steps p.tables e below (T4.setTop (mkF m 31 #[.val (.int p1), .val (.int p2), .val (.int p3), .val (.int p4), .val (.int p5), .val (.int p6), .val (.int (0 : Int32)), .val (.int (0 : Int32)), .val (.ref b3), .unset, .unset, .unset] [(.int (0 : Int32))])) t_
        refine XS.iconst X4.here hx rfl (hb hby at_31) ?_
        show Steps p.tables e below (T4.setTop (mkF m 32 #[.val (.int p1), .val (.int p2), .val (.int p3), .val (.int p4), .val (.int p5), .val (.int p6), .val (.int (0 : Int32)), .val (.int (0 : Int32)), .val (.ref b3), .unset, .unset, .unset] [(.int (1 : Int32)), (.int (0 : Int32))])) t_
        refine XS.icmpYes X4.here hx rfl (pc0 := 32) (pc' := 46) rfl (hb hby at_32) rfl (tlt (by decide : (0 : Int32) < (1 : Int32))).1 (by decide) (by decide) ?_
        show Steps p.tables e below (T4.setTop (mkF m 46 #[.val (.int p1), .val (.int p2), .val (.int p3), .val (.int p4), .val (.int p5), .val (.int p6), .val (.int (0 : Int32)), .val (.int (0 : Int32)), .val (.ref b3), .unset, .unset, .unset] [])) t_
        refine XS.iload X4.here hx rfl (hb hby at_46) rfl ?_
        show Steps p.tables e below (T4.setTop (mkF m 48 #[.val (.int p1), .val (.int p2), .val (.int p3), .val (.int p4), .val (.int p5), .val (.int p6), .val (.int (0 : Int32)), .val (.int (0 : Int32)), .val (.ref b3), .unset, .unset, .unset] [(.int (0 : Int32))])) t_
        refine XS.iconst X4.here hx rfl (hb hby at_48) ?_
        show Steps p.tables e below (T4.setTop (mkF m 49 #[.val (.int p1), .val (.int p2), .val (.int p3), .val (.int p4), .val (.int p5), .val (.int p6), .val (.int (0 : Int32)), .val (.int (0 : Int32)), .val (.ref b3), .unset, .unset, .unset] [(.int (2 : Int32)), (.int (0 : Int32))])) t_
        refine XS.icmpYes X4.here hx rfl (pc0 := 49) (pc' := 62) rfl (hb hby at_49) rfl (tlt (by decide : (0 : Int32) < (2 : Int32))).1 (by decide) (by decide) ?_
        show Steps p.tables e below (T4.setTop (mkF m 62 #[.val (.int p1), .val (.int p2), .val (.int p3), .val (.int p4), .val (.int p5), .val (.int p6), .val (.int (0 : Int32)), .val (.int (0 : Int32)), .val (.ref b3), .unset, .unset, .unset] [])) t_
        refine XS.iload X4.here hx rfl (hb hby at_62) rfl ?_
        show Steps p.tables e below (T4.setTop (mkF m 64 #[.val (.int p1), .val (.int p2), .val (.int p3), .val (.int p4), .val (.int p5), .val (.int p6), .val (.int (0 : Int32)), .val (.int (0 : Int32)), .val (.ref b3), .unset, .unset, .unset] [(.int (0 : Int32))])) t_
        refine XS.iconst X4.here hx rfl (hb hby at_64) ?_
        show Steps p.tables e below (T4.setTop (mkF m 65 #[.val (.int p1), .val (.int p2), .val (.int p3), .val (.int p4), .val (.int p5), .val (.int p6), .val (.int (0 : Int32)), .val (.int (0 : Int32)), .val (.ref b3), .unset, .unset, .unset] [(.int (3 : Int32)), (.int (0 : Int32))])) t_
        refine XS.icmpYes X4.here hx rfl (pc0 := 65) (pc' := 78) rfl (hb hby at_65) rfl (tlt (by decide : (0 : Int32) < (3 : Int32))).1 (by decide) (by decide) ?_
        show Steps p.tables e below (T4.setTop (mkF m 78 #[.val (.int p1), .val (.int p2), .val (.int p3), .val (.int p4), .val (.int p5), .val (.int p6), .val (.int (0 : Int32)), .val (.int (0 : Int32)), .val (.ref b3), .unset, .unset, .unset] [])) t_
        refine XS.aconstNull X4.here hx rfl (hb hby at_78) ?_
        show Steps p.tables e below (T4.setTop (mkF m 79 #[.val (.int p1), .val (.int p2), .val (.int p3), .val (.int p4), .val (.int p5), .val (.int p6), .val (.int (0 : Int32)), .val (.int (0 : Int32)), .val (.ref b3), .unset, .unset, .unset] [.null])) t_
        refine XS.astore X4.here hx rfl (hb hby at_79) rfl rfl (l' := #[.val (.int p1), .val (.int p2), .val (.int p3), .val (.int p4), .val (.int p5), .val (.int p6), .val (.int (0 : Int32)), .val (.int (0 : Int32)), .val (.ref b3), .val .null, .unset, .unset]) rfl ?_
        show Steps p.tables e below (T4.setTop (mkF m 81 #[.val (.int p1), .val (.int p2), .val (.int p3), .val (.int p4), .val (.int p5), .val (.int p6), .val (.int (0 : Int32)), .val (.int (0 : Int32)), .val (.ref b3), .val .null, .unset, .unset] [])) t_
        refine XS.iload X4.here hx rfl (hb hby at_81) rfl ?_
        show Steps p.tables e below (T4.setTop (mkF m 83 #[.val (.int p1), .val (.int p2), .val (.int p3), .val (.int p4), .val (.int p5), .val (.int p6), .val (.int (0 : Int32)), .val (.int (0 : Int32)), .val (.ref b3), .val .null, .unset, .unset] [(.int (0 : Int32))])) t_
        refine XS.ifYes X4.here hx rfl (pc0 := 83) (pc' := 98) rfl (hb hby at_83) rfl ((if0 _ _).trans (teq (by decide : (0 : Int32) = (0 : Int32))).1) (by decide) (by decide) ?_
        exact k_
      obtain ⟨T5, h5, X5, e5, E5, A5, D5, -, st5⟩ := newO X4 hx hZ hown (own_w hw 26 rfl) (own_w hw 27 rfl) (own_w hw 28 rfl) rfl (g := (mkF m 98 #[.val (.int p1), .val (.int p2), .val (.int p3), .val (.int p4), .val (.int p5), .val (.int p6), .val (.int (0 : Int32)), .val (.int (0 : Int32)), .val (.ref b3), .val .null, .unset, .unset] [])) rfl (hb hby at_98) (by decide) (by decide)
      obtain ⟨b5, g5⟩ : ∃ z, z = T4.heap.size := ⟨_, rfl⟩
      rw [← g5] at A5 D5 st5
      refine own_go st5 ?_
      have K5 : Keep h0 h5 [] := K4.ext E5
      have r5 := CHr.ext E5 R4.1
      have R5 := R4.trans r5
      have hk := Nat.le_trans hk E5.1
      have O5 := O4.ext E5
      have Q5 := Safe.ext E5 R4.1 (Safe.new (Nat.le_of_eq g5.symm))
      have F5_items : Fld Z h5 b5 "com/example/tenant/tenant/core/Page" "items" "Ljava/util/List;" .null := D5 (Or.inr (own_w hw 39 rfl)) (ty := (.object "java/util/List")) (by decide)
      have F5_marker : Fld Z h5 b5 "com/example/tenant/tenant/core/Page" "marker" "Ljava/lang/String;" .null := D5 (Or.inr (own_w hw 41 rfl)) (ty := (.object "java/lang/String")) (by decide)
      refine own_go (A := T5.setTop (mkF m 106 #[.val (.int p1), .val (.int p2), .val (.int p3), .val (.int p4), .val (.int p5), .val (.int p6), .val (.int (0 : Int32)), .val (.int (0 : Int32)), .val (.ref b3), .val .null, .unset, .unset] [.null, (.ref b3), (.ref b5), (.ref b5)])) (fun t_ k_ => ?_) ?_
      · show Steps p.tables e below (T5.setTop (mkF m 101 #[.val (.int p1), .val (.int p2), .val (.int p3), .val (.int p4), .val (.int p5), .val (.int p6), .val (.int (0 : Int32)), .val (.int (0 : Int32)), .val (.ref b3), .val .null, .unset, .unset] [(.ref b5)])) t_
        refine XS.dup X5.here hx rfl (hb hby at_101) rfl rfl ?_
        show Steps p.tables e below (T5.setTop (mkF m 102 #[.val (.int p1), .val (.int p2), .val (.int p3), .val (.int p4), .val (.int p5), .val (.int p6), .val (.int (0 : Int32)), .val (.int (0 : Int32)), .val (.ref b3), .val .null, .unset, .unset] [(.ref b5), (.ref b5)])) t_
        refine XS.aload X5.here hx rfl (hb hby at_102) rfl rfl ?_
        show Steps p.tables e below (T5.setTop (mkF m 104 #[.val (.int p1), .val (.int p2), .val (.int p3), .val (.int p4), .val (.int p5), .val (.int p6), .val (.int (0 : Int32)), .val (.int (0 : Int32)), .val (.ref b3), .val .null, .unset, .unset] [(.ref b3), (.ref b5), (.ref b5)])) t_
        refine XS.aload X5.here hx rfl (hb hby at_104) rfl rfl ?_
        exact k_
      obtain ⟨_, _, ⟨T6, L6, k6, n6⟩, -, X6, ⟨Lc6, hQ6, l6, y6, z6⟩, st6⟩ := X5.specialBack hx (y := own_y22) rfl hown (mvT hZ (own_w hw 29 rfl)) (mvT hZ (own_w hw 30 rfl)) (mvT hZ (own_w hw 31 rfl)) (by decide) (backOf (W := 1) (rmPage0 l Z a0 hw [] b5 b3 h5 n0 (Nat.le_trans Z0 K5.1) A5 F5_items F5_marker (Nat.le_trans Z0 (Nat.le_trans K4.1 (Nat.le_of_eq g5.symm)))) hZ (own_w hw 31 rfl) (own_w hw 28 rfl) (by decide) (by decide)) (g := (mkF m 106 #[.val (.int p1), .val (.int p2), .val (.int p3), .val (.int p4), .val (.int p5), .val (.int p6), .val (.int (0 : Int32)), .val (.int (0 : Int32)), .val (.ref b3), .val .null, .unset, .unset] [.null, (.ref b3), (.ref b5), (.ref b5)])) rfl (by rw [hml]; rfl) (Steps.refl _) (a := b5) (argsL := [(.ref b3), .null]) (rest := [(.ref b5)]) (lenOf pd_15 rfl) rfl (by show 2 * 0 + _ ≤ _; exact Nat.le_of_eq rfl) (hb hby at_106) (fun _ _ => ⟨rfl, e5, (by decide : 2 + 0 ≤ _), (by decide : 5 + 0 ≤ _)⟩)
      dsimp only [Pt.U, Pt.locs, Pt.cells, Pt.slots] at X6 l6 y6 z6 st6 hQ6
      subst l6 y6 z6
      obtain ⟨rfl, N6q, Kc6, r6_0⟩ := hQ6
      have N6 := Fr.app N4 N6q
      refine own_via st6 ?_
      have K6 : Keep h0 T6.heap [] := K5.trans Kc6 (allS (P := fun x => x ∈ _ ∨ _ ≤ x) (Or.inr (Nat.le_trans K4.1 (Nat.le_of_eq g5.symm))) all0)
      have r6 := CHr.keep Kc6 (allS (P := fun x => Safe Z own_EL _ _ x) Q5 all0) R5.1
      have R6 := R5.trans r6
      have hk := Nat.le_trans hk Kc6.1
      have O6 := O5.keep Kc6 (allS (P := fun x => n0 ≤ x) (Nat.le_trans Z0 (Nat.le_trans K4.1 (Nat.le_of_eq g5.symm))) all0)
      refine own_go (A := T6.setTop (mkF m 113 #[.val (.int p1), .val (.int p2), .val (.int p3), .val (.int p4), .val (.int p5), .val (.int p6), .val (.int (0 : Int32)), .val (.int (0 : Int32)), .val (.ref b3), .val .null, .val (.ref b5), .unset] [(.ref b5)])) (fun t_ k_ => ?_) ?_
      · show Steps p.tables e below (T6.setTop (mkF m 109 #[.val (.int p1), .val (.int p2), .val (.int p3), .val (.int p4), .val (.int p5), .val (.int p6), .val (.int (0 : Int32)), .val (.int (0 : Int32)), .val (.ref b3), .val .null, .unset, .unset] [(.ref b5)])) t_
        refine XS.astore X6.here hx rfl (hb hby at_109) rfl rfl (l' := #[.val (.int p1), .val (.int p2), .val (.int p3), .val (.int p4), .val (.int p5), .val (.int p6), .val (.int (0 : Int32)), .val (.int (0 : Int32)), .val (.ref b3), .val .null, .val (.ref b5), .unset]) rfl ?_
        show Steps p.tables e below (T6.setTop (mkF m 111 #[.val (.int p1), .val (.int p2), .val (.int p3), .val (.int p4), .val (.int p5), .val (.int p6), .val (.int (0 : Int32)), .val (.int (0 : Int32)), .val (.ref b3), .val .null, .val (.ref b5), .unset] [])) t_
        refine XS.aload X6.here hx rfl (hb hby at_111) rfl rfl ?_
        exact k_
      obtain ⟨cq7, kq7, q7a, q7b, q7c⟩ := isOf hZ rfl (A5.keep Kc6)
      obtain ⟨_, _, ⟨T7, L7, k7, n7⟩, -, X7, ⟨Lc7, hQ7, l7, y7, z7⟩, st7⟩ := X6.virtualBack hx (y := own_y23) (z := own_y23) hown (mvT hZ (own_w hw 42 rfl)) (mvT hZ (own_w hw 43 rfl)) (notFace_of_selects (args := #[]) (mvT hZ (own_w hw 45 rfl))) (mvT hZ (own_w hw 45 rfl)) (mvT hZ (own_w hw 44 rfl)) (by decide) (backOf (W := 0) (rmTr0 l Z a0 hw [] b5 T6.heap n0 (Nat.le_trans Z0 K6.1) r6_0) hZ (own_w hw 46 rfl) (own_w hw 28 rfl) (by decide) (by decide)) q7a q7c (g := (mkF m 113 #[.val (.int p1), .val (.int p2), .val (.int p3), .val (.int p4), .val (.int p5), .val (.int p6), .val (.int (0 : Int32)), .val (.int (0 : Int32)), .val (.ref b3), .val .null, .val (.ref b5), .unset] [(.ref b5)])) rfl (by rw [hml]; rfl) (Steps.refl _) (argsL := []) (rest := []) (lenOf pd_16 rfl) rfl (by show 2 * 0 + _ ≤ _; exact Nat.le_of_eq rfl) (hb hby at_113) (fun _ _ => ⟨rfl, rfl, (by decide : 2 + 0 ≤ _), (by decide : 5 + 0 ≤ _)⟩)
      dsimp only [Pt.U, Pt.locs, Pt.cells, Pt.slots] at X7 l7 y7 z7 st7 hQ7
      subst l7 y7 z7
      obtain ⟨rfl, N7q, eh7⟩ := hQ7
      have N7 := Fr.app N6 N7q
      refine own_via st7 ?_
      refine own_go (A := T7.setTop (mkF m 127 #[.val (.int p1), .val (.int p2), .val (.int p3), .val (.int p4), .val (.int p5), .val (.int p6), .val (.int (0 : Int32)), .val (.int (0 : Int32)), .val (.ref b3), .val .null, .val (.ref b5), .val (.int (0 : Int32))] [(.ref b5)])) (fun t_ k_ => ?_) ?_
      · show Steps p.tables e below (T7.setTop (mkF m 116 #[.val (.int p1), .val (.int p2), .val (.int p3), .val (.int p4), .val (.int p5), .val (.int p6), .val (.int (0 : Int32)), .val (.int (0 : Int32)), .val (.ref b3), .val .null, .val (.ref b5), .unset] [(.int (0 : Int32))])) t_
        refine XS.istore X7.here hx rfl (hb hby at_116) rfl (l' := #[.val (.int p1), .val (.int p2), .val (.int p3), .val (.int p4), .val (.int p5), .val (.int p6), .val (.int (0 : Int32)), .val (.int (0 : Int32)), .val (.ref b3), .val .null, .val (.ref b5), .val (.int (0 : Int32))]) rfl ?_
        show Steps p.tables e below (T7.setTop (mkF m 118 #[.val (.int p1), .val (.int p2), .val (.int p3), .val (.int p4), .val (.int p5), .val (.int p6), .val (.int (0 : Int32)), .val (.int (0 : Int32)), .val (.ref b3), .val .null, .val (.ref b5), .val (.int (0 : Int32))] [])) t_
        refine XS.iload X7.here hx rfl (hb hby at_118) rfl ?_
        show Steps p.tables e below (T7.setTop (mkF m 120 #[.val (.int p1), .val (.int p2), .val (.int p3), .val (.int p4), .val (.int p5), .val (.int p6), .val (.int (0 : Int32)), .val (.int (0 : Int32)), .val (.ref b3), .val .null, .val (.ref b5), .val (.int (0 : Int32))] [(.int (0 : Int32))])) t_
        refine XS.iload X7.here hx rfl (hb hby at_120) rfl ?_
        show Steps p.tables e below (T7.setTop (mkF m 122 #[.val (.int p1), .val (.int p2), .val (.int p3), .val (.int p4), .val (.int p5), .val (.int p6), .val (.int (0 : Int32)), .val (.int (0 : Int32)), .val (.ref b3), .val .null, .val (.ref b5), .val (.int (0 : Int32))] [(.int (0 : Int32)), (.int (0 : Int32))])) t_
        refine XS.icmpNo X7.here hx rfl (hb hby at_122) rfl (teq (by decide : (0 : Int32) = (0 : Int32))).2 ?_
        show Steps p.tables e below (T7.setTop (mkF m 125 #[.val (.int p1), .val (.int p2), .val (.int p3), .val (.int p4), .val (.int p5), .val (.int p6), .val (.int (0 : Int32)), .val (.int (0 : Int32)), .val (.ref b3), .val .null, .val (.ref b5), .val (.int (0 : Int32))] [])) t_
        refine XS.aload X7.here hx rfl (hb hby at_125) rfl rfl ?_
        exact k_
      obtain ⟨cq8, kq8, q8a, q8b, q8c⟩ := isOf hZ eh7 (A5.keep Kc6)
      obtain ⟨_, _, ⟨T8, L8, k8, n8⟩, -, X8, ⟨Lc8, hQ8, l8, y8, z8⟩, st8⟩ := X7.virtualBack hx (y := own_y24) (z := own_y24) hown (mvT hZ (own_w hw 47 rfl)) (mvT hZ (own_w hw 48 rfl)) (notFace_of_selects (args := #[]) (mvT hZ (own_w hw 50 rfl))) (mvT hZ (own_w hw 50 rfl)) (mvT hZ (own_w hw 49 rfl)) (by decide) (backOf (W := 0) (rmMar0 l Z a0 hw [] b5 T6.heap n0 (Nat.le_trans Z0 K6.1) r6_0) hZ (own_w hw 51 rfl) (own_w hw 28 rfl) (by decide) (by decide)) q8a q8c (g := (mkF m 127 #[.val (.int p1), .val (.int p2), .val (.int p3), .val (.int p4), .val (.int p5), .val (.int p6), .val (.int (0 : Int32)), .val (.int (0 : Int32)), .val (.ref b3), .val .null, .val (.ref b5), .val (.int (0 : Int32))] [(.ref b5)])) rfl (by rw [hml]; rfl) (Steps.refl _) (argsL := []) (rest := []) (lenOf pd_17 rfl) rfl (by show 2 * 0 + _ ≤ _; exact Nat.le_of_eq rfl) (hb hby at_127) (fun _ _ => ⟨rfl, eh7, (by decide : 2 + 0 ≤ _), (by decide : 5 + 0 ≤ _)⟩)
      dsimp only [Pt.U, Pt.locs, Pt.cells, Pt.slots] at X8 l8 y8 z8 st8 hQ8
      subst l8 y8 z8
      obtain ⟨rfl, N8q, eh8⟩ := hQ8
      have N8 := Fr.app N7 N8q
      refine own_via st8 ?_
      refine own_go (A := T8.setTop (mkF m 140 #[.val (.int p1), .val (.int p2), .val (.int p3), .val (.int p4), .val (.int p5), .val (.int p6), .val (.int (0 : Int32)), .val (.int (0 : Int32)), .val (.ref b3), .val .null, .val (.ref b5), .val (.int (0 : Int32))] [(.int (1 : Int32))])) (fun t_ k_ => ?_) ?_
      · show Steps p.tables e below (T8.setTop (mkF m 130 #[.val (.int p1), .val (.int p2), .val (.int p3), .val (.int p4), .val (.int p5), .val (.int p6), .val (.int (0 : Int32)), .val (.int (0 : Int32)), .val (.ref b3), .val .null, .val (.ref b5), .val (.int (0 : Int32))] [.null])) t_
        refine XS.aload X8.here hx rfl (hb hby at_130) rfl rfl ?_
        show Steps p.tables e below (T8.setTop (mkF m 132 #[.val (.int p1), .val (.int p2), .val (.int p3), .val (.int p4), .val (.int p5), .val (.int p6), .val (.int (0 : Int32)), .val (.int (0 : Int32)), .val (.ref b3), .val .null, .val (.ref b5), .val (.int (0 : Int32))] [.null, .null])) t_
        refine Jvm.RoadKit.acmp (g := (mkF m 132 #[.val (.int p1), .val (.int p2), .val (.int p3), .val (.int p4), .val (.int p5), .val (.int p6), .val (.int (0 : Int32)), .val (.int (0 : Int32)), .val (.ref b3), .val .null, .val (.ref b5), .val (.int (0 : Int32))] [.null, .null])) X8 hx rfl rfl rfl (pc0 := 132) (pc' := 135) (same := true) rfl (hb hby at_132) rfl (decide_eq_true rfl) (by decide) (by decide) ?_
        show Steps p.tables e below (T8.setTop (mkF m 135 #[.val (.int p1), .val (.int p2), .val (.int p3), .val (.int p4), .val (.int p5), .val (.int p6), .val (.int (0 : Int32)), .val (.int (0 : Int32)), .val (.ref b3), .val .null, .val (.ref b5), .val (.int (0 : Int32))] [])) t_
        refine XS.iconst X8.here hx rfl (hb hby at_135) ?_
        show Steps p.tables e below (T8.setTop (mkF m 136 #[.val (.int p1), .val (.int p2), .val (.int p3), .val (.int p4), .val (.int p5), .val (.int p6), .val (.int (0 : Int32)), .val (.int (0 : Int32)), .val (.ref b3), .val .null, .val (.ref b5), .val (.int (0 : Int32))] [(.int (1 : Int32))])) t_
        refine XS.goto X8.here hx rfl (pc0 := 136) (pc' := 140) rfl (hb hby at_136) (by decide) (by decide) ?_
        exact k_
      obtain ⟨fs9, hr9, hrun9, hended9, hRW9⟩ := X8.leaveW hS (by rw [eh8]; exact hk) (v := some (.int (1 : Int32))) (fun h => by rw [Bd.returns] at h; cases h)
      refine ⟨_, _, ?_, hrun9, hended9, _, _, rfl, ?_, ?_, hRW9.1, hRW9.2.1, hRW9.2.2.1, hRW9.2.2.2.mono (by decide) (by decide)⟩
      · exact retN X8 hx (t := .boolean) Bd.returns (by simp) (hb hby at_140) hr9
      · show Q_rm0 Z p1 p2 p3 p4 p5 p6 cs dc kd ca bxc h0 n0 _ T8.heap _
        rw [eh8]
        exact ⟨rfl, N8, K6⟩
      · show CHr Z own_EL s.vm s.heap T8.vm T8.heap
        rw [hh, eh8]
        exact R6.trans (CHv.at X8 hZ hEL R6.1)
    · rw [hm2]
      refine own_go (A := s₁.setTop (mkF m 20 #[.val (.int p1), .val (.int p2), .val (.int p3), .val (.int p4), .val (.int p5), .val (.int p6), .val (.int (0 : Int32)), .val (.int (1 : Int32)), .unset, .unset, .unset, .unset] [])) (fun t_ k_ => ?_) ?_
      · show Steps p.tables e below (s₁.setTop (mkF m 18 #[.val (.int p1), .val (.int p2), .val (.int p3), .val (.int p4), .val (.int p5), .val (.int p6), .val (.int (0 : Int32)), .unset, .unset, .unset, .unset, .unset] [(.int (1 : Int32))])) t_
        refine XS.istore X0.here hx rfl (hb hby at_18) rfl (l' := #[.val (.int p1), .val (.int p2), .val (.int p3), .val (.int p4), .val (.int p5), .val (.int p6), .val (.int (0 : Int32)), .val (.int (1 : Int32)), .unset, .unset, .unset, .unset]) rfl ?_
        exact k_
      obtain ⟨T10, h10, X10, e10, E10, A10, D10, -, st10⟩ := newO X0 hx hZ hown (own_w hw 0 rfl) (own_w hw 1 rfl) (own_w hw 2 rfl) e0 (g := (mkF m 20 #[.val (.int p1), .val (.int p2), .val (.int p3), .val (.int p4), .val (.int p5), .val (.int p6), .val (.int (0 : Int32)), .val (.int (1 : Int32)), .unset, .unset, .unset, .unset] [])) rfl (hb hby at_20) (by decide) (by decide)
      obtain ⟨b10, g10⟩ : ∃ z, z = h0.size := ⟨_, rfl⟩
      rw [← g10] at A10 D10 st10
      refine own_go st10 ?_
      have K10 : Keep h0 h10 [] := (Keep.refl h0 []).ext E10
      have r10 := CHr.ext E10 R0.1
      have R10 := R0.trans r10
      have hk := Nat.le_trans hk E10.1
      have O10 := O0.ext E10
      have Q10 := Safe.ext E10 R0.1 (Safe.new (Nat.le_of_eq g10.symm))
      have F10_modCount : Fld Z h10 b10 "java/util/AbstractList" "modCount" "I" (.int (0 : Int32)) := D10 (Or.inl (own_w hw 22 rfl)) (ty := .int) (by decide)
      have F10_elementData : Fld Z h10 b10 "java/util/ArrayList" "elementData" "[Ljava/lang/Object;" .null := D10 (Or.inl (own_w hw 25 rfl)) (ty := (.array (.object "java/lang/Object"))) (by decide)
      have F10_size : Fld Z h10 b10 "java/util/ArrayList" "size" "I" (.int (0 : Int32)) := D10 (Or.inl (own_w hw 67 rfl)) (ty := .int) (by decide)
      refine own_go (A := T10.setTop (mkF m 24 #[.val (.int p1), .val (.int p2), .val (.int p3), .val (.int p4), .val (.int p5), .val (.int p6), .val (.int (0 : Int32)), .val (.int (1 : Int32)), .unset, .unset, .unset, .unset] [(.ref b10), (.ref b10)])) (fun t_ k_ => ?_) ?_
      · show Steps p.tables e below (T10.setTop (mkF m 23 #[.val (.int p1), .val (.int p2), .val (.int p3), .val (.int p4), .val (.int p5), .val (.int p6), .val (.int (0 : Int32)), .val (.int (1 : Int32)), .unset, .unset, .unset, .unset] [(.ref b10)])) t_
        refine XS.dup X10.here hx rfl (hb hby at_23) rfl rfl ?_
        exact k_
      obtain ⟨_, _, ⟨T11, L11, k11, n11⟩, -, X11, ⟨Lc11, hQ11, l11, y11, z11⟩, st11⟩ := X10.specialBack hx (y := own_y12) rfl hown (mvT hZ (own_w hw 3 rfl)) (mvT hZ (own_w hw 4 rfl)) (mvT hZ (own_w hw 5 rfl)) (by decide) (backOf (W := 1) (rmALI l Z a0 hw [] b10 dc h10 n0 (Nat.le_trans Z0 K10.1) O10 u3 A10 F10_elementData F10_size F10_modCount (Nat.le_trans Z0 (Nat.le_of_eq g10.symm))) hZ (own_w hw 5 rfl) (own_w hw 2 rfl) (by decide) (by decide)) (g := (mkF m 24 #[.val (.int p1), .val (.int p2), .val (.int p3), .val (.int p4), .val (.int p5), .val (.int p6), .val (.int (0 : Int32)), .val (.int (1 : Int32)), .unset, .unset, .unset, .unset] [(.ref b10), (.ref b10)])) rfl (by rw [hml]; rfl) (Steps.refl _) (a := b10) (argsL := []) (rest := [(.ref b10)]) (lenOf pd_9 rfl) rfl (by show 2 * 0 + _ ≤ _; exact Nat.le_of_eq rfl) (hb hby at_24) (fun _ _ => ⟨rfl, e10, (by decide : 1 + 0 ≤ _), (by decide : 3 + 0 ≤ _)⟩)
      dsimp only [Pt.U, Pt.locs, Pt.cells, Pt.slots] at X11 l11 y11 z11 st11 hQ11
      subst l11 y11 z11
      obtain ⟨rfl, N11q, Kc11, r11_0, r11_1, r11_2⟩ := hQ11
      have N11 := Fr.app N0 N11q
      refine own_via st11 ?_
      have K11 : Keep h0 T11.heap [] := K10.trans Kc11 (allS (P := fun x => x ∈ _ ∨ _ ≤ x) (Or.inr (Nat.le_of_eq g10.symm)) all0)
      have r11 := CHr.keep Kc11 (allS (P := fun x => Safe Z own_EL _ _ x) Q10 all0) R10.1
      have R11 := R10.trans r11
      have hk := Nat.le_trans hk Kc11.1
      have O11 := O10.keep Kc11 (allS (P := fun x => n0 ≤ x) (Nat.le_trans Z0 (Nat.le_of_eq g10.symm)) all0)
      refine own_go (A := T11.setTop (mkF m 39 #[.val (.int p1), .val (.int p2), .val (.int p3), .val (.int p4), .val (.int p5), .val (.int p6), .val (.int (0 : Int32)), .val (.int (1 : Int32)), .val (.ref b10), .unset, .unset, .unset] [(.int p6), (.ref b10)])) (fun t_ k_ => ?_) ?_
      · show Steps p.tables e below (T11.setTop (mkF m 27 #[.val (.int p1), .val (.int p2), .val (.int p3), .val (.int p4), .val (.int p5), .val (.int p6), .val (.int (0 : Int32)), .val (.int (1 : Int32)), .unset, .unset, .unset, .unset] [(.ref b10)])) t_
        refine XS.astore X11.here hx rfl (hb hby at_27) rfl rfl (l' := #[.val (.int p1), .val (.int p2), .val (.int p3), .val (.int p4), .val (.int p5), .val (.int p6), .val (.int (0 : Int32)), .val (.int (1 : Int32)), .val (.ref b10), .unset, .unset, .unset]) rfl ?_
        show Steps p.tables e below (T11.setTop (mkF m 29 #[.val (.int p1), .val (.int p2), .val (.int p3), .val (.int p4), .val (.int p5), .val (.int p6), .val (.int (0 : Int32)), .val (.int (1 : Int32)), .val (.ref b10), .unset, .unset, .unset] [])) t_
        refine XS.iload X11.here hx rfl (hb hby at_29) rfl ?_
        show Steps p.tables e below (T11.setTop (mkF m 31 #[.val (.int p1), .val (.int p2), .val (.int p3), .val (.int p4), .val (.int p5), .val (.int p6), .val (.int (0 : Int32)), .val (.int (1 : Int32)), .val (.ref b10), .unset, .unset, .unset] [(.int (1 : Int32))])) t_
        refine XS.iconst X11.here hx rfl (hb hby at_31) ?_
        show Steps p.tables e below (T11.setTop (mkF m 32 #[.val (.int p1), .val (.int p2), .val (.int p3), .val (.int p4), .val (.int p5), .val (.int p6), .val (.int (0 : Int32)), .val (.int (1 : Int32)), .val (.ref b10), .unset, .unset, .unset] [(.int (1 : Int32)), (.int (1 : Int32))])) t_
        refine XS.icmpNo X11.here hx rfl (hb hby at_32) rfl (flt (by decide : ¬ ((1 : Int32) < (1 : Int32)))).1 ?_
        show Steps p.tables e below (T11.setTop (mkF m 35 #[.val (.int p1), .val (.int p2), .val (.int p3), .val (.int p4), .val (.int p5), .val (.int p6), .val (.int (0 : Int32)), .val (.int (1 : Int32)), .val (.ref b10), .unset, .unset, .unset] [])) t_
        refine XS.aload X11.here hx rfl (hb hby at_35) rfl rfl ?_
        show Steps p.tables e below (T11.setTop (mkF m 37 #[.val (.int p1), .val (.int p2), .val (.int p3), .val (.int p4), .val (.int p5), .val (.int p6), .val (.int (0 : Int32)), .val (.int (1 : Int32)), .val (.ref b10), .unset, .unset, .unset] [(.ref b10)])) t_
        refine XS.iload X11.here hx rfl (hb hby at_37) rfl ?_
        exact k_
      obtain ⟨_, _, ⟨T12, L12, k12, n12⟩, -, X12, ⟨Lc12, hQ12, l12, y12, z12⟩, st12⟩ := Jvm.LawKit.callS X11 hx (y := own_y20) hown (mvT hZ (own_w hw 52 rfl)) (mvT hZ (own_w hw 53 rfl)) (mvT hZ (own_w hw 54 rfl)) (mvT hZ (own_w hw 55 rfl)) (by decide) (backOf (W := 1) (rmVO l Z a0 hw [] p6 ca bxc T11.heap n0 (Nat.le_trans Z0 K11.1) O11 u5 u6 hbx) hZ (own_w hw 55 rfl) (own_w hw 54 rfl) (by decide) (by decide)) (g := (mkF m 39 #[.val (.int p1), .val (.int p2), .val (.int p3), .val (.int p4), .val (.int p5), .val (.int p6), .val (.int (0 : Int32)), .val (.int (1 : Int32)), .val (.ref b10), .unset, .unset, .unset] [(.int p6), (.ref b10)])) rfl (by rw [hml]; rfl) (argsL := [(.int p6)]) (rest := [(.ref b10)]) (lenOf pd_18 rfl) rfl (by show 2 * 0 + _ ≤ _; exact Nat.le_of_eq rfl) (hb hby at_39) (fun _ _ => ⟨rfl, rfl, (by decide : 1 + 1 ≤ _), (by decide : 3 + 1 ≤ _)⟩)
      dsimp only [Pt.U, Pt.locs, Pt.cells, Pt.slots] at X12 l12 y12 z12 st12 hQ12
      subst l12 y12 z12
      obtain ⟨r_12, rfl, N12q, Kc12, r12_0⟩ := hQ12
      have N12 := Fr.app N11 N12q
      refine own_go st12 ?_
      have K12 : Keep h0 T12.heap [] := K11.trans Kc12 all0
      have r12 := CHr.keep Kc12 all0 R11.1
      have R12 := R11.trans r12
      have hk := Nat.le_trans hk Kc12.1
      have O12 := O11.keep Kc12 all0
      obtain ⟨cq13, kq13, q13a, q13b, q13c⟩ := isOf hZ rfl ((A10.keep Kc11).keep Kc12)
      obtain ⟨_, _, ⟨T13, L13, k13, n13⟩, -, X13, ⟨Lc13, hQ13, l13, y13, z13⟩, st13⟩ := X12.virtualBack hx (y := own_y17) (z := own_y17) hown (mvT hZ (own_w hw 59 rfl)) (mvT hZ (own_w hw 60 rfl)) (notFace_of_selects (args := #[]) (mvT hZ (own_w hw 62 rfl))) (mvT hZ (own_w hw 62 rfl)) (mvT hZ (own_w hw 61 rfl)) (by decide) (backOf (W := 0) (rmAdd0 l Z a0 hw [] b10 r_12 dc kd (0 : Int32) T12.heap n0 (Nat.le_trans Z0 K12.1) O12 u3 ((A10.keep Kc11).keep Kc12) (r11_0.keep Kc12 nin0) (r11_1.keep Kc12 nin0) (r11_2.keep Kc12 nin0) u4 (Nat.le_trans Z0 (Nat.le_of_eq g10.symm)) r12_0) hZ (own_w hw 63 rfl) (own_w hw 2 rfl) (by decide) (by decide)) q13a q13c (g := (mkF m 42 #[.val (.int p1), .val (.int p2), .val (.int p3), .val (.int p4), .val (.int p5), .val (.int p6), .val (.int (0 : Int32)), .val (.int (1 : Int32)), .val (.ref b10), .unset, .unset, .unset] [(.ref r_12), (.ref b10)])) rfl (by rw [hml]; rfl) (Steps.refl _) (argsL := [(.ref r_12)]) (rest := []) (lenOf pd_19 rfl) rfl (by show 2 * 0 + _ ≤ _; exact Nat.le_of_eq rfl) (hb hby at_42) (fun _ _ => ⟨rfl, rfl, (by decide : 2 + 1 ≤ _), (by decide : 4 + 10 ≤ _)⟩)
      dsimp only [Pt.U, Pt.locs, Pt.cells, Pt.slots] at X13 l13 y13 z13 st13 hQ13
      subst l13 y13 z13
      obtain ⟨ed_13, k_13, rfl, N13q, Kc13, r13_0, r13_1, r13_2, r13_3, r13_4, r13_5⟩ := hQ13
      have N13 := Fr.app N12 N13q
      refine own_via st13 ?_
      have K13 : Keep h0 T13.heap [] := K12.trans Kc13 (allS (P := fun x => x ∈ _ ∨ _ ≤ x) (Or.inr (Nat.le_of_eq g10.symm)) all0)
      have r13 := CHr.keep Kc13 (allS (P := fun x => Safe Z own_EL _ _ x) (r12.safe (Nat.lt_of_lt_of_le A10.lt Kc11.1) (r11.safe A10.lt Q10)) all0) R12.1
      have R13 := R12.trans r13
      have hk := Nat.le_trans hk Kc13.1
      have O13 := O12.keep Kc13 (allS (P := fun x => n0 ≤ x) (Nat.le_trans Z0 (Nat.le_of_eq g10.symm)) all0)
      refine own_go (A := T13.setTop (mkF m 98 #[.val (.int p1), .val (.int p2), .val (.int p3), .val (.int p4), .val (.int p5), .val (.int p6), .val (.int (0 : Int32)), .val (.int (1 : Int32)), .val (.ref b10), .val .null, .unset, .unset] [])) (fun t_ k_ => ?_) ?_
      · show Steps p.tables e below (T13.setTop (mkF m 45 #[.val (.int p1), .val (.int p2), .val (.int p3), .val (.int p4), .val (.int p5), .val (.int p6), .val (.int (0 : Int32)), .val (.int (1 : Int32)), .val (.ref b10), .unset, .unset, .unset] [(.int (1 : Int32))])) t_
        refine XS.pop X13.here hx rfl (hb hby at_45) rfl rfl ?_
        show Steps p.tables e below (T13.setTop (mkF m 46 #[.val (.int p1), .val (.int p2), .val (.int p3), .val (.int p4), .val (.int p5), .val (.int p6), .val (.int (0 : Int32)), .val (.int (1 : Int32)), .val (.ref b10), .unset, .unset, .unset] [])) t_
        refine XS.iload X13.here hx rfl (hb hby at_46) rfl ?_
        show Steps p.tables e below (T13.setTop (mkF m 48 #[.val (.int p1), .val (.int p2), .val (.int p3), .val (.int p4), .val (.int p5), .val (.int p6), .val (.int (0 : Int32)), .val (.int (1 : Int32)), .val (.ref b10), .unset, .unset, .unset] [(.int (1 : Int32))])) t_
        refine XS.iconst X13.here hx rfl (hb hby at_48) ?_
        show Steps p.tables e below (T13.setTop (mkF m 49 #[.val (.int p1), .val (.int p2), .val (.int p3), .val (.int p4), .val (.int p5), .val (.int p6), .val (.int (0 : Int32)), .val (.int (1 : Int32)), .val (.ref b10), .unset, .unset, .unset] [(.int (2 : Int32)), (.int (1 : Int32))])) t_
        refine XS.icmpYes X13.here hx rfl (pc0 := 49) (pc' := 62) rfl (hb hby at_49) rfl (tlt (by decide : (1 : Int32) < (2 : Int32))).1 (by decide) (by decide) ?_
        show Steps p.tables e below (T13.setTop (mkF m 62 #[.val (.int p1), .val (.int p2), .val (.int p3), .val (.int p4), .val (.int p5), .val (.int p6), .val (.int (0 : Int32)), .val (.int (1 : Int32)), .val (.ref b10), .unset, .unset, .unset] [])) t_
        refine XS.iload X13.here hx rfl (hb hby at_62) rfl ?_
        show Steps p.tables e below (T13.setTop (mkF m 64 #[.val (.int p1), .val (.int p2), .val (.int p3), .val (.int p4), .val (.int p5), .val (.int p6), .val (.int (0 : Int32)), .val (.int (1 : Int32)), .val (.ref b10), .unset, .unset, .unset] [(.int (1 : Int32))])) t_
        refine XS.iconst X13.here hx rfl (hb hby at_64) ?_
        show Steps p.tables e below (T13.setTop (mkF m 65 #[.val (.int p1), .val (.int p2), .val (.int p3), .val (.int p4), .val (.int p5), .val (.int p6), .val (.int (0 : Int32)), .val (.int (1 : Int32)), .val (.ref b10), .unset, .unset, .unset] [(.int (3 : Int32)), (.int (1 : Int32))])) t_
        refine XS.icmpYes X13.here hx rfl (pc0 := 65) (pc' := 78) rfl (hb hby at_65) rfl (tlt (by decide : (1 : Int32) < (3 : Int32))).1 (by decide) (by decide) ?_
        show Steps p.tables e below (T13.setTop (mkF m 78 #[.val (.int p1), .val (.int p2), .val (.int p3), .val (.int p4), .val (.int p5), .val (.int p6), .val (.int (0 : Int32)), .val (.int (1 : Int32)), .val (.ref b10), .unset, .unset, .unset] [])) t_
        refine XS.aconstNull X13.here hx rfl (hb hby at_78) ?_
        show Steps p.tables e below (T13.setTop (mkF m 79 #[.val (.int p1), .val (.int p2), .val (.int p3), .val (.int p4), .val (.int p5), .val (.int p6), .val (.int (0 : Int32)), .val (.int (1 : Int32)), .val (.ref b10), .unset, .unset, .unset] [.null])) t_
        refine XS.astore X13.here hx rfl (hb hby at_79) rfl rfl (l' := #[.val (.int p1), .val (.int p2), .val (.int p3), .val (.int p4), .val (.int p5), .val (.int p6), .val (.int (0 : Int32)), .val (.int (1 : Int32)), .val (.ref b10), .val .null, .unset, .unset]) rfl ?_
        show Steps p.tables e below (T13.setTop (mkF m 81 #[.val (.int p1), .val (.int p2), .val (.int p3), .val (.int p4), .val (.int p5), .val (.int p6), .val (.int (0 : Int32)), .val (.int (1 : Int32)), .val (.ref b10), .val .null, .unset, .unset] [])) t_
        refine XS.iload X13.here hx rfl (hb hby at_81) rfl ?_
        show Steps p.tables e below (T13.setTop (mkF m 83 #[.val (.int p1), .val (.int p2), .val (.int p3), .val (.int p4), .val (.int p5), .val (.int p6), .val (.int (0 : Int32)), .val (.int (1 : Int32)), .val (.ref b10), .val .null, .unset, .unset] [(.int (0 : Int32))])) t_
        refine XS.ifYes X13.here hx rfl (pc0 := 83) (pc' := 98) rfl (hb hby at_83) rfl ((if0 _ _).trans (teq (by decide : (0 : Int32) = (0 : Int32))).1) (by decide) (by decide) ?_
        exact k_
      obtain ⟨T14, h14, X14, e14, E14, A14, D14, -, st14⟩ := newO X13 hx hZ hown (own_w hw 26 rfl) (own_w hw 27 rfl) (own_w hw 28 rfl) rfl (g := (mkF m 98 #[.val (.int p1), .val (.int p2), .val (.int p3), .val (.int p4), .val (.int p5), .val (.int p6), .val (.int (0 : Int32)), .val (.int (1 : Int32)), .val (.ref b10), .val .null, .unset, .unset] [])) rfl (hb hby at_98) (by decide) (by decide)
      obtain ⟨b14, g14⟩ : ∃ z, z = T13.heap.size := ⟨_, rfl⟩
      rw [← g14] at A14 D14 st14
      refine own_go st14 ?_
      have K14 : Keep h0 h14 [] := K13.ext E14
      have r14 := CHr.ext E14 R13.1
      have R14 := R13.trans r14
      have hk := Nat.le_trans hk E14.1
      have O14 := O13.ext E14
      have Q14 := Safe.ext E14 R13.1 (Safe.new (Nat.le_of_eq g14.symm))
      have F14_items : Fld Z h14 b14 "com/example/tenant/tenant/core/Page" "items" "Ljava/util/List;" .null := D14 (Or.inr (own_w hw 39 rfl)) (ty := (.object "java/util/List")) (by decide)
      have F14_marker : Fld Z h14 b14 "com/example/tenant/tenant/core/Page" "marker" "Ljava/lang/String;" .null := D14 (Or.inr (own_w hw 41 rfl)) (ty := (.object "java/lang/String")) (by decide)
      refine own_go (A := T14.setTop (mkF m 106 #[.val (.int p1), .val (.int p2), .val (.int p3), .val (.int p4), .val (.int p5), .val (.int p6), .val (.int (0 : Int32)), .val (.int (1 : Int32)), .val (.ref b10), .val .null, .unset, .unset] [.null, (.ref b10), (.ref b14), (.ref b14)])) (fun t_ k_ => ?_) ?_
      · show Steps p.tables e below (T14.setTop (mkF m 101 #[.val (.int p1), .val (.int p2), .val (.int p3), .val (.int p4), .val (.int p5), .val (.int p6), .val (.int (0 : Int32)), .val (.int (1 : Int32)), .val (.ref b10), .val .null, .unset, .unset] [(.ref b14)])) t_
        refine XS.dup X14.here hx rfl (hb hby at_101) rfl rfl ?_
        show Steps p.tables e below (T14.setTop (mkF m 102 #[.val (.int p1), .val (.int p2), .val (.int p3), .val (.int p4), .val (.int p5), .val (.int p6), .val (.int (0 : Int32)), .val (.int (1 : Int32)), .val (.ref b10), .val .null, .unset, .unset] [(.ref b14), (.ref b14)])) t_
        refine XS.aload X14.here hx rfl (hb hby at_102) rfl rfl ?_
        show Steps p.tables e below (T14.setTop (mkF m 104 #[.val (.int p1), .val (.int p2), .val (.int p3), .val (.int p4), .val (.int p5), .val (.int p6), .val (.int (0 : Int32)), .val (.int (1 : Int32)), .val (.ref b10), .val .null, .unset, .unset] [(.ref b10), (.ref b14), (.ref b14)])) t_
        refine XS.aload X14.here hx rfl (hb hby at_104) rfl rfl ?_
        exact k_
      obtain ⟨_, _, ⟨T15, L15, k15, n15⟩, -, X15, ⟨Lc15, hQ15, l15, y15, z15⟩, st15⟩ := X14.specialBack hx (y := own_y22) rfl hown (mvT hZ (own_w hw 29 rfl)) (mvT hZ (own_w hw 30 rfl)) (mvT hZ (own_w hw 31 rfl)) (by decide) (backOf (W := 1) (rmPage0 l Z a0 hw [] b14 b10 h14 n0 (Nat.le_trans Z0 K14.1) A14 F14_items F14_marker (Nat.le_trans Z0 (Nat.le_trans K13.1 (Nat.le_of_eq g14.symm)))) hZ (own_w hw 31 rfl) (own_w hw 28 rfl) (by decide) (by decide)) (g := (mkF m 106 #[.val (.int p1), .val (.int p2), .val (.int p3), .val (.int p4), .val (.int p5), .val (.int p6), .val (.int (0 : Int32)), .val (.int (1 : Int32)), .val (.ref b10), .val .null, .unset, .unset] [.null, (.ref b10), (.ref b14), (.ref b14)])) rfl (by rw [hml]; rfl) (Steps.refl _) (a := b14) (argsL := [(.ref b10), .null]) (rest := [(.ref b14)]) (lenOf pd_15 rfl) rfl (by show 2 * 0 + _ ≤ _; exact Nat.le_of_eq rfl) (hb hby at_106) (fun _ _ => ⟨rfl, e14, (by decide : 4 + 0 ≤ _), (by decide : 16 + 0 ≤ _)⟩)
      dsimp only [Pt.U, Pt.locs, Pt.cells, Pt.slots] at X15 l15 y15 z15 st15 hQ15
      subst l15 y15 z15
      obtain ⟨rfl, N15q, Kc15, r15_0⟩ := hQ15
      have N15 := Fr.app N13 N15q
      refine own_via st15 ?_
      have K15 : Keep h0 T15.heap [] := K14.trans Kc15 (allS (P := fun x => x ∈ _ ∨ _ ≤ x) (Or.inr (Nat.le_trans K13.1 (Nat.le_of_eq g14.symm))) all0)
      have r15 := CHr.keep Kc15 (allS (P := fun x => Safe Z own_EL _ _ x) Q14 all0) R14.1
      have R15 := R14.trans r15
      have hk := Nat.le_trans hk Kc15.1
      have O15 := O14.keep Kc15 (allS (P := fun x => n0 ≤ x) (Nat.le_trans Z0 (Nat.le_trans K13.1 (Nat.le_of_eq g14.symm))) all0)
      refine own_go (A := T15.setTop (mkF m 113 #[.val (.int p1), .val (.int p2), .val (.int p3), .val (.int p4), .val (.int p5), .val (.int p6), .val (.int (0 : Int32)), .val (.int (1 : Int32)), .val (.ref b10), .val .null, .val (.ref b14), .unset] [(.ref b14)])) (fun t_ k_ => ?_) ?_
      · show Steps p.tables e below (T15.setTop (mkF m 109 #[.val (.int p1), .val (.int p2), .val (.int p3), .val (.int p4), .val (.int p5), .val (.int p6), .val (.int (0 : Int32)), .val (.int (1 : Int32)), .val (.ref b10), .val .null, .unset, .unset] [(.ref b14)])) t_
        refine XS.astore X15.here hx rfl (hb hby at_109) rfl rfl (l' := #[.val (.int p1), .val (.int p2), .val (.int p3), .val (.int p4), .val (.int p5), .val (.int p6), .val (.int (0 : Int32)), .val (.int (1 : Int32)), .val (.ref b10), .val .null, .val (.ref b14), .unset]) rfl ?_
        show Steps p.tables e below (T15.setTop (mkF m 111 #[.val (.int p1), .val (.int p2), .val (.int p3), .val (.int p4), .val (.int p5), .val (.int p6), .val (.int (0 : Int32)), .val (.int (1 : Int32)), .val (.ref b10), .val .null, .val (.ref b14), .unset] [])) t_
        refine XS.aload X15.here hx rfl (hb hby at_111) rfl rfl ?_
        exact k_
      obtain ⟨cq16, kq16, q16a, q16b, q16c⟩ := isOf hZ rfl (A14.keep Kc15)
      obtain ⟨_, _, ⟨T16, L16, k16, n16⟩, -, X16, ⟨Lc16, hQ16, l16, y16, z16⟩, st16⟩ := X15.virtualBack hx (y := own_y23) (z := own_y23) hown (mvT hZ (own_w hw 42 rfl)) (mvT hZ (own_w hw 43 rfl)) (notFace_of_selects (args := #[]) (mvT hZ (own_w hw 45 rfl))) (mvT hZ (own_w hw 45 rfl)) (mvT hZ (own_w hw 44 rfl)) (by decide) (backOf (W := 0) (rmTr0 l Z a0 hw [] b14 T15.heap n0 (Nat.le_trans Z0 K15.1) r15_0) hZ (own_w hw 46 rfl) (own_w hw 28 rfl) (by decide) (by decide)) q16a q16c (g := (mkF m 113 #[.val (.int p1), .val (.int p2), .val (.int p3), .val (.int p4), .val (.int p5), .val (.int p6), .val (.int (0 : Int32)), .val (.int (1 : Int32)), .val (.ref b10), .val .null, .val (.ref b14), .unset] [(.ref b14)])) rfl (by rw [hml]; rfl) (Steps.refl _) (argsL := []) (rest := []) (lenOf pd_16 rfl) rfl (by show 2 * 0 + _ ≤ _; exact Nat.le_of_eq rfl) (hb hby at_113) (fun _ _ => ⟨rfl, rfl, (by decide : 4 + 0 ≤ _), (by decide : 16 + 0 ≤ _)⟩)
      dsimp only [Pt.U, Pt.locs, Pt.cells, Pt.slots] at X16 l16 y16 z16 st16 hQ16
      subst l16 y16 z16
      obtain ⟨rfl, N16q, eh16⟩ := hQ16
      have N16 := Fr.app N15 N16q
      refine own_via st16 ?_
      refine own_go (A := T16.setTop (mkF m 127 #[.val (.int p1), .val (.int p2), .val (.int p3), .val (.int p4), .val (.int p5), .val (.int p6), .val (.int (0 : Int32)), .val (.int (1 : Int32)), .val (.ref b10), .val .null, .val (.ref b14), .val (.int (0 : Int32))] [(.ref b14)])) (fun t_ k_ => ?_) ?_
      · show Steps p.tables e below (T16.setTop (mkF m 116 #[.val (.int p1), .val (.int p2), .val (.int p3), .val (.int p4), .val (.int p5), .val (.int p6), .val (.int (0 : Int32)), .val (.int (1 : Int32)), .val (.ref b10), .val .null, .val (.ref b14), .unset] [(.int (0 : Int32))])) t_
        refine XS.istore X16.here hx rfl (hb hby at_116) rfl (l' := #[.val (.int p1), .val (.int p2), .val (.int p3), .val (.int p4), .val (.int p5), .val (.int p6), .val (.int (0 : Int32)), .val (.int (1 : Int32)), .val (.ref b10), .val .null, .val (.ref b14), .val (.int (0 : Int32))]) rfl ?_
        show Steps p.tables e below (T16.setTop (mkF m 118 #[.val (.int p1), .val (.int p2), .val (.int p3), .val (.int p4), .val (.int p5), .val (.int p6), .val (.int (0 : Int32)), .val (.int (1 : Int32)), .val (.ref b10), .val .null, .val (.ref b14), .val (.int (0 : Int32))] [])) t_
        refine XS.iload X16.here hx rfl (hb hby at_118) rfl ?_
        show Steps p.tables e below (T16.setTop (mkF m 120 #[.val (.int p1), .val (.int p2), .val (.int p3), .val (.int p4), .val (.int p5), .val (.int p6), .val (.int (0 : Int32)), .val (.int (1 : Int32)), .val (.ref b10), .val .null, .val (.ref b14), .val (.int (0 : Int32))] [(.int (0 : Int32))])) t_
        refine XS.iload X16.here hx rfl (hb hby at_120) rfl ?_
        show Steps p.tables e below (T16.setTop (mkF m 122 #[.val (.int p1), .val (.int p2), .val (.int p3), .val (.int p4), .val (.int p5), .val (.int p6), .val (.int (0 : Int32)), .val (.int (1 : Int32)), .val (.ref b10), .val .null, .val (.ref b14), .val (.int (0 : Int32))] [(.int (0 : Int32)), (.int (0 : Int32))])) t_
        refine XS.icmpNo X16.here hx rfl (hb hby at_122) rfl (teq (by decide : (0 : Int32) = (0 : Int32))).2 ?_
        show Steps p.tables e below (T16.setTop (mkF m 125 #[.val (.int p1), .val (.int p2), .val (.int p3), .val (.int p4), .val (.int p5), .val (.int p6), .val (.int (0 : Int32)), .val (.int (1 : Int32)), .val (.ref b10), .val .null, .val (.ref b14), .val (.int (0 : Int32))] [])) t_
        refine XS.aload X16.here hx rfl (hb hby at_125) rfl rfl ?_
        exact k_
      obtain ⟨cq17, kq17, q17a, q17b, q17c⟩ := isOf hZ eh16 (A14.keep Kc15)
      obtain ⟨_, _, ⟨T17, L17, k17, n17⟩, -, X17, ⟨Lc17, hQ17, l17, y17, z17⟩, st17⟩ := X16.virtualBack hx (y := own_y24) (z := own_y24) hown (mvT hZ (own_w hw 47 rfl)) (mvT hZ (own_w hw 48 rfl)) (notFace_of_selects (args := #[]) (mvT hZ (own_w hw 50 rfl))) (mvT hZ (own_w hw 50 rfl)) (mvT hZ (own_w hw 49 rfl)) (by decide) (backOf (W := 0) (rmMar0 l Z a0 hw [] b14 T15.heap n0 (Nat.le_trans Z0 K15.1) r15_0) hZ (own_w hw 51 rfl) (own_w hw 28 rfl) (by decide) (by decide)) q17a q17c (g := (mkF m 127 #[.val (.int p1), .val (.int p2), .val (.int p3), .val (.int p4), .val (.int p5), .val (.int p6), .val (.int (0 : Int32)), .val (.int (1 : Int32)), .val (.ref b10), .val .null, .val (.ref b14), .val (.int (0 : Int32))] [(.ref b14)])) rfl (by rw [hml]; rfl) (Steps.refl _) (argsL := []) (rest := []) (lenOf pd_17 rfl) rfl (by show 2 * 0 + _ ≤ _; exact Nat.le_of_eq rfl) (hb hby at_127) (fun _ _ => ⟨rfl, eh16, (by decide : 4 + 0 ≤ _), (by decide : 16 + 0 ≤ _)⟩)
      dsimp only [Pt.U, Pt.locs, Pt.cells, Pt.slots] at X17 l17 y17 z17 st17 hQ17
      subst l17 y17 z17
      obtain ⟨rfl, N17q, eh17⟩ := hQ17
      have N17 := Fr.app N16 N17q
      refine own_via st17 ?_
      refine own_go (A := T17.setTop (mkF m 140 #[.val (.int p1), .val (.int p2), .val (.int p3), .val (.int p4), .val (.int p5), .val (.int p6), .val (.int (0 : Int32)), .val (.int (1 : Int32)), .val (.ref b10), .val .null, .val (.ref b14), .val (.int (0 : Int32))] [(.int (1 : Int32))])) (fun t_ k_ => ?_) ?_
      · show Steps p.tables e below (T17.setTop (mkF m 130 #[.val (.int p1), .val (.int p2), .val (.int p3), .val (.int p4), .val (.int p5), .val (.int p6), .val (.int (0 : Int32)), .val (.int (1 : Int32)), .val (.ref b10), .val .null, .val (.ref b14), .val (.int (0 : Int32))] [.null])) t_
        refine XS.aload X17.here hx rfl (hb hby at_130) rfl rfl ?_
        show Steps p.tables e below (T17.setTop (mkF m 132 #[.val (.int p1), .val (.int p2), .val (.int p3), .val (.int p4), .val (.int p5), .val (.int p6), .val (.int (0 : Int32)), .val (.int (1 : Int32)), .val (.ref b10), .val .null, .val (.ref b14), .val (.int (0 : Int32))] [.null, .null])) t_
        refine Jvm.RoadKit.acmp (g := (mkF m 132 #[.val (.int p1), .val (.int p2), .val (.int p3), .val (.int p4), .val (.int p5), .val (.int p6), .val (.int (0 : Int32)), .val (.int (1 : Int32)), .val (.ref b10), .val .null, .val (.ref b14), .val (.int (0 : Int32))] [.null, .null])) X17 hx rfl rfl rfl (pc0 := 132) (pc' := 135) (same := true) rfl (hb hby at_132) rfl (decide_eq_true rfl) (by decide) (by decide) ?_
        show Steps p.tables e below (T17.setTop (mkF m 135 #[.val (.int p1), .val (.int p2), .val (.int p3), .val (.int p4), .val (.int p5), .val (.int p6), .val (.int (0 : Int32)), .val (.int (1 : Int32)), .val (.ref b10), .val .null, .val (.ref b14), .val (.int (0 : Int32))] [])) t_
        refine XS.iconst X17.here hx rfl (hb hby at_135) ?_
        show Steps p.tables e below (T17.setTop (mkF m 136 #[.val (.int p1), .val (.int p2), .val (.int p3), .val (.int p4), .val (.int p5), .val (.int p6), .val (.int (0 : Int32)), .val (.int (1 : Int32)), .val (.ref b10), .val .null, .val (.ref b14), .val (.int (0 : Int32))] [(.int (1 : Int32))])) t_
        refine XS.goto X17.here hx rfl (pc0 := 136) (pc' := 140) rfl (hb hby at_136) (by decide) (by decide) ?_
        exact k_
      obtain ⟨fs18, hr18, hrun18, hended18, hRW18⟩ := X17.leaveW hS (by rw [eh17]; exact hk) (v := some (.int (1 : Int32))) (fun h => by rw [Bd.returns] at h; cases h)
      refine ⟨_, _, ?_, hrun18, hended18, _, _, rfl, ?_, ?_, hRW18.1, hRW18.2.1, hRW18.2.2.1, hRW18.2.2.2.mono (by decide) (by decide)⟩
      · exact retN X17 hx (t := .boolean) Bd.returns (by simp) (hb hby at_140) hr18
      · show Q_rm0 Z p1 p2 p3 p4 p5 p6 cs dc kd ca bxc h0 n0 _ T17.heap _
        rw [eh17]
        exact ⟨rfl, N17, K15⟩
      · show CHr Z own_EL s.vm s.heap T17.vm T17.heap
        rw [hh, eh17]
        exact R15.trans (CHv.at X17 hZ hEL R15.1)
    · rw [hm2]
      refine own_go (A := s₁.setTop (mkF m 20 #[.val (.int p1), .val (.int p2), .val (.int p3), .val (.int p4), .val (.int p5), .val (.int p6), .val (.int (0 : Int32)), .val (.int (2 : Int32)), .unset, .unset, .unset, .unset] [])) (fun t_ k_ => ?_) ?_
      · show Steps p.tables e below (s₁.setTop (mkF m 18 #[.val (.int p1), .val (.int p2), .val (.int p3), .val (.int p4), .val (.int p5), .val (.int p6), .val (.int (0 : Int32)), .unset, .unset, .unset, .unset, .unset] [(.int (2 : Int32))])) t_
        refine XS.istore X0.here hx rfl (hb hby at_18) rfl (l' := #[.val (.int p1), .val (.int p2), .val (.int p3), .val (.int p4), .val (.int p5), .val (.int p6), .val (.int (0 : Int32)), .val (.int (2 : Int32)), .unset, .unset, .unset, .unset]) rfl ?_
        exact k_
      obtain ⟨T19, h19, X19, e19, E19, A19, D19, -, st19⟩ := newO X0 hx hZ hown (own_w hw 0 rfl) (own_w hw 1 rfl) (own_w hw 2 rfl) e0 (g := (mkF m 20 #[.val (.int p1), .val (.int p2), .val (.int p3), .val (.int p4), .val (.int p5), .val (.int p6), .val (.int (0 : Int32)), .val (.int (2 : Int32)), .unset, .unset, .unset, .unset] [])) rfl (hb hby at_20) (by decide) (by decide)
      obtain ⟨b19, g19⟩ : ∃ z, z = h0.size := ⟨_, rfl⟩
      rw [← g19] at A19 D19 st19
      refine own_go st19 ?_
      have K19 : Keep h0 h19 [] := (Keep.refl h0 []).ext E19
      have r19 := CHr.ext E19 R0.1
      have R19 := R0.trans r19
      have hk := Nat.le_trans hk E19.1
      have O19 := O0.ext E19
      have Q19 := Safe.ext E19 R0.1 (Safe.new (Nat.le_of_eq g19.symm))
      have F19_modCount : Fld Z h19 b19 "java/util/AbstractList" "modCount" "I" (.int (0 : Int32)) := D19 (Or.inl (own_w hw 22 rfl)) (ty := .int) (by decide)
      have F19_elementData : Fld Z h19 b19 "java/util/ArrayList" "elementData" "[Ljava/lang/Object;" .null := D19 (Or.inl (own_w hw 25 rfl)) (ty := (.array (.object "java/lang/Object"))) (by decide)
      have F19_size : Fld Z h19 b19 "java/util/ArrayList" "size" "I" (.int (0 : Int32)) := D19 (Or.inl (own_w hw 67 rfl)) (ty := .int) (by decide)
      refine own_go (A := T19.setTop (mkF m 24 #[.val (.int p1), .val (.int p2), .val (.int p3), .val (.int p4), .val (.int p5), .val (.int p6), .val (.int (0 : Int32)), .val (.int (2 : Int32)), .unset, .unset, .unset, .unset] [(.ref b19), (.ref b19)])) (fun t_ k_ => ?_) ?_
      · show Steps p.tables e below (T19.setTop (mkF m 23 #[.val (.int p1), .val (.int p2), .val (.int p3), .val (.int p4), .val (.int p5), .val (.int p6), .val (.int (0 : Int32)), .val (.int (2 : Int32)), .unset, .unset, .unset, .unset] [(.ref b19)])) t_
        refine XS.dup X19.here hx rfl (hb hby at_23) rfl rfl ?_
        exact k_
      obtain ⟨_, _, ⟨T20, L20, k20, n20⟩, -, X20, ⟨Lc20, hQ20, l20, y20, z20⟩, st20⟩ := X19.specialBack hx (y := own_y12) rfl hown (mvT hZ (own_w hw 3 rfl)) (mvT hZ (own_w hw 4 rfl)) (mvT hZ (own_w hw 5 rfl)) (by decide) (backOf (W := 1) (rmALI l Z a0 hw [] b19 dc h19 n0 (Nat.le_trans Z0 K19.1) O19 u3 A19 F19_elementData F19_size F19_modCount (Nat.le_trans Z0 (Nat.le_of_eq g19.symm))) hZ (own_w hw 5 rfl) (own_w hw 2 rfl) (by decide) (by decide)) (g := (mkF m 24 #[.val (.int p1), .val (.int p2), .val (.int p3), .val (.int p4), .val (.int p5), .val (.int p6), .val (.int (0 : Int32)), .val (.int (2 : Int32)), .unset, .unset, .unset, .unset] [(.ref b19), (.ref b19)])) rfl (by rw [hml]; rfl) (Steps.refl _) (a := b19) (argsL := []) (rest := [(.ref b19)]) (lenOf pd_9 rfl) rfl (by show 2 * 0 + _ ≤ _; exact Nat.le_of_eq rfl) (hb hby at_24) (fun _ _ => ⟨rfl, e19, (by decide : 1 + 0 ≤ _), (by decide : 3 + 0 ≤ _)⟩)
      dsimp only [Pt.U, Pt.locs, Pt.cells, Pt.slots] at X20 l20 y20 z20 st20 hQ20
      subst l20 y20 z20
      obtain ⟨rfl, N20q, Kc20, r20_0, r20_1, r20_2⟩ := hQ20
      have N20 := Fr.app N0 N20q
      refine own_via st20 ?_
      have K20 : Keep h0 T20.heap [] := K19.trans Kc20 (allS (P := fun x => x ∈ _ ∨ _ ≤ x) (Or.inr (Nat.le_of_eq g19.symm)) all0)
      have r20 := CHr.keep Kc20 (allS (P := fun x => Safe Z own_EL _ _ x) Q19 all0) R19.1
      have R20 := R19.trans r20
      have hk := Nat.le_trans hk Kc20.1
      have O20 := O19.keep Kc20 (allS (P := fun x => n0 ≤ x) (Nat.le_trans Z0 (Nat.le_of_eq g19.symm)) all0)
      refine own_go (A := T20.setTop (mkF m 39 #[.val (.int p1), .val (.int p2), .val (.int p3), .val (.int p4), .val (.int p5), .val (.int p6), .val (.int (0 : Int32)), .val (.int (2 : Int32)), .val (.ref b19), .unset, .unset, .unset] [(.int p6), (.ref b19)])) (fun t_ k_ => ?_) ?_
      · show Steps p.tables e below (T20.setTop (mkF m 27 #[.val (.int p1), .val (.int p2), .val (.int p3), .val (.int p4), .val (.int p5), .val (.int p6), .val (.int (0 : Int32)), .val (.int (2 : Int32)), .unset, .unset, .unset, .unset] [(.ref b19)])) t_
        refine XS.astore X20.here hx rfl (hb hby at_27) rfl rfl (l' := #[.val (.int p1), .val (.int p2), .val (.int p3), .val (.int p4), .val (.int p5), .val (.int p6), .val (.int (0 : Int32)), .val (.int (2 : Int32)), .val (.ref b19), .unset, .unset, .unset]) rfl ?_
        show Steps p.tables e below (T20.setTop (mkF m 29 #[.val (.int p1), .val (.int p2), .val (.int p3), .val (.int p4), .val (.int p5), .val (.int p6), .val (.int (0 : Int32)), .val (.int (2 : Int32)), .val (.ref b19), .unset, .unset, .unset] [])) t_
        refine XS.iload X20.here hx rfl (hb hby at_29) rfl ?_
        show Steps p.tables e below (T20.setTop (mkF m 31 #[.val (.int p1), .val (.int p2), .val (.int p3), .val (.int p4), .val (.int p5), .val (.int p6), .val (.int (0 : Int32)), .val (.int (2 : Int32)), .val (.ref b19), .unset, .unset, .unset] [(.int (2 : Int32))])) t_
        refine XS.iconst X20.here hx rfl (hb hby at_31) ?_
        show Steps p.tables e below (T20.setTop (mkF m 32 #[.val (.int p1), .val (.int p2), .val (.int p3), .val (.int p4), .val (.int p5), .val (.int p6), .val (.int (0 : Int32)), .val (.int (2 : Int32)), .val (.ref b19), .unset, .unset, .unset] [(.int (1 : Int32)), (.int (2 : Int32))])) t_
        refine XS.icmpNo X20.here hx rfl (hb hby at_32) rfl (flt (by decide : ¬ ((2 : Int32) < (1 : Int32)))).1 ?_
        show Steps p.tables e below (T20.setTop (mkF m 35 #[.val (.int p1), .val (.int p2), .val (.int p3), .val (.int p4), .val (.int p5), .val (.int p6), .val (.int (0 : Int32)), .val (.int (2 : Int32)), .val (.ref b19), .unset, .unset, .unset] [])) t_
        refine XS.aload X20.here hx rfl (hb hby at_35) rfl rfl ?_
        show Steps p.tables e below (T20.setTop (mkF m 37 #[.val (.int p1), .val (.int p2), .val (.int p3), .val (.int p4), .val (.int p5), .val (.int p6), .val (.int (0 : Int32)), .val (.int (2 : Int32)), .val (.ref b19), .unset, .unset, .unset] [(.ref b19)])) t_
        refine XS.iload X20.here hx rfl (hb hby at_37) rfl ?_
        exact k_
      obtain ⟨_, _, ⟨T21, L21, k21, n21⟩, -, X21, ⟨Lc21, hQ21, l21, y21, z21⟩, st21⟩ := Jvm.LawKit.callS X20 hx (y := own_y20) hown (mvT hZ (own_w hw 52 rfl)) (mvT hZ (own_w hw 53 rfl)) (mvT hZ (own_w hw 54 rfl)) (mvT hZ (own_w hw 55 rfl)) (by decide) (backOf (W := 1) (rmVO l Z a0 hw [] p6 ca bxc T20.heap n0 (Nat.le_trans Z0 K20.1) O20 u5 u6 hbx) hZ (own_w hw 55 rfl) (own_w hw 54 rfl) (by decide) (by decide)) (g := (mkF m 39 #[.val (.int p1), .val (.int p2), .val (.int p3), .val (.int p4), .val (.int p5), .val (.int p6), .val (.int (0 : Int32)), .val (.int (2 : Int32)), .val (.ref b19), .unset, .unset, .unset] [(.int p6), (.ref b19)])) rfl (by rw [hml]; rfl) (argsL := [(.int p6)]) (rest := [(.ref b19)]) (lenOf pd_18 rfl) rfl (by show 2 * 0 + _ ≤ _; exact Nat.le_of_eq rfl) (hb hby at_39) (fun _ _ => ⟨rfl, rfl, (by decide : 1 + 1 ≤ _), (by decide : 3 + 1 ≤ _)⟩)
      dsimp only [Pt.U, Pt.locs, Pt.cells, Pt.slots] at X21 l21 y21 z21 st21 hQ21
      subst l21 y21 z21
      obtain ⟨r_21, rfl, N21q, Kc21, r21_0⟩ := hQ21
      have N21 := Fr.app N20 N21q
      refine own_go st21 ?_
      have K21 : Keep h0 T21.heap [] := K20.trans Kc21 all0
      have r21 := CHr.keep Kc21 all0 R20.1
      have R21 := R20.trans r21
      have hk := Nat.le_trans hk Kc21.1
      have O21 := O20.keep Kc21 all0
      obtain ⟨cq22, kq22, q22a, q22b, q22c⟩ := isOf hZ rfl ((A19.keep Kc20).keep Kc21)
      obtain ⟨_, _, ⟨T22, L22, k22, n22⟩, -, X22, ⟨Lc22, hQ22, l22, y22, z22⟩, st22⟩ := X21.virtualBack hx (y := own_y17) (z := own_y17) hown (mvT hZ (own_w hw 59 rfl)) (mvT hZ (own_w hw 60 rfl)) (notFace_of_selects (args := #[]) (mvT hZ (own_w hw 62 rfl))) (mvT hZ (own_w hw 62 rfl)) (mvT hZ (own_w hw 61 rfl)) (by decide) (backOf (W := 0) (rmAdd0 l Z a0 hw [] b19 r_21 dc kd (0 : Int32) T21.heap n0 (Nat.le_trans Z0 K21.1) O21 u3 ((A19.keep Kc20).keep Kc21) (r20_0.keep Kc21 nin0) (r20_1.keep Kc21 nin0) (r20_2.keep Kc21 nin0) u4 (Nat.le_trans Z0 (Nat.le_of_eq g19.symm)) r21_0) hZ (own_w hw 63 rfl) (own_w hw 2 rfl) (by decide) (by decide)) q22a q22c (g := (mkF m 42 #[.val (.int p1), .val (.int p2), .val (.int p3), .val (.int p4), .val (.int p5), .val (.int p6), .val (.int (0 : Int32)), .val (.int (2 : Int32)), .val (.ref b19), .unset, .unset, .unset] [(.ref r_21), (.ref b19)])) rfl (by rw [hml]; rfl) (Steps.refl _) (argsL := [(.ref r_21)]) (rest := []) (lenOf pd_19 rfl) rfl (by show 2 * 0 + _ ≤ _; exact Nat.le_of_eq rfl) (hb hby at_42) (fun _ _ => ⟨rfl, rfl, (by decide : 2 + 1 ≤ _), (by decide : 4 + 10 ≤ _)⟩)
      dsimp only [Pt.U, Pt.locs, Pt.cells, Pt.slots] at X22 l22 y22 z22 st22 hQ22
      subst l22 y22 z22
      obtain ⟨ed_22, k_22, rfl, N22q, Kc22, r22_0, r22_1, r22_2, r22_3, r22_4, r22_5⟩ := hQ22
      have N22 := Fr.app N21 N22q
      refine own_via st22 ?_
      have K22 : Keep h0 T22.heap [] := K21.trans Kc22 (allS (P := fun x => x ∈ _ ∨ _ ≤ x) (Or.inr (Nat.le_of_eq g19.symm)) all0)
      have r22 := CHr.keep Kc22 (allS (P := fun x => Safe Z own_EL _ _ x) (r21.safe (Nat.lt_of_lt_of_le A19.lt Kc20.1) (r20.safe A19.lt Q19)) all0) R21.1
      have R22 := R21.trans r22
      have hk := Nat.le_trans hk Kc22.1
      have O22 := O21.keep Kc22 (allS (P := fun x => n0 ≤ x) (Nat.le_trans Z0 (Nat.le_of_eq g19.symm)) all0)
      refine own_go (A := T22.setTop (mkF m 55 #[.val (.int p1), .val (.int p2), .val (.int p3), .val (.int p4), .val (.int p5), .val (.int p6), .val (.int (0 : Int32)), .val (.int (2 : Int32)), .val (.ref b19), .unset, .unset, .unset] [(.int p3), (.ref b19)])) (fun t_ k_ => ?_) ?_
      · show Steps p.tables e below (T22.setTop (mkF m 45 #[.val (.int p1), .val (.int p2), .val (.int p3), .val (.int p4), .val (.int p5), .val (.int p6), .val (.int (0 : Int32)), .val (.int (2 : Int32)), .val (.ref b19), .unset, .unset, .unset] [(.int (1 : Int32))])) t_
        refine XS.pop X22.here hx rfl (hb hby at_45) rfl rfl ?_
        show Steps p.tables e below (T22.setTop (mkF m 46 #[.val (.int p1), .val (.int p2), .val (.int p3), .val (.int p4), .val (.int p5), .val (.int p6), .val (.int (0 : Int32)), .val (.int (2 : Int32)), .val (.ref b19), .unset, .unset, .unset] [])) t_
        refine XS.iload X22.here hx rfl (hb hby at_46) rfl ?_
        show Steps p.tables e below (T22.setTop (mkF m 48 #[.val (.int p1), .val (.int p2), .val (.int p3), .val (.int p4), .val (.int p5), .val (.int p6), .val (.int (0 : Int32)), .val (.int (2 : Int32)), .val (.ref b19), .unset, .unset, .unset] [(.int (2 : Int32))])) t_
        refine XS.iconst X22.here hx rfl (hb hby at_48) ?_
        show Steps p.tables e below (T22.setTop (mkF m 49 #[.val (.int p1), .val (.int p2), .val (.int p3), .val (.int p4), .val (.int p5), .val (.int p6), .val (.int (0 : Int32)), .val (.int (2 : Int32)), .val (.ref b19), .unset, .unset, .unset] [(.int (2 : Int32)), (.int (2 : Int32))])) t_
        refine XS.icmpNo X22.here hx rfl (hb hby at_49) rfl (flt (by decide : ¬ ((2 : Int32) < (2 : Int32)))).1 ?_
        show Steps p.tables e below (T22.setTop (mkF m 52 #[.val (.int p1), .val (.int p2), .val (.int p3), .val (.int p4), .val (.int p5), .val (.int p6), .val (.int (0 : Int32)), .val (.int (2 : Int32)), .val (.ref b19), .unset, .unset, .unset] [])) t_
        refine XS.aload X22.here hx rfl (hb hby at_52) rfl rfl ?_
        show Steps p.tables e below (T22.setTop (mkF m 54 #[.val (.int p1), .val (.int p2), .val (.int p3), .val (.int p4), .val (.int p5), .val (.int p6), .val (.int (0 : Int32)), .val (.int (2 : Int32)), .val (.ref b19), .unset, .unset, .unset] [(.ref b19)])) t_
        refine XS.iloadN X22.here hx rfl (hb hby at_54) rfl ?_
        exact k_
      obtain ⟨_, _, ⟨T23, L23, k23, n23⟩, -, X23, ⟨Lc23, hQ23, l23, y23, z23⟩, st23⟩ := Jvm.LawKit.callS X22 hx (y := own_y20) hown (mvT hZ (own_w hw 52 rfl)) (mvT hZ (own_w hw 53 rfl)) (mvT hZ (own_w hw 54 rfl)) (mvT hZ (own_w hw 55 rfl)) (by decide) (backOf (W := 1) (rmVO l Z a0 hw [] p3 ca bxc T22.heap n0 (Nat.le_trans Z0 K22.1) O22 u5 u6 hbx) hZ (own_w hw 55 rfl) (own_w hw 54 rfl) (by decide) (by decide)) (g := (mkF m 55 #[.val (.int p1), .val (.int p2), .val (.int p3), .val (.int p4), .val (.int p5), .val (.int p6), .val (.int (0 : Int32)), .val (.int (2 : Int32)), .val (.ref b19), .unset, .unset, .unset] [(.int p3), (.ref b19)])) rfl (by rw [hml]; rfl) (argsL := [(.int p3)]) (rest := [(.ref b19)]) (lenOf pd_18 rfl) rfl (by show 2 * 0 + _ ≤ _; exact Nat.le_of_eq rfl) (hb hby at_55) (fun _ _ => ⟨rfl, rfl, (by decide : 3 + 1 ≤ _), (by decide : 14 + 1 ≤ _)⟩)
      dsimp only [Pt.U, Pt.locs, Pt.cells, Pt.slots] at X23 l23 y23 z23 st23 hQ23
      subst l23 y23 z23
      obtain ⟨r_23, rfl, N23q, Kc23, r23_0⟩ := hQ23
      have N23 := Fr.app N22 N23q
      refine own_go st23 ?_
      have K23 : Keep h0 T23.heap [] := K22.trans Kc23 all0
      have r23 := CHr.keep Kc23 all0 R22.1
      have R23 := R22.trans r23
      have hk := Nat.le_trans hk Kc23.1
      have O23 := O22.keep Kc23 all0
      obtain ⟨cq24, kq24, q24a, q24b, q24c⟩ := isOf hZ rfl ((((A19.keep Kc20).keep Kc21).keep Kc22).keep Kc23)
      obtain ⟨_, _, ⟨T24, L24, k24, n24⟩, -, X24, ⟨Lc24, hQ24, l24, y24, z24⟩, st24⟩ := X23.virtualBack hx (y := own_y17) (z := own_y17) hown (mvT hZ (own_w hw 59 rfl)) (mvT hZ (own_w hw 60 rfl)) (notFace_of_selects (args := #[]) (mvT hZ (own_w hw 62 rfl))) (mvT hZ (own_w hw 62 rfl)) (mvT hZ (own_w hw 61 rfl)) (by decide) (backOf (W := 0) (rmAdd1 l Z a0 hw [] b19 r_23 ed_22 k_22 ((0 : Int32) + (1 : Int32)) r_21 T23.heap n0 (Nat.le_trans Z0 K23.1) ((((A19.keep Kc20).keep Kc21).keep Kc22).keep Kc23) (r22_3.keep Kc23 nin0) (r22_4.keep Kc23 nin0) (r22_5.keep Kc23 nin0) (r22_1.keep Kc23 nin0) r22_2 (Nat.le_trans Z0 (Nat.le_of_eq g19.symm)) (Nat.le_trans Z0 (Nat.le_trans K21.1 r22_0)) (Nat.ne_of_lt (Nat.lt_of_lt_of_le (Nat.lt_of_lt_of_le (Nat.lt_of_lt_of_le A19.lt Kc20.1) Kc21.1) r22_0)) r23_0) hZ (own_w hw 63 rfl) (own_w hw 2 rfl) (by decide) (by decide)) q24a q24c (g := (mkF m 58 #[.val (.int p1), .val (.int p2), .val (.int p3), .val (.int p4), .val (.int p5), .val (.int p6), .val (.int (0 : Int32)), .val (.int (2 : Int32)), .val (.ref b19), .unset, .unset, .unset] [(.ref r_23), (.ref b19)])) rfl (by rw [hml]; rfl) (Steps.refl _) (argsL := [(.ref r_23)]) (rest := []) (lenOf pd_19 rfl) rfl (by show 2 * 0 + _ ≤ _; exact Nat.le_of_eq rfl) (hb hby at_58) (fun _ _ => ⟨rfl, rfl, (by decide : 4 + 0 ≤ _), (by decide : 15 + 0 ≤ _)⟩)
      dsimp only [Pt.U, Pt.locs, Pt.cells, Pt.slots] at X24 l24 y24 z24 st24 hQ24
      subst l24 y24 z24
      obtain ⟨rfl, N24q, Kc24, r24_0, r24_1, r24_2, r24_3⟩ := hQ24
      have N24 := Fr.app N23 N24q
      refine own_via st24 ?_
      have K24 : Keep h0 T24.heap [] := K23.trans Kc24 (allS (P := fun x => x ∈ _ ∨ _ ≤ x) (Or.inr (Nat.le_of_eq g19.symm)) (allS (P := fun x => x ∈ _ ∨ _ ≤ x) (Or.inr (Nat.le_trans K21.1 r22_0)) all0))
      have r24 := CHr.keep Kc24 (allS (P := fun x => Safe Z own_EL _ _ x) (r23.safe (Nat.lt_of_lt_of_le (Nat.lt_of_lt_of_le (Nat.lt_of_lt_of_le A19.lt Kc20.1) Kc21.1) Kc22.1) (r22.safe (Nat.lt_of_lt_of_le (Nat.lt_of_lt_of_le A19.lt Kc20.1) Kc21.1) (r21.safe (Nat.lt_of_lt_of_le A19.lt Kc20.1) (r20.safe A19.lt Q19)))) (allS (P := fun x => Safe Z own_EL _ _ x) (own_safeA hZ.alike (r22_1.keep Kc23 nin0) (by decide)) all0)) R23.1
      have R24 := R23.trans r24
      have hk := Nat.le_trans hk Kc24.1
      have O24 := O23.keep Kc24 (allS (P := fun x => n0 ≤ x) (Nat.le_trans Z0 (Nat.le_of_eq g19.symm)) (allS (P := fun x => n0 ≤ x) (Nat.le_trans Z0 (Nat.le_trans K21.1 r22_0)) all0))
      refine own_go (A := T24.setTop (mkF m 98 #[.val (.int p1), .val (.int p2), .val (.int p3), .val (.int p4), .val (.int p5), .val (.int p6), .val (.int (0 : Int32)), .val (.int (2 : Int32)), .val (.ref b19), .val .null, .unset, .unset] [])) (fun t_ k_ => ?_) ?_
      · show Steps p.tables e below (T24.setTop (mkF m 61 #[.val (.int p1), .val (.int p2), .val (.int p3), .val (.int p4), .val (.int p5), .val (.int p6), .val (.int (0 : Int32)), .val (.int (2 : Int32)), .val (.ref b19), .unset, .unset, .unset] [(.int (1 : Int32))])) t_
        refine XS.pop X24.here hx rfl (hb hby at_61) rfl rfl ?_
        show Steps p.tables e below (T24.setTop (mkF m 62 #[.val (.int p1), .val (.int p2), .val (.int p3), .val (.int p4), .val (.int p5), .val (.int p6), .val (.int (0 : Int32)), .val (.int (2 : Int32)), .val (.ref b19), .unset, .unset, .unset] [])) t_
        refine XS.iload X24.here hx rfl (hb hby at_62) rfl ?_
        show Steps p.tables e below (T24.setTop (mkF m 64 #[.val (.int p1), .val (.int p2), .val (.int p3), .val (.int p4), .val (.int p5), .val (.int p6), .val (.int (0 : Int32)), .val (.int (2 : Int32)), .val (.ref b19), .unset, .unset, .unset] [(.int (2 : Int32))])) t_
        refine XS.iconst X24.here hx rfl (hb hby at_64) ?_
        show Steps p.tables e below (T24.setTop (mkF m 65 #[.val (.int p1), .val (.int p2), .val (.int p3), .val (.int p4), .val (.int p5), .val (.int p6), .val (.int (0 : Int32)), .val (.int (2 : Int32)), .val (.ref b19), .unset, .unset, .unset] [(.int (3 : Int32)), (.int (2 : Int32))])) t_
        refine XS.icmpYes X24.here hx rfl (pc0 := 65) (pc' := 78) rfl (hb hby at_65) rfl (tlt (by decide : (2 : Int32) < (3 : Int32))).1 (by decide) (by decide) ?_
        show Steps p.tables e below (T24.setTop (mkF m 78 #[.val (.int p1), .val (.int p2), .val (.int p3), .val (.int p4), .val (.int p5), .val (.int p6), .val (.int (0 : Int32)), .val (.int (2 : Int32)), .val (.ref b19), .unset, .unset, .unset] [])) t_
        refine XS.aconstNull X24.here hx rfl (hb hby at_78) ?_
        show Steps p.tables e below (T24.setTop (mkF m 79 #[.val (.int p1), .val (.int p2), .val (.int p3), .val (.int p4), .val (.int p5), .val (.int p6), .val (.int (0 : Int32)), .val (.int (2 : Int32)), .val (.ref b19), .unset, .unset, .unset] [.null])) t_
        refine XS.astore X24.here hx rfl (hb hby at_79) rfl rfl (l' := #[.val (.int p1), .val (.int p2), .val (.int p3), .val (.int p4), .val (.int p5), .val (.int p6), .val (.int (0 : Int32)), .val (.int (2 : Int32)), .val (.ref b19), .val .null, .unset, .unset]) rfl ?_
        show Steps p.tables e below (T24.setTop (mkF m 81 #[.val (.int p1), .val (.int p2), .val (.int p3), .val (.int p4), .val (.int p5), .val (.int p6), .val (.int (0 : Int32)), .val (.int (2 : Int32)), .val (.ref b19), .val .null, .unset, .unset] [])) t_
        refine XS.iload X24.here hx rfl (hb hby at_81) rfl ?_
        show Steps p.tables e below (T24.setTop (mkF m 83 #[.val (.int p1), .val (.int p2), .val (.int p3), .val (.int p4), .val (.int p5), .val (.int p6), .val (.int (0 : Int32)), .val (.int (2 : Int32)), .val (.ref b19), .val .null, .unset, .unset] [(.int (0 : Int32))])) t_
        refine XS.ifYes X24.here hx rfl (pc0 := 83) (pc' := 98) rfl (hb hby at_83) rfl ((if0 _ _).trans (teq (by decide : (0 : Int32) = (0 : Int32))).1) (by decide) (by decide) ?_
        exact k_
      obtain ⟨T25, h25, X25, e25, E25, A25, D25, -, st25⟩ := newO X24 hx hZ hown (own_w hw 26 rfl) (own_w hw 27 rfl) (own_w hw 28 rfl) rfl (g := (mkF m 98 #[.val (.int p1), .val (.int p2), .val (.int p3), .val (.int p4), .val (.int p5), .val (.int p6), .val (.int (0 : Int32)), .val (.int (2 : Int32)), .val (.ref b19), .val .null, .unset, .unset] [])) rfl (hb hby at_98) (by decide) (by decide)
      obtain ⟨b25, g25⟩ : ∃ z, z = T24.heap.size := ⟨_, rfl⟩
      rw [← g25] at A25 D25 st25
      refine own_go st25 ?_
      have K25 : Keep h0 h25 [] := K24.ext E25
      have r25 := CHr.ext E25 R24.1
      have R25 := R24.trans r25
      have hk := Nat.le_trans hk E25.1
      have O25 := O24.ext E25
      have Q25 := Safe.ext E25 R24.1 (Safe.new (Nat.le_of_eq g25.symm))
      have F25_items : Fld Z h25 b25 "com/example/tenant/tenant/core/Page" "items" "Ljava/util/List;" .null := D25 (Or.inr (own_w hw 39 rfl)) (ty := (.object "java/util/List")) (by decide)
      have F25_marker : Fld Z h25 b25 "com/example/tenant/tenant/core/Page" "marker" "Ljava/lang/String;" .null := D25 (Or.inr (own_w hw 41 rfl)) (ty := (.object "java/lang/String")) (by decide)
      refine own_go (A := T25.setTop (mkF m 106 #[.val (.int p1), .val (.int p2), .val (.int p3), .val (.int p4), .val (.int p5), .val (.int p6), .val (.int (0 : Int32)), .val (.int (2 : Int32)), .val (.ref b19), .val .null, .unset, .unset] [.null, (.ref b19), (.ref b25), (.ref b25)])) (fun t_ k_ => ?_) ?_
      · show Steps p.tables e below (T25.setTop (mkF m 101 #[.val (.int p1), .val (.int p2), .val (.int p3), .val (.int p4), .val (.int p5), .val (.int p6), .val (.int (0 : Int32)), .val (.int (2 : Int32)), .val (.ref b19), .val .null, .unset, .unset] [(.ref b25)])) t_
        refine XS.dup X25.here hx rfl (hb hby at_101) rfl rfl ?_
        show Steps p.tables e below (T25.setTop (mkF m 102 #[.val (.int p1), .val (.int p2), .val (.int p3), .val (.int p4), .val (.int p5), .val (.int p6), .val (.int (0 : Int32)), .val (.int (2 : Int32)), .val (.ref b19), .val .null, .unset, .unset] [(.ref b25), (.ref b25)])) t_
        refine XS.aload X25.here hx rfl (hb hby at_102) rfl rfl ?_
        show Steps p.tables e below (T25.setTop (mkF m 104 #[.val (.int p1), .val (.int p2), .val (.int p3), .val (.int p4), .val (.int p5), .val (.int p6), .val (.int (0 : Int32)), .val (.int (2 : Int32)), .val (.ref b19), .val .null, .unset, .unset] [(.ref b19), (.ref b25), (.ref b25)])) t_
        refine XS.aload X25.here hx rfl (hb hby at_104) rfl rfl ?_
        exact k_
      obtain ⟨_, _, ⟨T26, L26, k26, n26⟩, -, X26, ⟨Lc26, hQ26, l26, y26, z26⟩, st26⟩ := X25.specialBack hx (y := own_y22) rfl hown (mvT hZ (own_w hw 29 rfl)) (mvT hZ (own_w hw 30 rfl)) (mvT hZ (own_w hw 31 rfl)) (by decide) (backOf (W := 1) (rmPage0 l Z a0 hw [] b25 b19 h25 n0 (Nat.le_trans Z0 K25.1) A25 F25_items F25_marker (Nat.le_trans Z0 (Nat.le_trans K24.1 (Nat.le_of_eq g25.symm)))) hZ (own_w hw 31 rfl) (own_w hw 28 rfl) (by decide) (by decide)) (g := (mkF m 106 #[.val (.int p1), .val (.int p2), .val (.int p3), .val (.int p4), .val (.int p5), .val (.int p6), .val (.int (0 : Int32)), .val (.int (2 : Int32)), .val (.ref b19), .val .null, .unset, .unset] [.null, (.ref b19), (.ref b25), (.ref b25)])) rfl (by rw [hml]; rfl) (Steps.refl _) (a := b25) (argsL := [(.ref b19), .null]) (rest := [(.ref b25)]) (lenOf pd_15 rfl) rfl (by show 2 * 0 + _ ≤ _; exact Nat.le_of_eq rfl) (hb hby at_106) (fun _ _ => ⟨rfl, e25, (by decide : 5 + 0 ≤ _), (by decide : 17 + 0 ≤ _)⟩)
      dsimp only [Pt.U, Pt.locs, Pt.cells, Pt.slots] at X26 l26 y26 z26 st26 hQ26
      subst l26 y26 z26
      obtain ⟨rfl, N26q, Kc26, r26_0⟩ := hQ26
      have N26 := Fr.app N24 N26q
      refine own_via st26 ?_
      have K26 : Keep h0 T26.heap [] := K25.trans Kc26 (allS (P := fun x => x ∈ _ ∨ _ ≤ x) (Or.inr (Nat.le_trans K24.1 (Nat.le_of_eq g25.symm))) all0)
      have r26 := CHr.keep Kc26 (allS (P := fun x => Safe Z own_EL _ _ x) Q25 all0) R25.1
      have R26 := R25.trans r26
      have hk := Nat.le_trans hk Kc26.1
      have O26 := O25.keep Kc26 (allS (P := fun x => n0 ≤ x) (Nat.le_trans Z0 (Nat.le_trans K24.1 (Nat.le_of_eq g25.symm))) all0)
      refine own_go (A := T26.setTop (mkF m 113 #[.val (.int p1), .val (.int p2), .val (.int p3), .val (.int p4), .val (.int p5), .val (.int p6), .val (.int (0 : Int32)), .val (.int (2 : Int32)), .val (.ref b19), .val .null, .val (.ref b25), .unset] [(.ref b25)])) (fun t_ k_ => ?_) ?_
      · show Steps p.tables e below (T26.setTop (mkF m 109 #[.val (.int p1), .val (.int p2), .val (.int p3), .val (.int p4), .val (.int p5), .val (.int p6), .val (.int (0 : Int32)), .val (.int (2 : Int32)), .val (.ref b19), .val .null, .unset, .unset] [(.ref b25)])) t_
        refine XS.astore X26.here hx rfl (hb hby at_109) rfl rfl (l' := #[.val (.int p1), .val (.int p2), .val (.int p3), .val (.int p4), .val (.int p5), .val (.int p6), .val (.int (0 : Int32)), .val (.int (2 : Int32)), .val (.ref b19), .val .null, .val (.ref b25), .unset]) rfl ?_
        show Steps p.tables e below (T26.setTop (mkF m 111 #[.val (.int p1), .val (.int p2), .val (.int p3), .val (.int p4), .val (.int p5), .val (.int p6), .val (.int (0 : Int32)), .val (.int (2 : Int32)), .val (.ref b19), .val .null, .val (.ref b25), .unset] [])) t_
        refine XS.aload X26.here hx rfl (hb hby at_111) rfl rfl ?_
        exact k_
      obtain ⟨cq27, kq27, q27a, q27b, q27c⟩ := isOf hZ rfl (A25.keep Kc26)
      obtain ⟨_, _, ⟨T27, L27, k27, n27⟩, -, X27, ⟨Lc27, hQ27, l27, y27, z27⟩, st27⟩ := X26.virtualBack hx (y := own_y23) (z := own_y23) hown (mvT hZ (own_w hw 42 rfl)) (mvT hZ (own_w hw 43 rfl)) (notFace_of_selects (args := #[]) (mvT hZ (own_w hw 45 rfl))) (mvT hZ (own_w hw 45 rfl)) (mvT hZ (own_w hw 44 rfl)) (by decide) (backOf (W := 0) (rmTr0 l Z a0 hw [] b25 T26.heap n0 (Nat.le_trans Z0 K26.1) r26_0) hZ (own_w hw 46 rfl) (own_w hw 28 rfl) (by decide) (by decide)) q27a q27c (g := (mkF m 113 #[.val (.int p1), .val (.int p2), .val (.int p3), .val (.int p4), .val (.int p5), .val (.int p6), .val (.int (0 : Int32)), .val (.int (2 : Int32)), .val (.ref b19), .val .null, .val (.ref b25), .unset] [(.ref b25)])) rfl (by rw [hml]; rfl) (Steps.refl _) (argsL := []) (rest := []) (lenOf pd_16 rfl) rfl (by show 2 * 0 + _ ≤ _; exact Nat.le_of_eq rfl) (hb hby at_113) (fun _ _ => ⟨rfl, rfl, (by decide : 5 + 0 ≤ _), (by decide : 17 + 0 ≤ _)⟩)
      dsimp only [Pt.U, Pt.locs, Pt.cells, Pt.slots] at X27 l27 y27 z27 st27 hQ27
      subst l27 y27 z27
      obtain ⟨rfl, N27q, eh27⟩ := hQ27
      have N27 := Fr.app N26 N27q
      refine own_via st27 ?_
      refine own_go (A := T27.setTop (mkF m 127 #[.val (.int p1), .val (.int p2), .val (.int p3), .val (.int p4), .val (.int p5), .val (.int p6), .val (.int (0 : Int32)), .val (.int (2 : Int32)), .val (.ref b19), .val .null, .val (.ref b25), .val (.int (0 : Int32))] [(.ref b25)])) (fun t_ k_ => ?_) ?_
      · show Steps p.tables e below (T27.setTop (mkF m 116 #[.val (.int p1), .val (.int p2), .val (.int p3), .val (.int p4), .val (.int p5), .val (.int p6), .val (.int (0 : Int32)), .val (.int (2 : Int32)), .val (.ref b19), .val .null, .val (.ref b25), .unset] [(.int (0 : Int32))])) t_
        refine XS.istore X27.here hx rfl (hb hby at_116) rfl (l' := #[.val (.int p1), .val (.int p2), .val (.int p3), .val (.int p4), .val (.int p5), .val (.int p6), .val (.int (0 : Int32)), .val (.int (2 : Int32)), .val (.ref b19), .val .null, .val (.ref b25), .val (.int (0 : Int32))]) rfl ?_
        show Steps p.tables e below (T27.setTop (mkF m 118 #[.val (.int p1), .val (.int p2), .val (.int p3), .val (.int p4), .val (.int p5), .val (.int p6), .val (.int (0 : Int32)), .val (.int (2 : Int32)), .val (.ref b19), .val .null, .val (.ref b25), .val (.int (0 : Int32))] [])) t_
        refine XS.iload X27.here hx rfl (hb hby at_118) rfl ?_
        show Steps p.tables e below (T27.setTop (mkF m 120 #[.val (.int p1), .val (.int p2), .val (.int p3), .val (.int p4), .val (.int p5), .val (.int p6), .val (.int (0 : Int32)), .val (.int (2 : Int32)), .val (.ref b19), .val .null, .val (.ref b25), .val (.int (0 : Int32))] [(.int (0 : Int32))])) t_
        refine XS.iload X27.here hx rfl (hb hby at_120) rfl ?_
        show Steps p.tables e below (T27.setTop (mkF m 122 #[.val (.int p1), .val (.int p2), .val (.int p3), .val (.int p4), .val (.int p5), .val (.int p6), .val (.int (0 : Int32)), .val (.int (2 : Int32)), .val (.ref b19), .val .null, .val (.ref b25), .val (.int (0 : Int32))] [(.int (0 : Int32)), (.int (0 : Int32))])) t_
        refine XS.icmpNo X27.here hx rfl (hb hby at_122) rfl (teq (by decide : (0 : Int32) = (0 : Int32))).2 ?_
        show Steps p.tables e below (T27.setTop (mkF m 125 #[.val (.int p1), .val (.int p2), .val (.int p3), .val (.int p4), .val (.int p5), .val (.int p6), .val (.int (0 : Int32)), .val (.int (2 : Int32)), .val (.ref b19), .val .null, .val (.ref b25), .val (.int (0 : Int32))] [])) t_
        refine XS.aload X27.here hx rfl (hb hby at_125) rfl rfl ?_
        exact k_
      obtain ⟨cq28, kq28, q28a, q28b, q28c⟩ := isOf hZ eh27 (A25.keep Kc26)
      obtain ⟨_, _, ⟨T28, L28, k28, n28⟩, -, X28, ⟨Lc28, hQ28, l28, y28, z28⟩, st28⟩ := X27.virtualBack hx (y := own_y24) (z := own_y24) hown (mvT hZ (own_w hw 47 rfl)) (mvT hZ (own_w hw 48 rfl)) (notFace_of_selects (args := #[]) (mvT hZ (own_w hw 50 rfl))) (mvT hZ (own_w hw 50 rfl)) (mvT hZ (own_w hw 49 rfl)) (by decide) (backOf (W := 0) (rmMar0 l Z a0 hw [] b25 T26.heap n0 (Nat.le_trans Z0 K26.1) r26_0) hZ (own_w hw 51 rfl) (own_w hw 28 rfl) (by decide) (by decide)) q28a q28c (g := (mkF m 127 #[.val (.int p1), .val (.int p2), .val (.int p3), .val (.int p4), .val (.int p5), .val (.int p6), .val (.int (0 : Int32)), .val (.int (2 : Int32)), .val (.ref b19), .val .null, .val (.ref b25), .val (.int (0 : Int32))] [(.ref b25)])) rfl (by rw [hml]; rfl) (Steps.refl _) (argsL := []) (rest := []) (lenOf pd_17 rfl) rfl (by show 2 * 0 + _ ≤ _; exact Nat.le_of_eq rfl) (hb hby at_127) (fun _ _ => ⟨rfl, eh27, (by decide : 5 + 0 ≤ _), (by decide : 17 + 0 ≤ _)⟩)
      dsimp only [Pt.U, Pt.locs, Pt.cells, Pt.slots] at X28 l28 y28 z28 st28 hQ28
      subst l28 y28 z28
      obtain ⟨rfl, N28q, eh28⟩ := hQ28
      have N28 := Fr.app N27 N28q
      refine own_via st28 ?_
      refine own_go (A := T28.setTop (mkF m 140 #[.val (.int p1), .val (.int p2), .val (.int p3), .val (.int p4), .val (.int p5), .val (.int p6), .val (.int (0 : Int32)), .val (.int (2 : Int32)), .val (.ref b19), .val .null, .val (.ref b25), .val (.int (0 : Int32))] [(.int (1 : Int32))])) (fun t_ k_ => ?_) ?_
      · show Steps p.tables e below (T28.setTop (mkF m 130 #[.val (.int p1), .val (.int p2), .val (.int p3), .val (.int p4), .val (.int p5), .val (.int p6), .val (.int (0 : Int32)), .val (.int (2 : Int32)), .val (.ref b19), .val .null, .val (.ref b25), .val (.int (0 : Int32))] [.null])) t_
        refine XS.aload X28.here hx rfl (hb hby at_130) rfl rfl ?_
        show Steps p.tables e below (T28.setTop (mkF m 132 #[.val (.int p1), .val (.int p2), .val (.int p3), .val (.int p4), .val (.int p5), .val (.int p6), .val (.int (0 : Int32)), .val (.int (2 : Int32)), .val (.ref b19), .val .null, .val (.ref b25), .val (.int (0 : Int32))] [.null, .null])) t_
        refine Jvm.RoadKit.acmp (g := (mkF m 132 #[.val (.int p1), .val (.int p2), .val (.int p3), .val (.int p4), .val (.int p5), .val (.int p6), .val (.int (0 : Int32)), .val (.int (2 : Int32)), .val (.ref b19), .val .null, .val (.ref b25), .val (.int (0 : Int32))] [.null, .null])) X28 hx rfl rfl rfl (pc0 := 132) (pc' := 135) (same := true) rfl (hb hby at_132) rfl (decide_eq_true rfl) (by decide) (by decide) ?_
        show Steps p.tables e below (T28.setTop (mkF m 135 #[.val (.int p1), .val (.int p2), .val (.int p3), .val (.int p4), .val (.int p5), .val (.int p6), .val (.int (0 : Int32)), .val (.int (2 : Int32)), .val (.ref b19), .val .null, .val (.ref b25), .val (.int (0 : Int32))] [])) t_
        refine XS.iconst X28.here hx rfl (hb hby at_135) ?_
        show Steps p.tables e below (T28.setTop (mkF m 136 #[.val (.int p1), .val (.int p2), .val (.int p3), .val (.int p4), .val (.int p5), .val (.int p6), .val (.int (0 : Int32)), .val (.int (2 : Int32)), .val (.ref b19), .val .null, .val (.ref b25), .val (.int (0 : Int32))] [(.int (1 : Int32))])) t_
        refine XS.goto X28.here hx rfl (pc0 := 136) (pc' := 140) rfl (hb hby at_136) (by decide) (by decide) ?_
        exact k_
      obtain ⟨fs29, hr29, hrun29, hended29, hRW29⟩ := X28.leaveW hS (by rw [eh28]; exact hk) (v := some (.int (1 : Int32))) (fun h => by rw [Bd.returns] at h; cases h)
      refine ⟨_, _, ?_, hrun29, hended29, _, _, rfl, ?_, ?_, hRW29.1, hRW29.2.1, hRW29.2.2.1, hRW29.2.2.2.mono (by decide) (by decide)⟩
      · exact retN X28 hx (t := .boolean) Bd.returns (by simp) (hb hby at_140) hr29
      · show Q_rm0 Z p1 p2 p3 p4 p5 p6 cs dc kd ca bxc h0 n0 _ T28.heap _
        rw [eh28]
        exact ⟨rfl, N28, K26⟩
      · show CHr Z own_EL s.vm s.heap T28.vm T28.heap
        rw [hh, eh28]
        exact R26.trans (CHv.at X28 hZ hEL R26.1)
    · rw [hm2]
      refine own_go (A := s₁.setTop (mkF m 20 #[.val (.int p1), .val (.int p2), .val (.int p3), .val (.int p4), .val (.int p5), .val (.int p6), .val (.int (0 : Int32)), .val (.int (3 : Int32)), .unset, .unset, .unset, .unset] [])) (fun t_ k_ => ?_) ?_
      · show Steps p.tables e below (s₁.setTop (mkF m 18 #[.val (.int p1), .val (.int p2), .val (.int p3), .val (.int p4), .val (.int p5), .val (.int p6), .val (.int (0 : Int32)), .unset, .unset, .unset, .unset, .unset] [(.int (3 : Int32))])) t_
        refine XS.istore X0.here hx rfl (hb hby at_18) rfl (l' := #[.val (.int p1), .val (.int p2), .val (.int p3), .val (.int p4), .val (.int p5), .val (.int p6), .val (.int (0 : Int32)), .val (.int (3 : Int32)), .unset, .unset, .unset, .unset]) rfl ?_
        exact k_
      obtain ⟨T30, h30, X30, e30, E30, A30, D30, -, st30⟩ := newO X0 hx hZ hown (own_w hw 0 rfl) (own_w hw 1 rfl) (own_w hw 2 rfl) e0 (g := (mkF m 20 #[.val (.int p1), .val (.int p2), .val (.int p3), .val (.int p4), .val (.int p5), .val (.int p6), .val (.int (0 : Int32)), .val (.int (3 : Int32)), .unset, .unset, .unset, .unset] [])) rfl (hb hby at_20) (by decide) (by decide)
      obtain ⟨b30, g30⟩ : ∃ z, z = h0.size := ⟨_, rfl⟩
      rw [← g30] at A30 D30 st30
      refine own_go st30 ?_
      have K30 : Keep h0 h30 [] := (Keep.refl h0 []).ext E30
      have r30 := CHr.ext E30 R0.1
      have R30 := R0.trans r30
      have hk := Nat.le_trans hk E30.1
      have O30 := O0.ext E30
      have Q30 := Safe.ext E30 R0.1 (Safe.new (Nat.le_of_eq g30.symm))
      have F30_modCount : Fld Z h30 b30 "java/util/AbstractList" "modCount" "I" (.int (0 : Int32)) := D30 (Or.inl (own_w hw 22 rfl)) (ty := .int) (by decide)
      have F30_elementData : Fld Z h30 b30 "java/util/ArrayList" "elementData" "[Ljava/lang/Object;" .null := D30 (Or.inl (own_w hw 25 rfl)) (ty := (.array (.object "java/lang/Object"))) (by decide)
      have F30_size : Fld Z h30 b30 "java/util/ArrayList" "size" "I" (.int (0 : Int32)) := D30 (Or.inl (own_w hw 67 rfl)) (ty := .int) (by decide)
      refine own_go (A := T30.setTop (mkF m 24 #[.val (.int p1), .val (.int p2), .val (.int p3), .val (.int p4), .val (.int p5), .val (.int p6), .val (.int (0 : Int32)), .val (.int (3 : Int32)), .unset, .unset, .unset, .unset] [(.ref b30), (.ref b30)])) (fun t_ k_ => ?_) ?_
      · show Steps p.tables e below (T30.setTop (mkF m 23 #[.val (.int p1), .val (.int p2), .val (.int p3), .val (.int p4), .val (.int p5), .val (.int p6), .val (.int (0 : Int32)), .val (.int (3 : Int32)), .unset, .unset, .unset, .unset] [(.ref b30)])) t_
        refine XS.dup X30.here hx rfl (hb hby at_23) rfl rfl ?_
        exact k_
      obtain ⟨_, _, ⟨T31, L31, k31, n31⟩, -, X31, ⟨Lc31, hQ31, l31, y31, z31⟩, st31⟩ := X30.specialBack hx (y := own_y12) rfl hown (mvT hZ (own_w hw 3 rfl)) (mvT hZ (own_w hw 4 rfl)) (mvT hZ (own_w hw 5 rfl)) (by decide) (backOf (W := 1) (rmALI l Z a0 hw [] b30 dc h30 n0 (Nat.le_trans Z0 K30.1) O30 u3 A30 F30_elementData F30_size F30_modCount (Nat.le_trans Z0 (Nat.le_of_eq g30.symm))) hZ (own_w hw 5 rfl) (own_w hw 2 rfl) (by decide) (by decide)) (g := (mkF m 24 #[.val (.int p1), .val (.int p2), .val (.int p3), .val (.int p4), .val (.int p5), .val (.int p6), .val (.int (0 : Int32)), .val (.int (3 : Int32)), .unset, .unset, .unset, .unset] [(.ref b30), (.ref b30)])) rfl (by rw [hml]; rfl) (Steps.refl _) (a := b30) (argsL := []) (rest := [(.ref b30)]) (lenOf pd_9 rfl) rfl (by show 2 * 0 + _ ≤ _; exact Nat.le_of_eq rfl) (hb hby at_24) (fun _ _ => ⟨rfl, e30, (by decide : 1 + 0 ≤ _), (by decide : 3 + 0 ≤ _)⟩)
      dsimp only [Pt.U, Pt.locs, Pt.cells, Pt.slots] at X31 l31 y31 z31 st31 hQ31
      subst l31 y31 z31
      obtain ⟨rfl, N31q, Kc31, r31_0, r31_1, r31_2⟩ := hQ31
      have N31 := Fr.app N0 N31q
      refine own_via st31 ?_
      have K31 : Keep h0 T31.heap [] := K30.trans Kc31 (allS (P := fun x => x ∈ _ ∨ _ ≤ x) (Or.inr (Nat.le_of_eq g30.symm)) all0)
      have r31 := CHr.keep Kc31 (allS (P := fun x => Safe Z own_EL _ _ x) Q30 all0) R30.1
      have R31 := R30.trans r31
      have hk := Nat.le_trans hk Kc31.1
      have O31 := O30.keep Kc31 (allS (P := fun x => n0 ≤ x) (Nat.le_trans Z0 (Nat.le_of_eq g30.symm)) all0)
      refine own_go (A := T31.setTop (mkF m 39 #[.val (.int p1), .val (.int p2), .val (.int p3), .val (.int p4), .val (.int p5), .val (.int p6), .val (.int (0 : Int32)), .val (.int (3 : Int32)), .val (.ref b30), .unset, .unset, .unset] [(.int p6), (.ref b30)])) (fun t_ k_ => ?_) ?_
      · show Steps p.tables e below (T31.setTop (mkF m 27 #[.val (.int p1), .val (.int p2), .val (.int p3), .val (.int p4), .val (.int p5), .val (.int p6), .val (.int (0 : Int32)), .val (.int (3 : Int32)), .unset, .unset, .unset, .unset] [(.ref b30)])) t_
        refine XS.astore X31.here hx rfl (hb hby at_27) rfl rfl (l' := #[.val (.int p1), .val (.int p2), .val (.int p3), .val (.int p4), .val (.int p5), .val (.int p6), .val (.int (0 : Int32)), .val (.int (3 : Int32)), .val (.ref b30), .unset, .unset, .unset]) rfl ?_
        show Steps p.tables e below (T31.setTop (mkF m 29 #[.val (.int p1), .val (.int p2), .val (.int p3), .val (.int p4), .val (.int p5), .val (.int p6), .val (.int (0 : Int32)), .val (.int (3 : Int32)), .val (.ref b30), .unset, .unset, .unset] [])) t_
        refine XS.iload X31.here hx rfl (hb hby at_29) rfl ?_
        show Steps p.tables e below (T31.setTop (mkF m 31 #[.val (.int p1), .val (.int p2), .val (.int p3), .val (.int p4), .val (.int p5), .val (.int p6), .val (.int (0 : Int32)), .val (.int (3 : Int32)), .val (.ref b30), .unset, .unset, .unset] [(.int (3 : Int32))])) t_
        refine XS.iconst X31.here hx rfl (hb hby at_31) ?_
        show Steps p.tables e below (T31.setTop (mkF m 32 #[.val (.int p1), .val (.int p2), .val (.int p3), .val (.int p4), .val (.int p5), .val (.int p6), .val (.int (0 : Int32)), .val (.int (3 : Int32)), .val (.ref b30), .unset, .unset, .unset] [(.int (1 : Int32)), (.int (3 : Int32))])) t_
        refine XS.icmpNo X31.here hx rfl (hb hby at_32) rfl (flt (by decide : ¬ ((3 : Int32) < (1 : Int32)))).1 ?_
        show Steps p.tables e below (T31.setTop (mkF m 35 #[.val (.int p1), .val (.int p2), .val (.int p3), .val (.int p4), .val (.int p5), .val (.int p6), .val (.int (0 : Int32)), .val (.int (3 : Int32)), .val (.ref b30), .unset, .unset, .unset] [])) t_
        refine XS.aload X31.here hx rfl (hb hby at_35) rfl rfl ?_
        show Steps p.tables e below (T31.setTop (mkF m 37 #[.val (.int p1), .val (.int p2), .val (.int p3), .val (.int p4), .val (.int p5), .val (.int p6), .val (.int (0 : Int32)), .val (.int (3 : Int32)), .val (.ref b30), .unset, .unset, .unset] [(.ref b30)])) t_
        refine XS.iload X31.here hx rfl (hb hby at_37) rfl ?_
        exact k_
      obtain ⟨_, _, ⟨T32, L32, k32, n32⟩, -, X32, ⟨Lc32, hQ32, l32, y32, z32⟩, st32⟩ := Jvm.LawKit.callS X31 hx (y := own_y20) hown (mvT hZ (own_w hw 52 rfl)) (mvT hZ (own_w hw 53 rfl)) (mvT hZ (own_w hw 54 rfl)) (mvT hZ (own_w hw 55 rfl)) (by decide) (backOf (W := 1) (rmVO l Z a0 hw [] p6 ca bxc T31.heap n0 (Nat.le_trans Z0 K31.1) O31 u5 u6 hbx) hZ (own_w hw 55 rfl) (own_w hw 54 rfl) (by decide) (by decide)) (g := (mkF m 39 #[.val (.int p1), .val (.int p2), .val (.int p3), .val (.int p4), .val (.int p5), .val (.int p6), .val (.int (0 : Int32)), .val (.int (3 : Int32)), .val (.ref b30), .unset, .unset, .unset] [(.int p6), (.ref b30)])) rfl (by rw [hml]; rfl) (argsL := [(.int p6)]) (rest := [(.ref b30)]) (lenOf pd_18 rfl) rfl (by show 2 * 0 + _ ≤ _; exact Nat.le_of_eq rfl) (hb hby at_39) (fun _ _ => ⟨rfl, rfl, (by decide : 1 + 1 ≤ _), (by decide : 3 + 1 ≤ _)⟩)
      dsimp only [Pt.U, Pt.locs, Pt.cells, Pt.slots] at X32 l32 y32 z32 st32 hQ32
      subst l32 y32 z32
      obtain ⟨r_32, rfl, N32q, Kc32, r32_0⟩ := hQ32
      have N32 := Fr.app N31 N32q
      refine own_go st32 ?_
      have K32 : Keep h0 T32.heap [] := K31.trans Kc32 all0
      have r32 := CHr.keep Kc32 all0 R31.1
      have R32 := R31.trans r32
      have hk := Nat.le_trans hk Kc32.1
      have O32 := O31.keep Kc32 all0
      obtain ⟨cq33, kq33, q33a, q33b, q33c⟩ := isOf hZ rfl ((A30.keep Kc31).keep Kc32)
      obtain ⟨_, _, ⟨T33, L33, k33, n33⟩, -, X33, ⟨Lc33, hQ33, l33, y33, z33⟩, st33⟩ := X32.virtualBack hx (y := own_y17) (z := own_y17) hown (mvT hZ (own_w hw 59 rfl)) (mvT hZ (own_w hw 60 rfl)) (notFace_of_selects (args := #[]) (mvT hZ (own_w hw 62 rfl))) (mvT hZ (own_w hw 62 rfl)) (mvT hZ (own_w hw 61 rfl)) (by decide) (backOf (W := 0) (rmAdd0 l Z a0 hw [] b30 r_32 dc kd (0 : Int32) T32.heap n0 (Nat.le_trans Z0 K32.1) O32 u3 ((A30.keep Kc31).keep Kc32) (r31_0.keep Kc32 nin0) (r31_1.keep Kc32 nin0) (r31_2.keep Kc32 nin0) u4 (Nat.le_trans Z0 (Nat.le_of_eq g30.symm)) r32_0) hZ (own_w hw 63 rfl) (own_w hw 2 rfl) (by decide) (by decide)) q33a q33c (g := (mkF m 42 #[.val (.int p1), .val (.int p2), .val (.int p3), .val (.int p4), .val (.int p5), .val (.int p6), .val (.int (0 : Int32)), .val (.int (3 : Int32)), .val (.ref b30), .unset, .unset, .unset] [(.ref r_32), (.ref b30)])) rfl (by rw [hml]; rfl) (Steps.refl _) (argsL := [(.ref r_32)]) (rest := []) (lenOf pd_19 rfl) rfl (by show 2 * 0 + _ ≤ _; exact Nat.le_of_eq rfl) (hb hby at_42) (fun _ _ => ⟨rfl, rfl, (by decide : 2 + 1 ≤ _), (by decide : 4 + 10 ≤ _)⟩)
      dsimp only [Pt.U, Pt.locs, Pt.cells, Pt.slots] at X33 l33 y33 z33 st33 hQ33
      subst l33 y33 z33
      obtain ⟨ed_33, k_33, rfl, N33q, Kc33, r33_0, r33_1, r33_2, r33_3, r33_4, r33_5⟩ := hQ33
      have N33 := Fr.app N32 N33q
      refine own_via st33 ?_
      have K33 : Keep h0 T33.heap [] := K32.trans Kc33 (allS (P := fun x => x ∈ _ ∨ _ ≤ x) (Or.inr (Nat.le_of_eq g30.symm)) all0)
      have r33 := CHr.keep Kc33 (allS (P := fun x => Safe Z own_EL _ _ x) (r32.safe (Nat.lt_of_lt_of_le A30.lt Kc31.1) (r31.safe A30.lt Q30)) all0) R32.1
      have R33 := R32.trans r33
      have hk := Nat.le_trans hk Kc33.1
      have O33 := O32.keep Kc33 (allS (P := fun x => n0 ≤ x) (Nat.le_trans Z0 (Nat.le_of_eq g30.symm)) all0)
      refine own_go (A := T33.setTop (mkF m 55 #[.val (.int p1), .val (.int p2), .val (.int p3), .val (.int p4), .val (.int p5), .val (.int p6), .val (.int (0 : Int32)), .val (.int (3 : Int32)), .val (.ref b30), .unset, .unset, .unset] [(.int p3), (.ref b30)])) (fun t_ k_ => ?_) ?_
      · show Steps p.tables e below (T33.setTop (mkF m 45 #[.val (.int p1), .val (.int p2), .val (.int p3), .val (.int p4), .val (.int p5), .val (.int p6), .val (.int (0 : Int32)), .val (.int (3 : Int32)), .val (.ref b30), .unset, .unset, .unset] [(.int (1 : Int32))])) t_
        refine XS.pop X33.here hx rfl (hb hby at_45) rfl rfl ?_
        show Steps p.tables e below (T33.setTop (mkF m 46 #[.val (.int p1), .val (.int p2), .val (.int p3), .val (.int p4), .val (.int p5), .val (.int p6), .val (.int (0 : Int32)), .val (.int (3 : Int32)), .val (.ref b30), .unset, .unset, .unset] [])) t_
        refine XS.iload X33.here hx rfl (hb hby at_46) rfl ?_
        show Steps p.tables e below (T33.setTop (mkF m 48 #[.val (.int p1), .val (.int p2), .val (.int p3), .val (.int p4), .val (.int p5), .val (.int p6), .val (.int (0 : Int32)), .val (.int (3 : Int32)), .val (.ref b30), .unset, .unset, .unset] [(.int (3 : Int32))])) t_
        refine XS.iconst X33.here hx rfl (hb hby at_48) ?_
        show Steps p.tables e below (T33.setTop (mkF m 49 #[.val (.int p1), .val (.int p2), .val (.int p3), .val (.int p4), .val (.int p5), .val (.int p6), .val (.int (0 : Int32)), .val (.int (3 : Int32)), .val (.ref b30), .unset, .unset, .unset] [(.int (2 : Int32)), (.int (3 : Int32))])) t_
        refine XS.icmpNo X33.here hx rfl (hb hby at_49) rfl (flt (by decide : ¬ ((3 : Int32) < (2 : Int32)))).1 ?_
        show Steps p.tables e below (T33.setTop (mkF m 52 #[.val (.int p1), .val (.int p2), .val (.int p3), .val (.int p4), .val (.int p5), .val (.int p6), .val (.int (0 : Int32)), .val (.int (3 : Int32)), .val (.ref b30), .unset, .unset, .unset] [])) t_
        refine XS.aload X33.here hx rfl (hb hby at_52) rfl rfl ?_
        show Steps p.tables e below (T33.setTop (mkF m 54 #[.val (.int p1), .val (.int p2), .val (.int p3), .val (.int p4), .val (.int p5), .val (.int p6), .val (.int (0 : Int32)), .val (.int (3 : Int32)), .val (.ref b30), .unset, .unset, .unset] [(.ref b30)])) t_
        refine XS.iloadN X33.here hx rfl (hb hby at_54) rfl ?_
        exact k_
      obtain ⟨_, _, ⟨T34, L34, k34, n34⟩, -, X34, ⟨Lc34, hQ34, l34, y34, z34⟩, st34⟩ := Jvm.LawKit.callS X33 hx (y := own_y20) hown (mvT hZ (own_w hw 52 rfl)) (mvT hZ (own_w hw 53 rfl)) (mvT hZ (own_w hw 54 rfl)) (mvT hZ (own_w hw 55 rfl)) (by decide) (backOf (W := 1) (rmVO l Z a0 hw [] p3 ca bxc T33.heap n0 (Nat.le_trans Z0 K33.1) O33 u5 u6 hbx) hZ (own_w hw 55 rfl) (own_w hw 54 rfl) (by decide) (by decide)) (g := (mkF m 55 #[.val (.int p1), .val (.int p2), .val (.int p3), .val (.int p4), .val (.int p5), .val (.int p6), .val (.int (0 : Int32)), .val (.int (3 : Int32)), .val (.ref b30), .unset, .unset, .unset] [(.int p3), (.ref b30)])) rfl (by rw [hml]; rfl) (argsL := [(.int p3)]) (rest := [(.ref b30)]) (lenOf pd_18 rfl) rfl (by show 2 * 0 + _ ≤ _; exact Nat.le_of_eq rfl) (hb hby at_55) (fun _ _ => ⟨rfl, rfl, (by decide : 3 + 1 ≤ _), (by decide : 14 + 1 ≤ _)⟩)
      dsimp only [Pt.U, Pt.locs, Pt.cells, Pt.slots] at X34 l34 y34 z34 st34 hQ34
      subst l34 y34 z34
      obtain ⟨r_34, rfl, N34q, Kc34, r34_0⟩ := hQ34
      have N34 := Fr.app N33 N34q
      refine own_go st34 ?_
      have K34 : Keep h0 T34.heap [] := K33.trans Kc34 all0
      have r34 := CHr.keep Kc34 all0 R33.1
      have R34 := R33.trans r34
      have hk := Nat.le_trans hk Kc34.1
      have O34 := O33.keep Kc34 all0
      obtain ⟨cq35, kq35, q35a, q35b, q35c⟩ := isOf hZ rfl ((((A30.keep Kc31).keep Kc32).keep Kc33).keep Kc34)
      obtain ⟨_, _, ⟨T35, L35, k35, n35⟩, -, X35, ⟨Lc35, hQ35, l35, y35, z35⟩, st35⟩ := X34.virtualBack hx (y := own_y17) (z := own_y17) hown (mvT hZ (own_w hw 59 rfl)) (mvT hZ (own_w hw 60 rfl)) (notFace_of_selects (args := #[]) (mvT hZ (own_w hw 62 rfl))) (mvT hZ (own_w hw 62 rfl)) (mvT hZ (own_w hw 61 rfl)) (by decide) (backOf (W := 0) (rmAdd1 l Z a0 hw [] b30 r_34 ed_33 k_33 ((0 : Int32) + (1 : Int32)) r_32 T34.heap n0 (Nat.le_trans Z0 K34.1) ((((A30.keep Kc31).keep Kc32).keep Kc33).keep Kc34) (r33_3.keep Kc34 nin0) (r33_4.keep Kc34 nin0) (r33_5.keep Kc34 nin0) (r33_1.keep Kc34 nin0) r33_2 (Nat.le_trans Z0 (Nat.le_of_eq g30.symm)) (Nat.le_trans Z0 (Nat.le_trans K32.1 r33_0)) (Nat.ne_of_lt (Nat.lt_of_lt_of_le (Nat.lt_of_lt_of_le (Nat.lt_of_lt_of_le A30.lt Kc31.1) Kc32.1) r33_0)) r34_0) hZ (own_w hw 63 rfl) (own_w hw 2 rfl) (by decide) (by decide)) q35a q35c (g := (mkF m 58 #[.val (.int p1), .val (.int p2), .val (.int p3), .val (.int p4), .val (.int p5), .val (.int p6), .val (.int (0 : Int32)), .val (.int (3 : Int32)), .val (.ref b30), .unset, .unset, .unset] [(.ref r_34), (.ref b30)])) rfl (by rw [hml]; rfl) (Steps.refl _) (argsL := [(.ref r_34)]) (rest := []) (lenOf pd_19 rfl) rfl (by show 2 * 0 + _ ≤ _; exact Nat.le_of_eq rfl) (hb hby at_58) (fun _ _ => ⟨rfl, rfl, (by decide : 4 + 0 ≤ _), (by decide : 15 + 0 ≤ _)⟩)
      dsimp only [Pt.U, Pt.locs, Pt.cells, Pt.slots] at X35 l35 y35 z35 st35 hQ35
      subst l35 y35 z35
      obtain ⟨rfl, N35q, Kc35, r35_0, r35_1, r35_2, r35_3⟩ := hQ35
      have N35 := Fr.app N34 N35q
      refine own_via st35 ?_
      have K35 : Keep h0 T35.heap [] := K34.trans Kc35 (allS (P := fun x => x ∈ _ ∨ _ ≤ x) (Or.inr (Nat.le_of_eq g30.symm)) (allS (P := fun x => x ∈ _ ∨ _ ≤ x) (Or.inr (Nat.le_trans K32.1 r33_0)) all0))
      have r35 := CHr.keep Kc35 (allS (P := fun x => Safe Z own_EL _ _ x) (r34.safe (Nat.lt_of_lt_of_le (Nat.lt_of_lt_of_le (Nat.lt_of_lt_of_le A30.lt Kc31.1) Kc32.1) Kc33.1) (r33.safe (Nat.lt_of_lt_of_le (Nat.lt_of_lt_of_le A30.lt Kc31.1) Kc32.1) (r32.safe (Nat.lt_of_lt_of_le A30.lt Kc31.1) (r31.safe A30.lt Q30)))) (allS (P := fun x => Safe Z own_EL _ _ x) (own_safeA hZ.alike (r33_1.keep Kc34 nin0) (by decide)) all0)) R34.1
      have R35 := R34.trans r35
      have hk := Nat.le_trans hk Kc35.1
      have O35 := O34.keep Kc35 (allS (P := fun x => n0 ≤ x) (Nat.le_trans Z0 (Nat.le_of_eq g30.symm)) (allS (P := fun x => n0 ≤ x) (Nat.le_trans Z0 (Nat.le_trans K32.1 r33_0)) all0))
      refine own_go (A := T35.setTop (mkF m 71 #[.val (.int p1), .val (.int p2), .val (.int p3), .val (.int p4), .val (.int p5), .val (.int p6), .val (.int (0 : Int32)), .val (.int (3 : Int32)), .val (.ref b30), .unset, .unset, .unset] [(.int p4), (.ref b30)])) (fun t_ k_ => ?_) ?_
      · show Steps p.tables e below (T35.setTop (mkF m 61 #[.val (.int p1), .val (.int p2), .val (.int p3), .val (.int p4), .val (.int p5), .val (.int p6), .val (.int (0 : Int32)), .val (.int (3 : Int32)), .val (.ref b30), .unset, .unset, .unset] [(.int (1 : Int32))])) t_
        refine XS.pop X35.here hx rfl (hb hby at_61) rfl rfl ?_
        show Steps p.tables e below (T35.setTop (mkF m 62 #[.val (.int p1), .val (.int p2), .val (.int p3), .val (.int p4), .val (.int p5), .val (.int p6), .val (.int (0 : Int32)), .val (.int (3 : Int32)), .val (.ref b30), .unset, .unset, .unset] [])) t_
        refine XS.iload X35.here hx rfl (hb hby at_62) rfl ?_
        show Steps p.tables e below (T35.setTop (mkF m 64 #[.val (.int p1), .val (.int p2), .val (.int p3), .val (.int p4), .val (.int p5), .val (.int p6), .val (.int (0 : Int32)), .val (.int (3 : Int32)), .val (.ref b30), .unset, .unset, .unset] [(.int (3 : Int32))])) t_
        refine XS.iconst X35.here hx rfl (hb hby at_64) ?_
        show Steps p.tables e below (T35.setTop (mkF m 65 #[.val (.int p1), .val (.int p2), .val (.int p3), .val (.int p4), .val (.int p5), .val (.int p6), .val (.int (0 : Int32)), .val (.int (3 : Int32)), .val (.ref b30), .unset, .unset, .unset] [(.int (3 : Int32)), (.int (3 : Int32))])) t_
        refine XS.icmpNo X35.here hx rfl (hb hby at_65) rfl (flt (by decide : ¬ ((3 : Int32) < (3 : Int32)))).1 ?_
        show Steps p.tables e below (T35.setTop (mkF m 68 #[.val (.int p1), .val (.int p2), .val (.int p3), .val (.int p4), .val (.int p5), .val (.int p6), .val (.int (0 : Int32)), .val (.int (3 : Int32)), .val (.ref b30), .unset, .unset, .unset] [])) t_
        refine XS.aload X35.here hx rfl (hb hby at_68) rfl rfl ?_
        show Steps p.tables e below (T35.setTop (mkF m 70 #[.val (.int p1), .val (.int p2), .val (.int p3), .val (.int p4), .val (.int p5), .val (.int p6), .val (.int (0 : Int32)), .val (.int (3 : Int32)), .val (.ref b30), .unset, .unset, .unset] [(.ref b30)])) t_
        refine XS.iloadN X35.here hx rfl (hb hby at_70) rfl ?_
        exact k_
      obtain ⟨_, _, ⟨T36, L36, k36, n36⟩, -, X36, ⟨Lc36, hQ36, l36, y36, z36⟩, st36⟩ := Jvm.LawKit.callS X35 hx (y := own_y20) hown (mvT hZ (own_w hw 52 rfl)) (mvT hZ (own_w hw 53 rfl)) (mvT hZ (own_w hw 54 rfl)) (mvT hZ (own_w hw 55 rfl)) (by decide) (backOf (W := 1) (rmVO l Z a0 hw [] p4 ca bxc T35.heap n0 (Nat.le_trans Z0 K35.1) O35 u5 u6 hbx) hZ (own_w hw 55 rfl) (own_w hw 54 rfl) (by decide) (by decide)) (g := (mkF m 71 #[.val (.int p1), .val (.int p2), .val (.int p3), .val (.int p4), .val (.int p5), .val (.int p6), .val (.int (0 : Int32)), .val (.int (3 : Int32)), .val (.ref b30), .unset, .unset, .unset] [(.int p4), (.ref b30)])) rfl (by rw [hml]; rfl) (argsL := [(.int p4)]) (rest := [(.ref b30)]) (lenOf pd_18 rfl) rfl (by show 2 * 0 + _ ≤ _; exact Nat.le_of_eq rfl) (hb hby at_71) (fun _ _ => ⟨rfl, rfl, (by decide : 4 + 1 ≤ _), (by decide : 15 + 1 ≤ _)⟩)
      dsimp only [Pt.U, Pt.locs, Pt.cells, Pt.slots] at X36 l36 y36 z36 st36 hQ36
      subst l36 y36 z36
      obtain ⟨r_36, rfl, N36q, Kc36, r36_0⟩ := hQ36
      have N36 := Fr.app N35 N36q
      refine own_go st36 ?_
      have K36 : Keep h0 T36.heap [] := K35.trans Kc36 all0
      have r36 := CHr.keep Kc36 all0 R35.1
      have R36 := R35.trans r36
      have hk := Nat.le_trans hk Kc36.1
      have O36 := O35.keep Kc36 all0
      obtain ⟨cq37, kq37, q37a, q37b, q37c⟩ := isOf hZ rfl ((((((A30.keep Kc31).keep Kc32).keep Kc33).keep Kc34).keep Kc35).keep Kc36)
      obtain ⟨_, _, ⟨T37, L37, k37, n37⟩, -, X37, ⟨Lc37, hQ37, l37, y37, z37⟩, st37⟩ := X36.virtualBack hx (y := own_y17) (z := own_y17) hown (mvT hZ (own_w hw 59 rfl)) (mvT hZ (own_w hw 60 rfl)) (notFace_of_selects (args := #[]) (mvT hZ (own_w hw 62 rfl))) (mvT hZ (own_w hw 62 rfl)) (mvT hZ (own_w hw 61 rfl)) (by decide) (backOf (W := 0) (rmAdd2 l Z a0 hw [] b30 r_36 ed_33 k_33 (((0 : Int32) + (1 : Int32)) + (1 : Int32)) r_32 r_34 T36.heap n0 (Nat.le_trans Z0 K36.1) ((((((A30.keep Kc31).keep Kc32).keep Kc33).keep Kc34).keep Kc35).keep Kc36) (r35_1.keep Kc36 nin0) (r35_2.keep Kc36 nin0) (r35_3.keep Kc36 nin0) (r35_0.keep Kc36 nin0) r33_2 (Nat.le_trans Z0 (Nat.le_of_eq g30.symm)) (Nat.le_trans Z0 (Nat.le_trans K32.1 r33_0)) (Nat.ne_of_lt (Nat.lt_of_lt_of_le (Nat.lt_of_lt_of_le (Nat.lt_of_lt_of_le A30.lt Kc31.1) Kc32.1) r33_0)) r36_0) hZ (own_w hw 63 rfl) (own_w hw 2 rfl) (by decide) (by decide)) q37a q37c (g := (mkF m 74 #[.val (.int p1), .val (.int p2), .val (.int p3), .val (.int p4), .val (.int p5), .val (.int p6), .val (.int (0 : Int32)), .val (.int (3 : Int32)), .val (.ref b30), .unset, .unset, .unset] [(.ref r_36), (.ref b30)])) rfl (by rw [hml]; rfl) (Steps.refl _) (argsL := [(.ref r_36)]) (rest := []) (lenOf pd_19 rfl) rfl (by show 2 * 0 + _ ≤ _; exact Nat.le_of_eq rfl) (hb hby at_74) (fun _ _ => ⟨rfl, rfl, (by decide : 5 + 0 ≤ _), (by decide : 16 + 0 ≤ _)⟩)
      dsimp only [Pt.U, Pt.locs, Pt.cells, Pt.slots] at X37 l37 y37 z37 st37 hQ37
      subst l37 y37 z37
      obtain ⟨rfl, N37q, Kc37, r37_0, r37_1, r37_2, r37_3⟩ := hQ37
      have N37 := Fr.app N36 N37q
      refine own_via st37 ?_
      have K37 : Keep h0 T37.heap [] := K36.trans Kc37 (allS (P := fun x => x ∈ _ ∨ _ ≤ x) (Or.inr (Nat.le_of_eq g30.symm)) (allS (P := fun x => x ∈ _ ∨ _ ≤ x) (Or.inr (Nat.le_trans K32.1 r33_0)) all0))
      have r37 := CHr.keep Kc37 (allS (P := fun x => Safe Z own_EL _ _ x) (r36.safe (Nat.lt_of_lt_of_le (Nat.lt_of_lt_of_le (Nat.lt_of_lt_of_le (Nat.lt_of_lt_of_le (Nat.lt_of_lt_of_le A30.lt Kc31.1) Kc32.1) Kc33.1) Kc34.1) Kc35.1) (r35.safe (Nat.lt_of_lt_of_le (Nat.lt_of_lt_of_le (Nat.lt_of_lt_of_le (Nat.lt_of_lt_of_le A30.lt Kc31.1) Kc32.1) Kc33.1) Kc34.1) (r34.safe (Nat.lt_of_lt_of_le (Nat.lt_of_lt_of_le (Nat.lt_of_lt_of_le A30.lt Kc31.1) Kc32.1) Kc33.1) (r33.safe (Nat.lt_of_lt_of_le (Nat.lt_of_lt_of_le A30.lt Kc31.1) Kc32.1) (r32.safe (Nat.lt_of_lt_of_le A30.lt Kc31.1) (r31.safe A30.lt Q30)))))) (allS (P := fun x => Safe Z own_EL _ _ x) (own_safeA hZ.alike (r35_0.keep Kc36 nin0) (by decide)) all0)) R36.1
      have R37 := R36.trans r37
      have hk := Nat.le_trans hk Kc37.1
      have O37 := O36.keep Kc37 (allS (P := fun x => n0 ≤ x) (Nat.le_trans Z0 (Nat.le_of_eq g30.symm)) (allS (P := fun x => n0 ≤ x) (Nat.le_trans Z0 (Nat.le_trans K32.1 r33_0)) all0))
      refine own_go (A := T37.setTop (mkF m 98 #[.val (.int p1), .val (.int p2), .val (.int p3), .val (.int p4), .val (.int p5), .val (.int p6), .val (.int (0 : Int32)), .val (.int (3 : Int32)), .val (.ref b30), .val .null, .unset, .unset] [])) (fun t_ k_ => ?_) ?_
      · show Steps p.tables e below (T37.setTop (mkF m 77 #[.val (.int p1), .val (.int p2), .val (.int p3), .val (.int p4), .val (.int p5), .val (.int p6), .val (.int (0 : Int32)), .val (.int (3 : Int32)), .val (.ref b30), .unset, .unset, .unset] [(.int (1 : Int32))])) t_
        refine XS.pop X37.here hx rfl (hb hby at_77) rfl rfl ?_
        show Steps p.tables e below (T37.setTop (mkF m 78 #[.val (.int p1), .val (.int p2), .val (.int p3), .val (.int p4), .val (.int p5), .val (.int p6), .val (.int (0 : Int32)), .val (.int (3 : Int32)), .val (.ref b30), .unset, .unset, .unset] [])) t_
        refine XS.aconstNull X37.here hx rfl (hb hby at_78) ?_
        show Steps p.tables e below (T37.setTop (mkF m 79 #[.val (.int p1), .val (.int p2), .val (.int p3), .val (.int p4), .val (.int p5), .val (.int p6), .val (.int (0 : Int32)), .val (.int (3 : Int32)), .val (.ref b30), .unset, .unset, .unset] [.null])) t_
        refine XS.astore X37.here hx rfl (hb hby at_79) rfl rfl (l' := #[.val (.int p1), .val (.int p2), .val (.int p3), .val (.int p4), .val (.int p5), .val (.int p6), .val (.int (0 : Int32)), .val (.int (3 : Int32)), .val (.ref b30), .val .null, .unset, .unset]) rfl ?_
        show Steps p.tables e below (T37.setTop (mkF m 81 #[.val (.int p1), .val (.int p2), .val (.int p3), .val (.int p4), .val (.int p5), .val (.int p6), .val (.int (0 : Int32)), .val (.int (3 : Int32)), .val (.ref b30), .val .null, .unset, .unset] [])) t_
        refine XS.iload X37.here hx rfl (hb hby at_81) rfl ?_
        show Steps p.tables e below (T37.setTop (mkF m 83 #[.val (.int p1), .val (.int p2), .val (.int p3), .val (.int p4), .val (.int p5), .val (.int p6), .val (.int (0 : Int32)), .val (.int (3 : Int32)), .val (.ref b30), .val .null, .unset, .unset] [(.int (0 : Int32))])) t_
        refine XS.ifYes X37.here hx rfl (pc0 := 83) (pc' := 98) rfl (hb hby at_83) rfl ((if0 _ _).trans (teq (by decide : (0 : Int32) = (0 : Int32))).1) (by decide) (by decide) ?_
        exact k_
      obtain ⟨T38, h38, X38, e38, E38, A38, D38, -, st38⟩ := newO X37 hx hZ hown (own_w hw 26 rfl) (own_w hw 27 rfl) (own_w hw 28 rfl) rfl (g := (mkF m 98 #[.val (.int p1), .val (.int p2), .val (.int p3), .val (.int p4), .val (.int p5), .val (.int p6), .val (.int (0 : Int32)), .val (.int (3 : Int32)), .val (.ref b30), .val .null, .unset, .unset] [])) rfl (hb hby at_98) (by decide) (by decide)
      obtain ⟨b38, g38⟩ : ∃ z, z = T37.heap.size := ⟨_, rfl⟩
      rw [← g38] at A38 D38 st38
      refine own_go st38 ?_
      have K38 : Keep h0 h38 [] := K37.ext E38
      have r38 := CHr.ext E38 R37.1
      have R38 := R37.trans r38
      have hk := Nat.le_trans hk E38.1
      have O38 := O37.ext E38
      have Q38 := Safe.ext E38 R37.1 (Safe.new (Nat.le_of_eq g38.symm))
      have F38_items : Fld Z h38 b38 "com/example/tenant/tenant/core/Page" "items" "Ljava/util/List;" .null := D38 (Or.inr (own_w hw 39 rfl)) (ty := (.object "java/util/List")) (by decide)
      have F38_marker : Fld Z h38 b38 "com/example/tenant/tenant/core/Page" "marker" "Ljava/lang/String;" .null := D38 (Or.inr (own_w hw 41 rfl)) (ty := (.object "java/lang/String")) (by decide)
      refine own_go (A := T38.setTop (mkF m 106 #[.val (.int p1), .val (.int p2), .val (.int p3), .val (.int p4), .val (.int p5), .val (.int p6), .val (.int (0 : Int32)), .val (.int (3 : Int32)), .val (.ref b30), .val .null, .unset, .unset] [.null, (.ref b30), (.ref b38), (.ref b38)])) (fun t_ k_ => ?_) ?_
      · show Steps p.tables e below (T38.setTop (mkF m 101 #[.val (.int p1), .val (.int p2), .val (.int p3), .val (.int p4), .val (.int p5), .val (.int p6), .val (.int (0 : Int32)), .val (.int (3 : Int32)), .val (.ref b30), .val .null, .unset, .unset] [(.ref b38)])) t_
        refine XS.dup X38.here hx rfl (hb hby at_101) rfl rfl ?_
        show Steps p.tables e below (T38.setTop (mkF m 102 #[.val (.int p1), .val (.int p2), .val (.int p3), .val (.int p4), .val (.int p5), .val (.int p6), .val (.int (0 : Int32)), .val (.int (3 : Int32)), .val (.ref b30), .val .null, .unset, .unset] [(.ref b38), (.ref b38)])) t_
        refine XS.aload X38.here hx rfl (hb hby at_102) rfl rfl ?_
        show Steps p.tables e below (T38.setTop (mkF m 104 #[.val (.int p1), .val (.int p2), .val (.int p3), .val (.int p4), .val (.int p5), .val (.int p6), .val (.int (0 : Int32)), .val (.int (3 : Int32)), .val (.ref b30), .val .null, .unset, .unset] [(.ref b30), (.ref b38), (.ref b38)])) t_
        refine XS.aload X38.here hx rfl (hb hby at_104) rfl rfl ?_
        exact k_
      obtain ⟨_, _, ⟨T39, L39, k39, n39⟩, -, X39, ⟨Lc39, hQ39, l39, y39, z39⟩, st39⟩ := X38.specialBack hx (y := own_y22) rfl hown (mvT hZ (own_w hw 29 rfl)) (mvT hZ (own_w hw 30 rfl)) (mvT hZ (own_w hw 31 rfl)) (by decide) (backOf (W := 1) (rmPage0 l Z a0 hw [] b38 b30 h38 n0 (Nat.le_trans Z0 K38.1) A38 F38_items F38_marker (Nat.le_trans Z0 (Nat.le_trans K37.1 (Nat.le_of_eq g38.symm)))) hZ (own_w hw 31 rfl) (own_w hw 28 rfl) (by decide) (by decide)) (g := (mkF m 106 #[.val (.int p1), .val (.int p2), .val (.int p3), .val (.int p4), .val (.int p5), .val (.int p6), .val (.int (0 : Int32)), .val (.int (3 : Int32)), .val (.ref b30), .val .null, .unset, .unset] [.null, (.ref b30), (.ref b38), (.ref b38)])) rfl (by rw [hml]; rfl) (Steps.refl _) (a := b38) (argsL := [(.ref b30), .null]) (rest := [(.ref b38)]) (lenOf pd_15 rfl) rfl (by show 2 * 0 + _ ≤ _; exact Nat.le_of_eq rfl) (hb hby at_106) (fun _ _ => ⟨rfl, e38, (by decide : 6 + 0 ≤ _), (by decide : 18 + 0 ≤ _)⟩)
      dsimp only [Pt.U, Pt.locs, Pt.cells, Pt.slots] at X39 l39 y39 z39 st39 hQ39
      subst l39 y39 z39
      obtain ⟨rfl, N39q, Kc39, r39_0⟩ := hQ39
      have N39 := Fr.app N37 N39q
      refine own_via st39 ?_
      have K39 : Keep h0 T39.heap [] := K38.trans Kc39 (allS (P := fun x => x ∈ _ ∨ _ ≤ x) (Or.inr (Nat.le_trans K37.1 (Nat.le_of_eq g38.symm))) all0)
      have r39 := CHr.keep Kc39 (allS (P := fun x => Safe Z own_EL _ _ x) Q38 all0) R38.1
      have R39 := R38.trans r39
      have hk := Nat.le_trans hk Kc39.1
      have O39 := O38.keep Kc39 (allS (P := fun x => n0 ≤ x) (Nat.le_trans Z0 (Nat.le_trans K37.1 (Nat.le_of_eq g38.symm))) all0)
      refine own_go (A := T39.setTop (mkF m 113 #[.val (.int p1), .val (.int p2), .val (.int p3), .val (.int p4), .val (.int p5), .val (.int p6), .val (.int (0 : Int32)), .val (.int (3 : Int32)), .val (.ref b30), .val .null, .val (.ref b38), .unset] [(.ref b38)])) (fun t_ k_ => ?_) ?_
      · show Steps p.tables e below (T39.setTop (mkF m 109 #[.val (.int p1), .val (.int p2), .val (.int p3), .val (.int p4), .val (.int p5), .val (.int p6), .val (.int (0 : Int32)), .val (.int (3 : Int32)), .val (.ref b30), .val .null, .unset, .unset] [(.ref b38)])) t_
        refine XS.astore X39.here hx rfl (hb hby at_109) rfl rfl (l' := #[.val (.int p1), .val (.int p2), .val (.int p3), .val (.int p4), .val (.int p5), .val (.int p6), .val (.int (0 : Int32)), .val (.int (3 : Int32)), .val (.ref b30), .val .null, .val (.ref b38), .unset]) rfl ?_
        show Steps p.tables e below (T39.setTop (mkF m 111 #[.val (.int p1), .val (.int p2), .val (.int p3), .val (.int p4), .val (.int p5), .val (.int p6), .val (.int (0 : Int32)), .val (.int (3 : Int32)), .val (.ref b30), .val .null, .val (.ref b38), .unset] [])) t_
        refine XS.aload X39.here hx rfl (hb hby at_111) rfl rfl ?_
        exact k_
      obtain ⟨cq40, kq40, q40a, q40b, q40c⟩ := isOf hZ rfl (A38.keep Kc39)
      obtain ⟨_, _, ⟨T40, L40, k40, n40⟩, -, X40, ⟨Lc40, hQ40, l40, y40, z40⟩, st40⟩ := X39.virtualBack hx (y := own_y23) (z := own_y23) hown (mvT hZ (own_w hw 42 rfl)) (mvT hZ (own_w hw 43 rfl)) (notFace_of_selects (args := #[]) (mvT hZ (own_w hw 45 rfl))) (mvT hZ (own_w hw 45 rfl)) (mvT hZ (own_w hw 44 rfl)) (by decide) (backOf (W := 0) (rmTr0 l Z a0 hw [] b38 T39.heap n0 (Nat.le_trans Z0 K39.1) r39_0) hZ (own_w hw 46 rfl) (own_w hw 28 rfl) (by decide) (by decide)) q40a q40c (g := (mkF m 113 #[.val (.int p1), .val (.int p2), .val (.int p3), .val (.int p4), .val (.int p5), .val (.int p6), .val (.int (0 : Int32)), .val (.int (3 : Int32)), .val (.ref b30), .val .null, .val (.ref b38), .unset] [(.ref b38)])) rfl (by rw [hml]; rfl) (Steps.refl _) (argsL := []) (rest := []) (lenOf pd_16 rfl) rfl (by show 2 * 0 + _ ≤ _; exact Nat.le_of_eq rfl) (hb hby at_113) (fun _ _ => ⟨rfl, rfl, (by decide : 6 + 0 ≤ _), (by decide : 18 + 0 ≤ _)⟩)
      dsimp only [Pt.U, Pt.locs, Pt.cells, Pt.slots] at X40 l40 y40 z40 st40 hQ40
      subst l40 y40 z40
      obtain ⟨rfl, N40q, eh40⟩ := hQ40
      have N40 := Fr.app N39 N40q
      refine own_via st40 ?_
      refine own_go (A := T40.setTop (mkF m 127 #[.val (.int p1), .val (.int p2), .val (.int p3), .val (.int p4), .val (.int p5), .val (.int p6), .val (.int (0 : Int32)), .val (.int (3 : Int32)), .val (.ref b30), .val .null, .val (.ref b38), .val (.int (0 : Int32))] [(.ref b38)])) (fun t_ k_ => ?_) ?_
      · show Steps p.tables e below (T40.setTop (mkF m 116 #[.val (.int p1), .val (.int p2), .val (.int p3), .val (.int p4), .val (.int p5), .val (.int p6), .val (.int (0 : Int32)), .val (.int (3 : Int32)), .val (.ref b30), .val .null, .val (.ref b38), .unset] [(.int (0 : Int32))])) t_
        refine XS.istore X40.here hx rfl (hb hby at_116) rfl (l' := #[.val (.int p1), .val (.int p2), .val (.int p3), .val (.int p4), .val (.int p5), .val (.int p6), .val (.int (0 : Int32)), .val (.int (3 : Int32)), .val (.ref b30), .val .null, .val (.ref b38), .val (.int (0 : Int32))]) rfl ?_
        show Steps p.tables e below (T40.setTop (mkF m 118 #[.val (.int p1), .val (.int p2), .val (.int p3), .val (.int p4), .val (.int p5), .val (.int p6), .val (.int (0 : Int32)), .val (.int (3 : Int32)), .val (.ref b30), .val .null, .val (.ref b38), .val (.int (0 : Int32))] [])) t_
        refine XS.iload X40.here hx rfl (hb hby at_118) rfl ?_
        show Steps p.tables e below (T40.setTop (mkF m 120 #[.val (.int p1), .val (.int p2), .val (.int p3), .val (.int p4), .val (.int p5), .val (.int p6), .val (.int (0 : Int32)), .val (.int (3 : Int32)), .val (.ref b30), .val .null, .val (.ref b38), .val (.int (0 : Int32))] [(.int (0 : Int32))])) t_
        refine XS.iload X40.here hx rfl (hb hby at_120) rfl ?_
        show Steps p.tables e below (T40.setTop (mkF m 122 #[.val (.int p1), .val (.int p2), .val (.int p3), .val (.int p4), .val (.int p5), .val (.int p6), .val (.int (0 : Int32)), .val (.int (3 : Int32)), .val (.ref b30), .val .null, .val (.ref b38), .val (.int (0 : Int32))] [(.int (0 : Int32)), (.int (0 : Int32))])) t_
        refine XS.icmpNo X40.here hx rfl (hb hby at_122) rfl (teq (by decide : (0 : Int32) = (0 : Int32))).2 ?_
        show Steps p.tables e below (T40.setTop (mkF m 125 #[.val (.int p1), .val (.int p2), .val (.int p3), .val (.int p4), .val (.int p5), .val (.int p6), .val (.int (0 : Int32)), .val (.int (3 : Int32)), .val (.ref b30), .val .null, .val (.ref b38), .val (.int (0 : Int32))] [])) t_
        refine XS.aload X40.here hx rfl (hb hby at_125) rfl rfl ?_
        exact k_
      obtain ⟨cq41, kq41, q41a, q41b, q41c⟩ := isOf hZ eh40 (A38.keep Kc39)
      obtain ⟨_, _, ⟨T41, L41, k41, n41⟩, -, X41, ⟨Lc41, hQ41, l41, y41, z41⟩, st41⟩ := X40.virtualBack hx (y := own_y24) (z := own_y24) hown (mvT hZ (own_w hw 47 rfl)) (mvT hZ (own_w hw 48 rfl)) (notFace_of_selects (args := #[]) (mvT hZ (own_w hw 50 rfl))) (mvT hZ (own_w hw 50 rfl)) (mvT hZ (own_w hw 49 rfl)) (by decide) (backOf (W := 0) (rmMar0 l Z a0 hw [] b38 T39.heap n0 (Nat.le_trans Z0 K39.1) r39_0) hZ (own_w hw 51 rfl) (own_w hw 28 rfl) (by decide) (by decide)) q41a q41c (g := (mkF m 127 #[.val (.int p1), .val (.int p2), .val (.int p3), .val (.int p4), .val (.int p5), .val (.int p6), .val (.int (0 : Int32)), .val (.int (3 : Int32)), .val (.ref b30), .val .null, .val (.ref b38), .val (.int (0 : Int32))] [(.ref b38)])) rfl (by rw [hml]; rfl) (Steps.refl _) (argsL := []) (rest := []) (lenOf pd_17 rfl) rfl (by show 2 * 0 + _ ≤ _; exact Nat.le_of_eq rfl) (hb hby at_127) (fun _ _ => ⟨rfl, eh40, (by decide : 6 + 0 ≤ _), (by decide : 18 + 0 ≤ _)⟩)
      dsimp only [Pt.U, Pt.locs, Pt.cells, Pt.slots] at X41 l41 y41 z41 st41 hQ41
      subst l41 y41 z41
      obtain ⟨rfl, N41q, eh41⟩ := hQ41
      have N41 := Fr.app N40 N41q
      refine own_via st41 ?_
      refine own_go (A := T41.setTop (mkF m 140 #[.val (.int p1), .val (.int p2), .val (.int p3), .val (.int p4), .val (.int p5), .val (.int p6), .val (.int (0 : Int32)), .val (.int (3 : Int32)), .val (.ref b30), .val .null, .val (.ref b38), .val (.int (0 : Int32))] [(.int (1 : Int32))])) (fun t_ k_ => ?_) ?_
      · show Steps p.tables e below (T41.setTop (mkF m 130 #[.val (.int p1), .val (.int p2), .val (.int p3), .val (.int p4), .val (.int p5), .val (.int p6), .val (.int (0 : Int32)), .val (.int (3 : Int32)), .val (.ref b30), .val .null, .val (.ref b38), .val (.int (0 : Int32))] [.null])) t_
        refine XS.aload X41.here hx rfl (hb hby at_130) rfl rfl ?_
        show Steps p.tables e below (T41.setTop (mkF m 132 #[.val (.int p1), .val (.int p2), .val (.int p3), .val (.int p4), .val (.int p5), .val (.int p6), .val (.int (0 : Int32)), .val (.int (3 : Int32)), .val (.ref b30), .val .null, .val (.ref b38), .val (.int (0 : Int32))] [.null, .null])) t_
        refine Jvm.RoadKit.acmp (g := (mkF m 132 #[.val (.int p1), .val (.int p2), .val (.int p3), .val (.int p4), .val (.int p5), .val (.int p6), .val (.int (0 : Int32)), .val (.int (3 : Int32)), .val (.ref b30), .val .null, .val (.ref b38), .val (.int (0 : Int32))] [.null, .null])) X41 hx rfl rfl rfl (pc0 := 132) (pc' := 135) (same := true) rfl (hb hby at_132) rfl (decide_eq_true rfl) (by decide) (by decide) ?_
        show Steps p.tables e below (T41.setTop (mkF m 135 #[.val (.int p1), .val (.int p2), .val (.int p3), .val (.int p4), .val (.int p5), .val (.int p6), .val (.int (0 : Int32)), .val (.int (3 : Int32)), .val (.ref b30), .val .null, .val (.ref b38), .val (.int (0 : Int32))] [])) t_
        refine XS.iconst X41.here hx rfl (hb hby at_135) ?_
        show Steps p.tables e below (T41.setTop (mkF m 136 #[.val (.int p1), .val (.int p2), .val (.int p3), .val (.int p4), .val (.int p5), .val (.int p6), .val (.int (0 : Int32)), .val (.int (3 : Int32)), .val (.ref b30), .val .null, .val (.ref b38), .val (.int (0 : Int32))] [(.int (1 : Int32))])) t_
        refine XS.goto X41.here hx rfl (pc0 := 136) (pc' := 140) rfl (hb hby at_136) (by decide) (by decide) ?_
        exact k_
      obtain ⟨fs42, hr42, hrun42, hended42, hRW42⟩ := X41.leaveW hS (by rw [eh41]; exact hk) (v := some (.int (1 : Int32))) (fun h => by rw [Bd.returns] at h; cases h)
      refine ⟨_, _, ?_, hrun42, hended42, _, _, rfl, ?_, ?_, hRW42.1, hRW42.2.1, hRW42.2.2.1, hRW42.2.2.2.mono (by decide) (by decide)⟩
      · exact retN X41 hx (t := .boolean) Bd.returns (by simp) (hb hby at_140) hr42
      · show Q_rm0 Z p1 p2 p3 p4 p5 p6 cs dc kd ca bxc h0 n0 _ T41.heap _
        rw [eh41]
        exact ⟨rfl, N41, K39⟩
      · show CHr Z own_EL s.vm s.heap T41.vm T41.heap
        rw [hh, eh41]
        exact R39.trans (CHv.at X41 hZ hEL R39.1)
  · refine own_go (A := s₁.setTop (mkF m 18 #[.val (.int p1), .val (.int p2), .val (.int p3), .val (.int p4), .val (.int p5), .val (.int p6), .val (.int (1 : Int32)), .unset, .unset, .unset, .unset, .unset] [(.int ((p1 >>> ((1 : Int32) &&& 31)) &&& (3 : Int32)))])) (fun t_ k_ => ?_) ?_
    · show Steps p.tables e below (s₁.setTop (mkF m 3 #[.val (.int p1), .val (.int p2), .val (.int p3), .val (.int p4), .val (.int p5), .val (.int p6), .unset, .unset, .unset, .unset, .unset, .unset] [(.int (p1 &&& (1 : Int32)))])) t_
      refine XS.ifNo X0.here hx rfl (hb hby at_3) rfl ((if0 _ _).trans (feq hc3_1).1) ?_
      show Steps p.tables e below (s₁.setTop (mkF m 6 #[.val (.int p1), .val (.int p2), .val (.int p3), .val (.int p4), .val (.int p5), .val (.int p6), .unset, .unset, .unset, .unset, .unset, .unset] [])) t_
      refine XS.iconst X0.here hx rfl (hb hby at_6) ?_
      show Steps p.tables e below (s₁.setTop (mkF m 7 #[.val (.int p1), .val (.int p2), .val (.int p3), .val (.int p4), .val (.int p5), .val (.int p6), .unset, .unset, .unset, .unset, .unset, .unset] [(.int (1 : Int32))])) t_
      refine XS.goto X0.here hx rfl (pc0 := 7) (pc' := 11) rfl (hb hby at_7) (by decide) (by decide) ?_
      show Steps p.tables e below (s₁.setTop (mkF m 11 #[.val (.int p1), .val (.int p2), .val (.int p3), .val (.int p4), .val (.int p5), .val (.int p6), .unset, .unset, .unset, .unset, .unset, .unset] [(.int (1 : Int32))])) t_
      refine XS.istore X0.here hx rfl (hb hby at_11) rfl (l' := #[.val (.int p1), .val (.int p2), .val (.int p3), .val (.int p4), .val (.int p5), .val (.int p6), .val (.int (1 : Int32)), .unset, .unset, .unset, .unset, .unset]) rfl ?_
      show Steps p.tables e below (s₁.setTop (mkF m 13 #[.val (.int p1), .val (.int p2), .val (.int p3), .val (.int p4), .val (.int p5), .val (.int p6), .val (.int (1 : Int32)), .unset, .unset, .unset, .unset, .unset] [])) t_
      refine XS.iloadN X0.here hx rfl (hb hby at_13) rfl ?_
      show Steps p.tables e below (s₁.setTop (mkF m 14 #[.val (.int p1), .val (.int p2), .val (.int p3), .val (.int p4), .val (.int p5), .val (.int p6), .val (.int (1 : Int32)), .unset, .unset, .unset, .unset, .unset] [(.int p1)])) t_
      refine XS.iconst X0.here hx rfl (hb hby at_14) ?_
      show Steps p.tables e below (s₁.setTop (mkF m 15 #[.val (.int p1), .val (.int p2), .val (.int p3), .val (.int p4), .val (.int p5), .val (.int p6), .val (.int (1 : Int32)), .unset, .unset, .unset, .unset, .unset] [(.int (1 : Int32)), (.int p1)])) t_
      refine XS.ishr X0.here hx rfl (hb hby at_15) rfl ?_
      show Steps p.tables e below (s₁.setTop (mkF m 16 #[.val (.int p1), .val (.int p2), .val (.int p3), .val (.int p4), .val (.int p5), .val (.int p6), .val (.int (1 : Int32)), .unset, .unset, .unset, .unset, .unset] [(.int (p1 >>> ((1 : Int32) &&& 31)))])) t_
      refine XS.iconst X0.here hx rfl (hb hby at_16) ?_
      show Steps p.tables e below (s₁.setTop (mkF m 17 #[.val (.int p1), .val (.int p2), .val (.int p3), .val (.int p4), .val (.int p5), .val (.int p6), .val (.int (1 : Int32)), .unset, .unset, .unset, .unset, .unset] [(.int (3 : Int32)), (.int (p1 >>> ((1 : Int32) &&& 31)))])) t_
      refine XS.iand X0.here hx rfl (hb hby at_17) rfl ?_
      exact k_
    rcases own_and3 (p1 >>> ((1 : Int32) &&& 31)) with hm43 | hm43 | hm43 | hm43
    · rw [hm43]
      refine own_go (A := s₁.setTop (mkF m 20 #[.val (.int p1), .val (.int p2), .val (.int p3), .val (.int p4), .val (.int p5), .val (.int p6), .val (.int (1 : Int32)), .val (.int (0 : Int32)), .unset, .unset, .unset, .unset] [])) (fun t_ k_ => ?_) ?_
      · show Steps p.tables e below (s₁.setTop (mkF m 18 #[.val (.int p1), .val (.int p2), .val (.int p3), .val (.int p4), .val (.int p5), .val (.int p6), .val (.int (1 : Int32)), .unset, .unset, .unset, .unset, .unset] [(.int (0 : Int32))])) t_
        refine XS.istore X0.here hx rfl (hb hby at_18) rfl (l' := #[.val (.int p1), .val (.int p2), .val (.int p3), .val (.int p4), .val (.int p5), .val (.int p6), .val (.int (1 : Int32)), .val (.int (0 : Int32)), .unset, .unset, .unset, .unset]) rfl ?_
        exact k_
      obtain ⟨T44, h44, X44, e44, E44, A44, D44, -, st44⟩ := newO X0 hx hZ hown (own_w hw 0 rfl) (own_w hw 1 rfl) (own_w hw 2 rfl) e0 (g := (mkF m 20 #[.val (.int p1), .val (.int p2), .val (.int p3), .val (.int p4), .val (.int p5), .val (.int p6), .val (.int (1 : Int32)), .val (.int (0 : Int32)), .unset, .unset, .unset, .unset] [])) rfl (hb hby at_20) (by decide) (by decide)
      obtain ⟨b44, g44⟩ : ∃ z, z = h0.size := ⟨_, rfl⟩
      rw [← g44] at A44 D44 st44
      refine own_go st44 ?_
      have K44 : Keep h0 h44 [] := (Keep.refl h0 []).ext E44
      have r44 := CHr.ext E44 R0.1
      have R44 := R0.trans r44
      have hk := Nat.le_trans hk E44.1
      have O44 := O0.ext E44
      have Q44 := Safe.ext E44 R0.1 (Safe.new (Nat.le_of_eq g44.symm))
      have F44_modCount : Fld Z h44 b44 "java/util/AbstractList" "modCount" "I" (.int (0 : Int32)) := D44 (Or.inl (own_w hw 22 rfl)) (ty := .int) (by decide)
      have F44_elementData : Fld Z h44 b44 "java/util/ArrayList" "elementData" "[Ljava/lang/Object;" .null := D44 (Or.inl (own_w hw 25 rfl)) (ty := (.array (.object "java/lang/Object"))) (by decide)
      have F44_size : Fld Z h44 b44 "java/util/ArrayList" "size" "I" (.int (0 : Int32)) := D44 (Or.inl (own_w hw 67 rfl)) (ty := .int) (by decide)
      refine own_go (A := T44.setTop (mkF m 24 #[.val (.int p1), .val (.int p2), .val (.int p3), .val (.int p4), .val (.int p5), .val (.int p6), .val (.int (1 : Int32)), .val (.int (0 : Int32)), .unset, .unset, .unset, .unset] [(.ref b44), (.ref b44)])) (fun t_ k_ => ?_) ?_
      · show Steps p.tables e below (T44.setTop (mkF m 23 #[.val (.int p1), .val (.int p2), .val (.int p3), .val (.int p4), .val (.int p5), .val (.int p6), .val (.int (1 : Int32)), .val (.int (0 : Int32)), .unset, .unset, .unset, .unset] [(.ref b44)])) t_
        refine XS.dup X44.here hx rfl (hb hby at_23) rfl rfl ?_
        exact k_
      obtain ⟨_, _, ⟨T45, L45, k45, n45⟩, -, X45, ⟨Lc45, hQ45, l45, y45, z45⟩, st45⟩ := X44.specialBack hx (y := own_y12) rfl hown (mvT hZ (own_w hw 3 rfl)) (mvT hZ (own_w hw 4 rfl)) (mvT hZ (own_w hw 5 rfl)) (by decide) (backOf (W := 1) (rmALI l Z a0 hw [] b44 dc h44 n0 (Nat.le_trans Z0 K44.1) O44 u3 A44 F44_elementData F44_size F44_modCount (Nat.le_trans Z0 (Nat.le_of_eq g44.symm))) hZ (own_w hw 5 rfl) (own_w hw 2 rfl) (by decide) (by decide)) (g := (mkF m 24 #[.val (.int p1), .val (.int p2), .val (.int p3), .val (.int p4), .val (.int p5), .val (.int p6), .val (.int (1 : Int32)), .val (.int (0 : Int32)), .unset, .unset, .unset, .unset] [(.ref b44), (.ref b44)])) rfl (by rw [hml]; rfl) (Steps.refl _) (a := b44) (argsL := []) (rest := [(.ref b44)]) (lenOf pd_9 rfl) rfl (by show 2 * 0 + _ ≤ _; exact Nat.le_of_eq rfl) (hb hby at_24) (fun _ _ => ⟨rfl, e44, (by decide : 1 + 0 ≤ _), (by decide : 3 + 0 ≤ _)⟩)
      dsimp only [Pt.U, Pt.locs, Pt.cells, Pt.slots] at X45 l45 y45 z45 st45 hQ45
      subst l45 y45 z45
      obtain ⟨rfl, N45q, Kc45, r45_0, r45_1, r45_2⟩ := hQ45
      have N45 := Fr.app N0 N45q
      refine own_via st45 ?_
      have K45 : Keep h0 T45.heap [] := K44.trans Kc45 (allS (P := fun x => x ∈ _ ∨ _ ≤ x) (Or.inr (Nat.le_of_eq g44.symm)) all0)
      have r45 := CHr.keep Kc45 (allS (P := fun x => Safe Z own_EL _ _ x) Q44 all0) R44.1
      have R45 := R44.trans r45
      have hk := Nat.le_trans hk Kc45.1
      have O45 := O44.keep Kc45 (allS (P := fun x => n0 ≤ x) (Nat.le_trans Z0 (Nat.le_of_eq g44.symm)) all0)
      refine own_go (A := T45.setTop (mkF m 93 #[.val (.int p1), .val (.int p2), .val (.int p3), .val (.int p4), .val (.int p5), .val (.int p6), .val (.int (1 : Int32)), .val (.int (0 : Int32)), .val (.ref b44), .val .null, .unset, .unset] [(.int p5), (.int p4), (.int p3), (.int (p2 &&& (3 : Int32)))])) (fun t_ k_ => ?_) ?_
      · show Steps p.tables e below (T45.setTop (mkF m 27 #[.val (.int p1), .val (.int p2), .val (.int p3), .val (.int p4), .val (.int p5), .val (.int p6), .val (.int (1 : Int32)), .val (.int (0 : Int32)), .unset, .unset, .unset, .unset] [(.ref b44)])) t_
        refine XS.astore X45.here hx rfl (hb hby at_27) rfl rfl (l' := #[.val (.int p1), .val (.int p2), .val (.int p3), .val (.int p4), .val (.int p5), .val (.int p6), .val (.int (1 : Int32)), .val (.int (0 : Int32)), .val (.ref b44), .unset, .unset, .unset]) rfl ?_
        show Steps p.tables e below (T45.setTop (mkF m 29 #[.val (.int p1), .val (.int p2), .val (.int p3), .val (.int p4), .val (.int p5), .val (.int p6), .val (.int (1 : Int32)), .val (.int (0 : Int32)), .val (.ref b44), .unset, .unset, .unset] [])) t_
        refine XS.iload X45.here hx rfl (hb hby at_29) rfl ?_
        show Steps p.tables e below (T45.setTop (mkF m 31 #[.val (.int p1), .val (.int p2), .val (.int p3), .val (.int p4), .val (.int p5), .val (.int p6), .val (.int (1 : Int32)), .val (.int (0 : Int32)), .val (.ref b44), .unset, .unset, .unset] [(.int (0 : Int32))])) t_
        refine XS.iconst X45.here hx rfl (hb hby at_31) ?_
        show Steps p.tables e below (T45.setTop (mkF m 32 #[.val (.int p1), .val (.int p2), .val (.int p3), .val (.int p4), .val (.int p5), .val (.int p6), .val (.int (1 : Int32)), .val (.int (0 : Int32)), .val (.ref b44), .unset, .unset, .unset] [(.int (1 : Int32)), (.int (0 : Int32))])) t_
        refine XS.icmpYes X45.here hx rfl (pc0 := 32) (pc' := 46) rfl (hb hby at_32) rfl (tlt (by decide : (0 : Int32) < (1 : Int32))).1 (by decide) (by decide) ?_
        show Steps p.tables e below (T45.setTop (mkF m 46 #[.val (.int p1), .val (.int p2), .val (.int p3), .val (.int p4), .val (.int p5), .val (.int p6), .val (.int (1 : Int32)), .val (.int (0 : Int32)), .val (.ref b44), .unset, .unset, .unset] [])) t_
        refine XS.iload X45.here hx rfl (hb hby at_46) rfl ?_
        show Steps p.tables e below (T45.setTop (mkF m 48 #[.val (.int p1), .val (.int p2), .val (.int p3), .val (.int p4), .val (.int p5), .val (.int p6), .val (.int (1 : Int32)), .val (.int (0 : Int32)), .val (.ref b44), .unset, .unset, .unset] [(.int (0 : Int32))])) t_
        refine XS.iconst X45.here hx rfl (hb hby at_48) ?_
        show Steps p.tables e below (T45.setTop (mkF m 49 #[.val (.int p1), .val (.int p2), .val (.int p3), .val (.int p4), .val (.int p5), .val (.int p6), .val (.int (1 : Int32)), .val (.int (0 : Int32)), .val (.ref b44), .unset, .unset, .unset] [(.int (2 : Int32)), (.int (0 : Int32))])) t_
        refine XS.icmpYes X45.here hx rfl (pc0 := 49) (pc' := 62) rfl (hb hby at_49) rfl (tlt (by decide : (0 : Int32) < (2 : Int32))).1 (by decide) (by decide) ?_
        show Steps p.tables e below (T45.setTop (mkF m 62 #[.val (.int p1), .val (.int p2), .val (.int p3), .val (.int p4), .val (.int p5), .val (.int p6), .val (.int (1 : Int32)), .val (.int (0 : Int32)), .val (.ref b44), .unset, .unset, .unset] [])) t_
        refine XS.iload X45.here hx rfl (hb hby at_62) rfl ?_
        show Steps p.tables e below (T45.setTop (mkF m 64 #[.val (.int p1), .val (.int p2), .val (.int p3), .val (.int p4), .val (.int p5), .val (.int p6), .val (.int (1 : Int32)), .val (.int (0 : Int32)), .val (.ref b44), .unset, .unset, .unset] [(.int (0 : Int32))])) t_
        refine XS.iconst X45.here hx rfl (hb hby at_64) ?_
        show Steps p.tables e below (T45.setTop (mkF m 65 #[.val (.int p1), .val (.int p2), .val (.int p3), .val (.int p4), .val (.int p5), .val (.int p6), .val (.int (1 : Int32)), .val (.int (0 : Int32)), .val (.ref b44), .unset, .unset, .unset] [(.int (3 : Int32)), (.int (0 : Int32))])) t_
        refine XS.icmpYes X45.here hx rfl (pc0 := 65) (pc' := 78) rfl (hb hby at_65) rfl (tlt (by decide : (0 : Int32) < (3 : Int32))).1 (by decide) (by decide) ?_
        show Steps p.tables e below (T45.setTop (mkF m 78 #[.val (.int p1), .val (.int p2), .val (.int p3), .val (.int p4), .val (.int p5), .val (.int p6), .val (.int (1 : Int32)), .val (.int (0 : Int32)), .val (.ref b44), .unset, .unset, .unset] [])) t_
        refine XS.aconstNull X45.here hx rfl (hb hby at_78) ?_
        show Steps p.tables e below (T45.setTop (mkF m 79 #[.val (.int p1), .val (.int p2), .val (.int p3), .val (.int p4), .val (.int p5), .val (.int p6), .val (.int (1 : Int32)), .val (.int (0 : Int32)), .val (.ref b44), .unset, .unset, .unset] [.null])) t_
        refine XS.astore X45.here hx rfl (hb hby at_79) rfl rfl (l' := #[.val (.int p1), .val (.int p2), .val (.int p3), .val (.int p4), .val (.int p5), .val (.int p6), .val (.int (1 : Int32)), .val (.int (0 : Int32)), .val (.ref b44), .val .null, .unset, .unset]) rfl ?_
        show Steps p.tables e below (T45.setTop (mkF m 81 #[.val (.int p1), .val (.int p2), .val (.int p3), .val (.int p4), .val (.int p5), .val (.int p6), .val (.int (1 : Int32)), .val (.int (0 : Int32)), .val (.ref b44), .val .null, .unset, .unset] [])) t_
        refine XS.iload X45.here hx rfl (hb hby at_81) rfl ?_
        show Steps p.tables e below (T45.setTop (mkF m 83 #[.val (.int p1), .val (.int p2), .val (.int p3), .val (.int p4), .val (.int p5), .val (.int p6), .val (.int (1 : Int32)), .val (.int (0 : Int32)), .val (.ref b44), .val .null, .unset, .unset] [(.int (1 : Int32))])) t_
        refine XS.ifNo X45.here hx rfl (hb hby at_83) rfl ((if0 _ _).trans (feq (by decide : ¬ ((1 : Int32) = (0 : Int32)))).1) ?_
        show Steps p.tables e below (T45.setTop (mkF m 86 #[.val (.int p1), .val (.int p2), .val (.int p3), .val (.int p4), .val (.int p5), .val (.int p6), .val (.int (1 : Int32)), .val (.int (0 : Int32)), .val (.ref b44), .val .null, .unset, .unset] [])) t_
        refine XS.iloadN X45.here hx rfl (hb hby at_86) rfl ?_
        show Steps p.tables e below (T45.setTop (mkF m 87 #[.val (.int p1), .val (.int p2), .val (.int p3), .val (.int p4), .val (.int p5), .val (.int p6), .val (.int (1 : Int32)), .val (.int (0 : Int32)), .val (.ref b44), .val .null, .unset, .unset] [(.int p2)])) t_
        refine XS.iconst X45.here hx rfl (hb hby at_87) ?_
        show Steps p.tables e below (T45.setTop (mkF m 88 #[.val (.int p1), .val (.int p2), .val (.int p3), .val (.int p4), .val (.int p5), .val (.int p6), .val (.int (1 : Int32)), .val (.int (0 : Int32)), .val (.ref b44), .val .null, .unset, .unset] [(.int (3 : Int32)), (.int p2)])) t_
        refine XS.iand X45.here hx rfl (hb hby at_88) rfl ?_
        show Steps p.tables e below (T45.setTop (mkF m 89 #[.val (.int p1), .val (.int p2), .val (.int p3), .val (.int p4), .val (.int p5), .val (.int p6), .val (.int (1 : Int32)), .val (.int (0 : Int32)), .val (.ref b44), .val .null, .unset, .unset] [(.int (p2 &&& (3 : Int32)))])) t_
        refine XS.iloadN X45.here hx rfl (hb hby at_89) rfl ?_
        show Steps p.tables e below (T45.setTop (mkF m 90 #[.val (.int p1), .val (.int p2), .val (.int p3), .val (.int p4), .val (.int p5), .val (.int p6), .val (.int (1 : Int32)), .val (.int (0 : Int32)), .val (.ref b44), .val .null, .unset, .unset] [(.int p3), (.int (p2 &&& (3 : Int32)))])) t_
        refine XS.iloadN X45.here hx rfl (hb hby at_90) rfl ?_
        show Steps p.tables e below (T45.setTop (mkF m 91 #[.val (.int p1), .val (.int p2), .val (.int p3), .val (.int p4), .val (.int p5), .val (.int p6), .val (.int (1 : Int32)), .val (.int (0 : Int32)), .val (.ref b44), .val .null, .unset, .unset] [(.int p4), (.int p3), (.int (p2 &&& (3 : Int32)))])) t_
        refine XS.iload X45.here hx rfl (hb hby at_91) rfl ?_
        exact k_
      obtain ⟨y46, hqy46⟩ : ∃ z : Int32, z = (p2 &&& (3 : Int32)) := ⟨_, rfl⟩
      rw [← hqy46]
      obtain ⟨_, _, ⟨T47, L47, k47, n47⟩, -, X47, hs47, gs47, ⟨Lc47, hQ47, l47, y47, z47, r47⟩, st47⟩ := callSS X45 hx (y := own_y9) hown (mvT hZ (own_w hw 105 rfl)) (mvT hZ (own_w hw 106 rfl)) (mvT hZ (own_w hw 107 rfl)) (mvT hZ (own_w hw 108 rfl)) (by decide) (backOfSH (W := 0) (rmMk l Z a0 hw [] y46 p3 p4 p5 cs T45.heap n0 (Nat.le_trans Z0 K45.1) O45 u1 hcs) hZ (own_w hw 108 rfl) (own_w hw 107 rfl) (by decide) (by decide) hEL R45.1) (g := (mkF m 93 #[.val (.int p1), .val (.int p2), .val (.int p3), .val (.int p4), .val (.int p5), .val (.int p6), .val (.int (1 : Int32)), .val (.int (0 : Int32)), .val (.ref b44), .val .null, .unset, .unset] [(.int p5), (.int p4), (.int p3), (.int y46)])) rfl (by rw [hml]; rfl) (argsL := [(.int y46), (.int p3), (.int p4), (.int p5)]) (rest := []) (lenOf pd_20 rfl) rfl (by show 2 * 0 + _ ≤ _; exact Nat.le_of_eq rfl) (hb hby at_93) (fun _ _ => ⟨rfl, rfl, (by decide : 1 + 6 ≤ _), (by decide : 3 + 12 ≤ _)⟩)
      dsimp only [Pt.U, Pt.locs, Pt.cells, Pt.slots] at X47 l47 y47 z47 st47 hQ47 hs47 gs47 r47
      subst l47 y47 z47
      obtain ⟨X47, hS, hZ, hown⟩ := rebS hS hk X47 hs47 gs47 hZ hown
      obtain ⟨b_47, rfl, N47q, Kc47, r47_0, r47_1⟩ := hQ47
      have N47 := Fr.app N45 N47q
      refine own_via st47 ?_
      have hk := Nat.le_refl T47.heap.size
      have K47 : Keep h0 T47.heap [] := K45.trans Kc47 all0
      have R47 := R45.trans r47
      have O47 := O45.keep Kc47 all0
      refine own_go (A := T47.setTop (mkF m 98 #[.val (.int p1), .val (.int p2), .val (.int p3), .val (.int p4), .val (.int p5), .val (.int p6), .val (.int (1 : Int32)), .val (.int (0 : Int32)), .val (.ref b44), .val (.ref b_47), .unset, .unset] [])) (fun t_ k_ => ?_) ?_
      · show Steps p.tables e below (T47.setTop (mkF m 96 #[.val (.int p1), .val (.int p2), .val (.int p3), .val (.int p4), .val (.int p5), .val (.int p6), .val (.int (1 : Int32)), .val (.int (0 : Int32)), .val (.ref b44), .val .null, .unset, .unset] [(.ref b_47)])) t_
        refine XS.astore X47.here hx rfl (hb hby at_96) rfl rfl (l' := #[.val (.int p1), .val (.int p2), .val (.int p3), .val (.int p4), .val (.int p5), .val (.int p6), .val (.int (1 : Int32)), .val (.int (0 : Int32)), .val (.ref b44), .val (.ref b_47), .unset, .unset]) rfl ?_
        exact k_
      obtain ⟨T48, h48, X48, e48, E48, A48, D48, -, st48⟩ := newO X47 hx hZ hown (own_w hw 26 rfl) (own_w hw 27 rfl) (own_w hw 28 rfl) rfl (g := (mkF m 98 #[.val (.int p1), .val (.int p2), .val (.int p3), .val (.int p4), .val (.int p5), .val (.int p6), .val (.int (1 : Int32)), .val (.int (0 : Int32)), .val (.ref b44), .val (.ref b_47), .unset, .unset] [])) rfl (hb hby at_98) (by decide) (by decide)
      obtain ⟨b48, g48⟩ : ∃ z, z = T47.heap.size := ⟨_, rfl⟩
      rw [← g48] at A48 D48 st48
      refine own_go st48 ?_
      have K48 : Keep h0 h48 [] := K47.ext E48
      have r48 := CHr.ext E48 R47.1
      have R48 := R47.trans r48
      have hk := Nat.le_trans hk E48.1
      have O48 := O47.ext E48
      have Q48 := Safe.ext E48 R47.1 (Safe.new (Nat.le_of_eq g48.symm))
      have F48_items : Fld Z h48 b48 "com/example/tenant/tenant/core/Page" "items" "Ljava/util/List;" .null := D48 (Or.inr (own_w hw 39 rfl)) (ty := (.object "java/util/List")) (by decide)
      have F48_marker : Fld Z h48 b48 "com/example/tenant/tenant/core/Page" "marker" "Ljava/lang/String;" .null := D48 (Or.inr (own_w hw 41 rfl)) (ty := (.object "java/lang/String")) (by decide)
      refine own_go (A := T48.setTop (mkF m 106 #[.val (.int p1), .val (.int p2), .val (.int p3), .val (.int p4), .val (.int p5), .val (.int p6), .val (.int (1 : Int32)), .val (.int (0 : Int32)), .val (.ref b44), .val (.ref b_47), .unset, .unset] [(.ref b_47), (.ref b44), (.ref b48), (.ref b48)])) (fun t_ k_ => ?_) ?_
      · show Steps p.tables e below (T48.setTop (mkF m 101 #[.val (.int p1), .val (.int p2), .val (.int p3), .val (.int p4), .val (.int p5), .val (.int p6), .val (.int (1 : Int32)), .val (.int (0 : Int32)), .val (.ref b44), .val (.ref b_47), .unset, .unset] [(.ref b48)])) t_
        refine XS.dup X48.here hx rfl (hb hby at_101) rfl rfl ?_
        show Steps p.tables e below (T48.setTop (mkF m 102 #[.val (.int p1), .val (.int p2), .val (.int p3), .val (.int p4), .val (.int p5), .val (.int p6), .val (.int (1 : Int32)), .val (.int (0 : Int32)), .val (.ref b44), .val (.ref b_47), .unset, .unset] [(.ref b48), (.ref b48)])) t_
        refine XS.aload X48.here hx rfl (hb hby at_102) rfl rfl ?_
        show Steps p.tables e below (T48.setTop (mkF m 104 #[.val (.int p1), .val (.int p2), .val (.int p3), .val (.int p4), .val (.int p5), .val (.int p6), .val (.int (1 : Int32)), .val (.int (0 : Int32)), .val (.ref b44), .val (.ref b_47), .unset, .unset] [(.ref b44), (.ref b48), (.ref b48)])) t_
        refine XS.aload X48.here hx rfl (hb hby at_104) rfl rfl ?_
        exact k_
      obtain ⟨_, _, ⟨T49, L49, k49, n49⟩, -, X49, ⟨Lc49, hQ49, l49, y49, z49⟩, st49⟩ := X48.specialBack hx (y := own_y22) rfl hown (mvT hZ (own_w hw 29 rfl)) (mvT hZ (own_w hw 30 rfl)) (mvT hZ (own_w hw 31 rfl)) (by decide) (backOf (W := 1) (rmPage1 l Z a0 hw [] b48 b44 b_47 h48 n0 (Nat.le_trans Z0 K48.1) A48 F48_items F48_marker (Nat.le_trans Z0 (Nat.le_trans K47.1 (Nat.le_of_eq g48.symm)))) hZ (own_w hw 31 rfl) (own_w hw 28 rfl) (by decide) (by decide)) (g := (mkF m 106 #[.val (.int p1), .val (.int p2), .val (.int p3), .val (.int p4), .val (.int p5), .val (.int p6), .val (.int (1 : Int32)), .val (.int (0 : Int32)), .val (.ref b44), .val (.ref b_47), .unset, .unset] [(.ref b_47), (.ref b44), (.ref b48), (.ref b48)])) rfl (by rw [hml]; rfl) (Steps.refl _) (a := b48) (argsL := [(.ref b44), (.ref b_47)]) (rest := [(.ref b48)]) (lenOf pd_15 rfl) rfl (by show 2 * 0 + _ ≤ _; exact Nat.le_of_eq rfl) (hb hby at_106) (fun _ _ => ⟨rfl, e48, (by decide : 8 + 0 ≤ _), (by decide : 17 + 0 ≤ _)⟩)
      dsimp only [Pt.U, Pt.locs, Pt.cells, Pt.slots] at X49 l49 y49 z49 st49 hQ49
      subst l49 y49 z49
      obtain ⟨rfl, N49q, Kc49, r49_0⟩ := hQ49
      have N49 := Fr.app N47 N49q
      refine own_via st49 ?_
      have K49 : Keep h0 T49.heap [] := K48.trans Kc49 (allS (P := fun x => x ∈ _ ∨ _ ≤ x) (Or.inr (Nat.le_trans K47.1 (Nat.le_of_eq g48.symm))) all0)
      have r49 := CHr.keep Kc49 (allS (P := fun x => Safe Z own_EL _ _ x) Q48 all0) R48.1
      have R49 := R48.trans r49
      have hk := Nat.le_trans hk Kc49.1
      have O49 := O48.keep Kc49 (allS (P := fun x => n0 ≤ x) (Nat.le_trans Z0 (Nat.le_trans K47.1 (Nat.le_of_eq g48.symm))) all0)
      refine own_go (A := T49.setTop (mkF m 113 #[.val (.int p1), .val (.int p2), .val (.int p3), .val (.int p4), .val (.int p5), .val (.int p6), .val (.int (1 : Int32)), .val (.int (0 : Int32)), .val (.ref b44), .val (.ref b_47), .val (.ref b48), .unset] [(.ref b48)])) (fun t_ k_ => ?_) ?_
      · show Steps p.tables e below (T49.setTop (mkF m 109 #[.val (.int p1), .val (.int p2), .val (.int p3), .val (.int p4), .val (.int p5), .val (.int p6), .val (.int (1 : Int32)), .val (.int (0 : Int32)), .val (.ref b44), .val (.ref b_47), .unset, .unset] [(.ref b48)])) t_
        refine XS.astore X49.here hx rfl (hb hby at_109) rfl rfl (l' := #[.val (.int p1), .val (.int p2), .val (.int p3), .val (.int p4), .val (.int p5), .val (.int p6), .val (.int (1 : Int32)), .val (.int (0 : Int32)), .val (.ref b44), .val (.ref b_47), .val (.ref b48), .unset]) rfl ?_
        show Steps p.tables e below (T49.setTop (mkF m 111 #[.val (.int p1), .val (.int p2), .val (.int p3), .val (.int p4), .val (.int p5), .val (.int p6), .val (.int (1 : Int32)), .val (.int (0 : Int32)), .val (.ref b44), .val (.ref b_47), .val (.ref b48), .unset] [])) t_
        refine XS.aload X49.here hx rfl (hb hby at_111) rfl rfl ?_
        exact k_
      obtain ⟨cq50, kq50, q50a, q50b, q50c⟩ := isOf hZ rfl (A48.keep Kc49)
      obtain ⟨_, _, ⟨T50, L50, k50, n50⟩, -, X50, ⟨Lc50, hQ50, l50, y50, z50⟩, st50⟩ := X49.virtualBack hx (y := own_y23) (z := own_y23) hown (mvT hZ (own_w hw 42 rfl)) (mvT hZ (own_w hw 43 rfl)) (notFace_of_selects (args := #[]) (mvT hZ (own_w hw 45 rfl))) (mvT hZ (own_w hw 45 rfl)) (mvT hZ (own_w hw 44 rfl)) (by decide) (backOf (W := 0) (rmTr1 l Z a0 hw [] b48 b_47 T49.heap n0 (Nat.le_trans Z0 K49.1) r49_0) hZ (own_w hw 46 rfl) (own_w hw 28 rfl) (by decide) (by decide)) q50a q50c (g := (mkF m 113 #[.val (.int p1), .val (.int p2), .val (.int p3), .val (.int p4), .val (.int p5), .val (.int p6), .val (.int (1 : Int32)), .val (.int (0 : Int32)), .val (.ref b44), .val (.ref b_47), .val (.ref b48), .unset] [(.ref b48)])) rfl (by rw [hml]; rfl) (Steps.refl _) (argsL := []) (rest := []) (lenOf pd_16 rfl) rfl (by show 2 * 0 + _ ≤ _; exact Nat.le_of_eq rfl) (hb hby at_113) (fun _ _ => ⟨rfl, rfl, (by decide : 8 + 0 ≤ _), (by decide : 17 + 0 ≤ _)⟩)
      dsimp only [Pt.U, Pt.locs, Pt.cells, Pt.slots] at X50 l50 y50 z50 st50 hQ50
      subst l50 y50 z50
      obtain ⟨rfl, N50q, eh50⟩ := hQ50
      have N50 := Fr.app N49 N50q
      refine own_via st50 ?_
      refine own_go (A := T50.setTop (mkF m 127 #[.val (.int p1), .val (.int p2), .val (.int p3), .val (.int p4), .val (.int p5), .val (.int p6), .val (.int (1 : Int32)), .val (.int (0 : Int32)), .val (.ref b44), .val (.ref b_47), .val (.ref b48), .val (.int (1 : Int32))] [(.ref b48)])) (fun t_ k_ => ?_) ?_
      · show Steps p.tables e below (T50.setTop (mkF m 116 #[.val (.int p1), .val (.int p2), .val (.int p3), .val (.int p4), .val (.int p5), .val (.int p6), .val (.int (1 : Int32)), .val (.int (0 : Int32)), .val (.ref b44), .val (.ref b_47), .val (.ref b48), .unset] [(.int (1 : Int32))])) t_
        refine XS.istore X50.here hx rfl (hb hby at_116) rfl (l' := #[.val (.int p1), .val (.int p2), .val (.int p3), .val (.int p4), .val (.int p5), .val (.int p6), .val (.int (1 : Int32)), .val (.int (0 : Int32)), .val (.ref b44), .val (.ref b_47), .val (.ref b48), .val (.int (1 : Int32))]) rfl ?_
        show Steps p.tables e below (T50.setTop (mkF m 118 #[.val (.int p1), .val (.int p2), .val (.int p3), .val (.int p4), .val (.int p5), .val (.int p6), .val (.int (1 : Int32)), .val (.int (0 : Int32)), .val (.ref b44), .val (.ref b_47), .val (.ref b48), .val (.int (1 : Int32))] [])) t_
        refine XS.iload X50.here hx rfl (hb hby at_118) rfl ?_
        show Steps p.tables e below (T50.setTop (mkF m 120 #[.val (.int p1), .val (.int p2), .val (.int p3), .val (.int p4), .val (.int p5), .val (.int p6), .val (.int (1 : Int32)), .val (.int (0 : Int32)), .val (.ref b44), .val (.ref b_47), .val (.ref b48), .val (.int (1 : Int32))] [(.int (1 : Int32))])) t_
        refine XS.iload X50.here hx rfl (hb hby at_120) rfl ?_
        show Steps p.tables e below (T50.setTop (mkF m 122 #[.val (.int p1), .val (.int p2), .val (.int p3), .val (.int p4), .val (.int p5), .val (.int p6), .val (.int (1 : Int32)), .val (.int (0 : Int32)), .val (.ref b44), .val (.ref b_47), .val (.ref b48), .val (.int (1 : Int32))] [(.int (1 : Int32)), (.int (1 : Int32))])) t_
        refine XS.icmpNo X50.here hx rfl (hb hby at_122) rfl (teq (by decide : (1 : Int32) = (1 : Int32))).2 ?_
        show Steps p.tables e below (T50.setTop (mkF m 125 #[.val (.int p1), .val (.int p2), .val (.int p3), .val (.int p4), .val (.int p5), .val (.int p6), .val (.int (1 : Int32)), .val (.int (0 : Int32)), .val (.ref b44), .val (.ref b_47), .val (.ref b48), .val (.int (1 : Int32))] [])) t_
        refine XS.aload X50.here hx rfl (hb hby at_125) rfl rfl ?_
        exact k_
      obtain ⟨cq51, kq51, q51a, q51b, q51c⟩ := isOf hZ eh50 (A48.keep Kc49)
      obtain ⟨_, _, ⟨T51, L51, k51, n51⟩, -, X51, ⟨Lc51, hQ51, l51, y51, z51⟩, st51⟩ := X50.virtualBack hx (y := own_y24) (z := own_y24) hown (mvT hZ (own_w hw 47 rfl)) (mvT hZ (own_w hw 48 rfl)) (notFace_of_selects (args := #[]) (mvT hZ (own_w hw 50 rfl))) (mvT hZ (own_w hw 50 rfl)) (mvT hZ (own_w hw 49 rfl)) (by decide) (backOf (W := 0) (rmMar1 l Z a0 hw [] b48 b_47 T49.heap n0 (Nat.le_trans Z0 K49.1) r49_0) hZ (own_w hw 51 rfl) (own_w hw 28 rfl) (by decide) (by decide)) q51a q51c (g := (mkF m 127 #[.val (.int p1), .val (.int p2), .val (.int p3), .val (.int p4), .val (.int p5), .val (.int p6), .val (.int (1 : Int32)), .val (.int (0 : Int32)), .val (.ref b44), .val (.ref b_47), .val (.ref b48), .val (.int (1 : Int32))] [(.ref b48)])) rfl (by rw [hml]; rfl) (Steps.refl _) (argsL := []) (rest := []) (lenOf pd_17 rfl) rfl (by show 2 * 0 + _ ≤ _; exact Nat.le_of_eq rfl) (hb hby at_127) (fun _ _ => ⟨rfl, eh50, (by decide : 8 + 0 ≤ _), (by decide : 17 + 0 ≤ _)⟩)
      dsimp only [Pt.U, Pt.locs, Pt.cells, Pt.slots] at X51 l51 y51 z51 st51 hQ51
      subst l51 y51 z51
      obtain ⟨rfl, N51q, eh51⟩ := hQ51
      have N51 := Fr.app N50 N51q
      refine own_via st51 ?_
      refine own_go (A := T51.setTop (mkF m 140 #[.val (.int p1), .val (.int p2), .val (.int p3), .val (.int p4), .val (.int p5), .val (.int p6), .val (.int (1 : Int32)), .val (.int (0 : Int32)), .val (.ref b44), .val (.ref b_47), .val (.ref b48), .val (.int (1 : Int32))] [(.int (1 : Int32))])) (fun t_ k_ => ?_) ?_
      · show Steps p.tables e below (T51.setTop (mkF m 130 #[.val (.int p1), .val (.int p2), .val (.int p3), .val (.int p4), .val (.int p5), .val (.int p6), .val (.int (1 : Int32)), .val (.int (0 : Int32)), .val (.ref b44), .val (.ref b_47), .val (.ref b48), .val (.int (1 : Int32))] [(.ref b_47)])) t_
        refine XS.aload X51.here hx rfl (hb hby at_130) rfl rfl ?_
        show Steps p.tables e below (T51.setTop (mkF m 132 #[.val (.int p1), .val (.int p2), .val (.int p3), .val (.int p4), .val (.int p5), .val (.int p6), .val (.int (1 : Int32)), .val (.int (0 : Int32)), .val (.ref b44), .val (.ref b_47), .val (.ref b48), .val (.int (1 : Int32))] [(.ref b_47), (.ref b_47)])) t_
        refine Jvm.RoadKit.acmp (g := (mkF m 132 #[.val (.int p1), .val (.int p2), .val (.int p3), .val (.int p4), .val (.int p5), .val (.int p6), .val (.int (1 : Int32)), .val (.int (0 : Int32)), .val (.ref b44), .val (.ref b_47), .val (.ref b48), .val (.int (1 : Int32))] [(.ref b_47), (.ref b_47)])) X51 hx rfl rfl rfl (pc0 := 132) (pc' := 135) (same := true) rfl (hb hby at_132) rfl (decide_eq_true rfl) (by decide) (by decide) ?_
        show Steps p.tables e below (T51.setTop (mkF m 135 #[.val (.int p1), .val (.int p2), .val (.int p3), .val (.int p4), .val (.int p5), .val (.int p6), .val (.int (1 : Int32)), .val (.int (0 : Int32)), .val (.ref b44), .val (.ref b_47), .val (.ref b48), .val (.int (1 : Int32))] [])) t_
        refine XS.iconst X51.here hx rfl (hb hby at_135) ?_
        show Steps p.tables e below (T51.setTop (mkF m 136 #[.val (.int p1), .val (.int p2), .val (.int p3), .val (.int p4), .val (.int p5), .val (.int p6), .val (.int (1 : Int32)), .val (.int (0 : Int32)), .val (.ref b44), .val (.ref b_47), .val (.ref b48), .val (.int (1 : Int32))] [(.int (1 : Int32))])) t_
        refine XS.goto X51.here hx rfl (pc0 := 136) (pc' := 140) rfl (hb hby at_136) (by decide) (by decide) ?_
        exact k_
      obtain ⟨fs52, hr52, hrun52, hended52, hRW52⟩ := X51.leaveW hS (by rw [eh51]; exact hk) (v := some (.int (1 : Int32))) (fun h => by rw [Bd.returns] at h; cases h)
      refine ⟨_, _, ?_, hrun52, hended52, _, _, rfl, ?_, ?_, hRW52.1, hRW52.2.1, hRW52.2.2.1, hRW52.2.2.2.mono (by decide) (by decide)⟩
      · exact retN X51 hx (t := .boolean) Bd.returns (by simp) (hb hby at_140) hr52
      · show Q_rm0 Z p1 p2 p3 p4 p5 p6 cs dc kd ca bxc h0 n0 _ T51.heap _
        rw [eh51]
        exact ⟨rfl, N51, K49⟩
      · show CHr Z own_EL s.vm s.heap T51.vm T51.heap
        rw [hh, eh51]
        exact R49.trans (CHv.at X51 hZ hEL R49.1)
    · rw [hm43]
      refine own_go (A := s₁.setTop (mkF m 20 #[.val (.int p1), .val (.int p2), .val (.int p3), .val (.int p4), .val (.int p5), .val (.int p6), .val (.int (1 : Int32)), .val (.int (1 : Int32)), .unset, .unset, .unset, .unset] [])) (fun t_ k_ => ?_) ?_
      · show Steps p.tables e below (s₁.setTop (mkF m 18 #[.val (.int p1), .val (.int p2), .val (.int p3), .val (.int p4), .val (.int p5), .val (.int p6), .val (.int (1 : Int32)), .unset, .unset, .unset, .unset, .unset] [(.int (1 : Int32))])) t_
        refine XS.istore X0.here hx rfl (hb hby at_18) rfl (l' := #[.val (.int p1), .val (.int p2), .val (.int p3), .val (.int p4), .val (.int p5), .val (.int p6), .val (.int (1 : Int32)), .val (.int (1 : Int32)), .unset, .unset, .unset, .unset]) rfl ?_
        exact k_
      obtain ⟨T53, h53, X53, e53, E53, A53, D53, -, st53⟩ := newO X0 hx hZ hown (own_w hw 0 rfl) (own_w hw 1 rfl) (own_w hw 2 rfl) e0 (g := (mkF m 20 #[.val (.int p1), .val (.int p2), .val (.int p3), .val (.int p4), .val (.int p5), .val (.int p6), .val (.int (1 : Int32)), .val (.int (1 : Int32)), .unset, .unset, .unset, .unset] [])) rfl (hb hby at_20) (by decide) (by decide)
      obtain ⟨b53, g53⟩ : ∃ z, z = h0.size := ⟨_, rfl⟩
      rw [← g53] at A53 D53 st53
      refine own_go st53 ?_
      have K53 : Keep h0 h53 [] := (Keep.refl h0 []).ext E53
      have r53 := CHr.ext E53 R0.1
      have R53 := R0.trans r53
      have hk := Nat.le_trans hk E53.1
      have O53 := O0.ext E53
      have Q53 := Safe.ext E53 R0.1 (Safe.new (Nat.le_of_eq g53.symm))
      have F53_modCount : Fld Z h53 b53 "java/util/AbstractList" "modCount" "I" (.int (0 : Int32)) := D53 (Or.inl (own_w hw 22 rfl)) (ty := .int) (by decide)
      have F53_elementData : Fld Z h53 b53 "java/util/ArrayList" "elementData" "[Ljava/lang/Object;" .null := D53 (Or.inl (own_w hw 25 rfl)) (ty := (.array (.object "java/lang/Object"))) (by decide)
      have F53_size : Fld Z h53 b53 "java/util/ArrayList" "size" "I" (.int (0 : Int32)) := D53 (Or.inl (own_w hw 67 rfl)) (ty := .int) (by decide)
      refine own_go (A := T53.setTop (mkF m 24 #[.val (.int p1), .val (.int p2), .val (.int p3), .val (.int p4), .val (.int p5), .val (.int p6), .val (.int (1 : Int32)), .val (.int (1 : Int32)), .unset, .unset, .unset, .unset] [(.ref b53), (.ref b53)])) (fun t_ k_ => ?_) ?_
      · show Steps p.tables e below (T53.setTop (mkF m 23 #[.val (.int p1), .val (.int p2), .val (.int p3), .val (.int p4), .val (.int p5), .val (.int p6), .val (.int (1 : Int32)), .val (.int (1 : Int32)), .unset, .unset, .unset, .unset] [(.ref b53)])) t_
        refine XS.dup X53.here hx rfl (hb hby at_23) rfl rfl ?_
        exact k_
      obtain ⟨_, _, ⟨T54, L54, k54, n54⟩, -, X54, ⟨Lc54, hQ54, l54, y54, z54⟩, st54⟩ := X53.specialBack hx (y := own_y12) rfl hown (mvT hZ (own_w hw 3 rfl)) (mvT hZ (own_w hw 4 rfl)) (mvT hZ (own_w hw 5 rfl)) (by decide) (backOf (W := 1) (rmALI l Z a0 hw [] b53 dc h53 n0 (Nat.le_trans Z0 K53.1) O53 u3 A53 F53_elementData F53_size F53_modCount (Nat.le_trans Z0 (Nat.le_of_eq g53.symm))) hZ (own_w hw 5 rfl) (own_w hw 2 rfl) (by decide) (by decide)) (g := (mkF m 24 #[.val (.int p1), .val (.int p2), .val (.int p3), .val (.int p4), .val (.int p5), .val (.int p6), .val (.int (1 : Int32)), .val (.int (1 : Int32)), .unset, .unset, .unset, .unset] [(.ref b53), (.ref b53)])) rfl (by rw [hml]; rfl) (Steps.refl _) (a := b53) (argsL := []) (rest := [(.ref b53)]) (lenOf pd_9 rfl) rfl (by show 2 * 0 + _ ≤ _; exact Nat.le_of_eq rfl) (hb hby at_24) (fun _ _ => ⟨rfl, e53, (by decide : 1 + 0 ≤ _), (by decide : 3 + 0 ≤ _)⟩)
      dsimp only [Pt.U, Pt.locs, Pt.cells, Pt.slots] at X54 l54 y54 z54 st54 hQ54
      subst l54 y54 z54
      obtain ⟨rfl, N54q, Kc54, r54_0, r54_1, r54_2⟩ := hQ54
      have N54 := Fr.app N0 N54q
      refine own_via st54 ?_
      have K54 : Keep h0 T54.heap [] := K53.trans Kc54 (allS (P := fun x => x ∈ _ ∨ _ ≤ x) (Or.inr (Nat.le_of_eq g53.symm)) all0)
      have r54 := CHr.keep Kc54 (allS (P := fun x => Safe Z own_EL _ _ x) Q53 all0) R53.1
      have R54 := R53.trans r54
      have hk := Nat.le_trans hk Kc54.1
      have O54 := O53.keep Kc54 (allS (P := fun x => n0 ≤ x) (Nat.le_trans Z0 (Nat.le_of_eq g53.symm)) all0)
      refine own_go (A := T54.setTop (mkF m 39 #[.val (.int p1), .val (.int p2), .val (.int p3), .val (.int p4), .val (.int p5), .val (.int p6), .val (.int (1 : Int32)), .val (.int (1 : Int32)), .val (.ref b53), .unset, .unset, .unset] [(.int p6), (.ref b53)])) (fun t_ k_ => ?_) ?_
      · show Steps p.tables e below (T54.setTop (mkF m 27 #[.val (.int p1), .val (.int p2), .val (.int p3), .val (.int p4), .val (.int p5), .val (.int p6), .val (.int (1 : Int32)), .val (.int (1 : Int32)), .unset, .unset, .unset, .unset] [(.ref b53)])) t_
        refine XS.astore X54.here hx rfl (hb hby at_27) rfl rfl (l' := #[.val (.int p1), .val (.int p2), .val (.int p3), .val (.int p4), .val (.int p5), .val (.int p6), .val (.int (1 : Int32)), .val (.int (1 : Int32)), .val (.ref b53), .unset, .unset, .unset]) rfl ?_
        show Steps p.tables e below (T54.setTop (mkF m 29 #[.val (.int p1), .val (.int p2), .val (.int p3), .val (.int p4), .val (.int p5), .val (.int p6), .val (.int (1 : Int32)), .val (.int (1 : Int32)), .val (.ref b53), .unset, .unset, .unset] [])) t_
        refine XS.iload X54.here hx rfl (hb hby at_29) rfl ?_
        show Steps p.tables e below (T54.setTop (mkF m 31 #[.val (.int p1), .val (.int p2), .val (.int p3), .val (.int p4), .val (.int p5), .val (.int p6), .val (.int (1 : Int32)), .val (.int (1 : Int32)), .val (.ref b53), .unset, .unset, .unset] [(.int (1 : Int32))])) t_
        refine XS.iconst X54.here hx rfl (hb hby at_31) ?_
        show Steps p.tables e below (T54.setTop (mkF m 32 #[.val (.int p1), .val (.int p2), .val (.int p3), .val (.int p4), .val (.int p5), .val (.int p6), .val (.int (1 : Int32)), .val (.int (1 : Int32)), .val (.ref b53), .unset, .unset, .unset] [(.int (1 : Int32)), (.int (1 : Int32))])) t_
        refine XS.icmpNo X54.here hx rfl (hb hby at_32) rfl (flt (by decide : ¬ ((1 : Int32) < (1 : Int32)))).1 ?_
        show Steps p.tables e below (T54.setTop (mkF m 35 #[.val (.int p1), .val (.int p2), .val (.int p3), .val (.int p4), .val (.int p5), .val (.int p6), .val (.int (1 : Int32)), .val (.int (1 : Int32)), .val (.ref b53), .unset, .unset, .unset] [])) t_
        refine XS.aload X54.here hx rfl (hb hby at_35) rfl rfl ?_
        show Steps p.tables e below (T54.setTop (mkF m 37 #[.val (.int p1), .val (.int p2), .val (.int p3), .val (.int p4), .val (.int p5), .val (.int p6), .val (.int (1 : Int32)), .val (.int (1 : Int32)), .val (.ref b53), .unset, .unset, .unset] [(.ref b53)])) t_
        refine XS.iload X54.here hx rfl (hb hby at_37) rfl ?_
        exact k_
      obtain ⟨_, _, ⟨T55, L55, k55, n55⟩, -, X55, ⟨Lc55, hQ55, l55, y55, z55⟩, st55⟩ := Jvm.LawKit.callS X54 hx (y := own_y20) hown (mvT hZ (own_w hw 52 rfl)) (mvT hZ (own_w hw 53 rfl)) (mvT hZ (own_w hw 54 rfl)) (mvT hZ (own_w hw 55 rfl)) (by decide) (backOf (W := 1) (rmVO l Z a0 hw [] p6 ca bxc T54.heap n0 (Nat.le_trans Z0 K54.1) O54 u5 u6 hbx) hZ (own_w hw 55 rfl) (own_w hw 54 rfl) (by decide) (by decide)) (g := (mkF m 39 #[.val (.int p1), .val (.int p2), .val (.int p3), .val (.int p4), .val (.int p5), .val (.int p6), .val (.int (1 : Int32)), .val (.int (1 : Int32)), .val (.ref b53), .unset, .unset, .unset] [(.int p6), (.ref b53)])) rfl (by rw [hml]; rfl) (argsL := [(.int p6)]) (rest := [(.ref b53)]) (lenOf pd_18 rfl) rfl (by show 2 * 0 + _ ≤ _; exact Nat.le_of_eq rfl) (hb hby at_39) (fun _ _ => ⟨rfl, rfl, (by decide : 1 + 1 ≤ _), (by decide : 3 + 1 ≤ _)⟩)
      dsimp only [Pt.U, Pt.locs, Pt.cells, Pt.slots] at X55 l55 y55 z55 st55 hQ55
      subst l55 y55 z55
      obtain ⟨r_55, rfl, N55q, Kc55, r55_0⟩ := hQ55
      have N55 := Fr.app N54 N55q
      refine own_go st55 ?_
      have K55 : Keep h0 T55.heap [] := K54.trans Kc55 all0
      have r55 := CHr.keep Kc55 all0 R54.1
      have R55 := R54.trans r55
      have hk := Nat.le_trans hk Kc55.1
      have O55 := O54.keep Kc55 all0
      obtain ⟨cq56, kq56, q56a, q56b, q56c⟩ := isOf hZ rfl ((A53.keep Kc54).keep Kc55)
      obtain ⟨_, _, ⟨T56, L56, k56, n56⟩, -, X56, ⟨Lc56, hQ56, l56, y56, z56⟩, st56⟩ := X55.virtualBack hx (y := own_y17) (z := own_y17) hown (mvT hZ (own_w hw 59 rfl)) (mvT hZ (own_w hw 60 rfl)) (notFace_of_selects (args := #[]) (mvT hZ (own_w hw 62 rfl))) (mvT hZ (own_w hw 62 rfl)) (mvT hZ (own_w hw 61 rfl)) (by decide) (backOf (W := 0) (rmAdd0 l Z a0 hw [] b53 r_55 dc kd (0 : Int32) T55.heap n0 (Nat.le_trans Z0 K55.1) O55 u3 ((A53.keep Kc54).keep Kc55) (r54_0.keep Kc55 nin0) (r54_1.keep Kc55 nin0) (r54_2.keep Kc55 nin0) u4 (Nat.le_trans Z0 (Nat.le_of_eq g53.symm)) r55_0) hZ (own_w hw 63 rfl) (own_w hw 2 rfl) (by decide) (by decide)) q56a q56c (g := (mkF m 42 #[.val (.int p1), .val (.int p2), .val (.int p3), .val (.int p4), .val (.int p5), .val (.int p6), .val (.int (1 : Int32)), .val (.int (1 : Int32)), .val (.ref b53), .unset, .unset, .unset] [(.ref r_55), (.ref b53)])) rfl (by rw [hml]; rfl) (Steps.refl _) (argsL := [(.ref r_55)]) (rest := []) (lenOf pd_19 rfl) rfl (by show 2 * 0 + _ ≤ _; exact Nat.le_of_eq rfl) (hb hby at_42) (fun _ _ => ⟨rfl, rfl, (by decide : 2 + 1 ≤ _), (by decide : 4 + 10 ≤ _)⟩)
      dsimp only [Pt.U, Pt.locs, Pt.cells, Pt.slots] at X56 l56 y56 z56 st56 hQ56
      subst l56 y56 z56
      obtain ⟨ed_56, k_56, rfl, N56q, Kc56, r56_0, r56_1, r56_2, r56_3, r56_4, r56_5⟩ := hQ56
      have N56 := Fr.app N55 N56q
      refine own_via st56 ?_
      have K56 : Keep h0 T56.heap [] := K55.trans Kc56 (allS (P := fun x => x ∈ _ ∨ _ ≤ x) (Or.inr (Nat.le_of_eq g53.symm)) all0)
      have r56 := CHr.keep Kc56 (allS (P := fun x => Safe Z own_EL _ _ x) (r55.safe (Nat.lt_of_lt_of_le A53.lt Kc54.1) (r54.safe A53.lt Q53)) all0) R55.1
      have R56 := R55.trans r56
      have hk := Nat.le_trans hk Kc56.1
      have O56 := O55.keep Kc56 (allS (P := fun x => n0 ≤ x) (Nat.le_trans Z0 (Nat.le_of_eq g53.symm)) all0)
      refine own_go (A := T56.setTop (mkF m 93 #[.val (.int p1), .val (.int p2), .val (.int p3), .val (.int p4), .val (.int p5), .val (.int p6), .val (.int (1 : Int32)), .val (.int (1 : Int32)), .val (.ref b53), .val .null, .unset, .unset] [(.int p5), (.int p4), (.int p3), (.int (p2 &&& (3 : Int32)))])) (fun t_ k_ => ?_) ?_
      · show Steps p.tables e below (T56.setTop (mkF m 45 #[.val (.int p1), .val (.int p2), .val (.int p3), .val (.int p4), .val (.int p5), .val (.int p6), .val (.int (1 : Int32)), .val (.int (1 : Int32)), .val (.ref b53), .unset, .unset, .unset] [(.int (1 : Int32))])) t_
        refine XS.pop X56.here hx rfl (hb hby at_45) rfl rfl ?_
        show Steps p.tables e below (T56.setTop (mkF m 46 #[.val (.int p1), .val (.int p2), .val (.int p3), .val (.int p4), .val (.int p5), .val (.int p6), .val (.int (1 : Int32)), .val (.int (1 : Int32)), .val (.ref b53), .unset, .unset, .unset] [])) t_
        refine XS.iload X56.here hx rfl (hb hby at_46) rfl ?_
        show Steps p.tables e below (T56.setTop (mkF m 48 #[.val (.int p1), .val (.int p2), .val (.int p3), .val (.int p4), .val (.int p5), .val (.int p6), .val (.int (1 : Int32)), .val (.int (1 : Int32)), .val (.ref b53), .unset, .unset, .unset] [(.int (1 : Int32))])) t_
        refine XS.iconst X56.here hx rfl (hb hby at_48) ?_
        show Steps p.tables e below (T56.setTop (mkF m 49 #[.val (.int p1), .val (.int p2), .val (.int p3), .val (.int p4), .val (.int p5), .val (.int p6), .val (.int (1 : Int32)), .val (.int (1 : Int32)), .val (.ref b53), .unset, .unset, .unset] [(.int (2 : Int32)), (.int (1 : Int32))])) t_
        refine XS.icmpYes X56.here hx rfl (pc0 := 49) (pc' := 62) rfl (hb hby at_49) rfl (tlt (by decide : (1 : Int32) < (2 : Int32))).1 (by decide) (by decide) ?_
        show Steps p.tables e below (T56.setTop (mkF m 62 #[.val (.int p1), .val (.int p2), .val (.int p3), .val (.int p4), .val (.int p5), .val (.int p6), .val (.int (1 : Int32)), .val (.int (1 : Int32)), .val (.ref b53), .unset, .unset, .unset] [])) t_
        refine XS.iload X56.here hx rfl (hb hby at_62) rfl ?_
        show Steps p.tables e below (T56.setTop (mkF m 64 #[.val (.int p1), .val (.int p2), .val (.int p3), .val (.int p4), .val (.int p5), .val (.int p6), .val (.int (1 : Int32)), .val (.int (1 : Int32)), .val (.ref b53), .unset, .unset, .unset] [(.int (1 : Int32))])) t_
        refine XS.iconst X56.here hx rfl (hb hby at_64) ?_
        show Steps p.tables e below (T56.setTop (mkF m 65 #[.val (.int p1), .val (.int p2), .val (.int p3), .val (.int p4), .val (.int p5), .val (.int p6), .val (.int (1 : Int32)), .val (.int (1 : Int32)), .val (.ref b53), .unset, .unset, .unset] [(.int (3 : Int32)), (.int (1 : Int32))])) t_
        refine XS.icmpYes X56.here hx rfl (pc0 := 65) (pc' := 78) rfl (hb hby at_65) rfl (tlt (by decide : (1 : Int32) < (3 : Int32))).1 (by decide) (by decide) ?_
        show Steps p.tables e below (T56.setTop (mkF m 78 #[.val (.int p1), .val (.int p2), .val (.int p3), .val (.int p4), .val (.int p5), .val (.int p6), .val (.int (1 : Int32)), .val (.int (1 : Int32)), .val (.ref b53), .unset, .unset, .unset] [])) t_
        refine XS.aconstNull X56.here hx rfl (hb hby at_78) ?_
        show Steps p.tables e below (T56.setTop (mkF m 79 #[.val (.int p1), .val (.int p2), .val (.int p3), .val (.int p4), .val (.int p5), .val (.int p6), .val (.int (1 : Int32)), .val (.int (1 : Int32)), .val (.ref b53), .unset, .unset, .unset] [.null])) t_
        refine XS.astore X56.here hx rfl (hb hby at_79) rfl rfl (l' := #[.val (.int p1), .val (.int p2), .val (.int p3), .val (.int p4), .val (.int p5), .val (.int p6), .val (.int (1 : Int32)), .val (.int (1 : Int32)), .val (.ref b53), .val .null, .unset, .unset]) rfl ?_
        show Steps p.tables e below (T56.setTop (mkF m 81 #[.val (.int p1), .val (.int p2), .val (.int p3), .val (.int p4), .val (.int p5), .val (.int p6), .val (.int (1 : Int32)), .val (.int (1 : Int32)), .val (.ref b53), .val .null, .unset, .unset] [])) t_
        refine XS.iload X56.here hx rfl (hb hby at_81) rfl ?_
        show Steps p.tables e below (T56.setTop (mkF m 83 #[.val (.int p1), .val (.int p2), .val (.int p3), .val (.int p4), .val (.int p5), .val (.int p6), .val (.int (1 : Int32)), .val (.int (1 : Int32)), .val (.ref b53), .val .null, .unset, .unset] [(.int (1 : Int32))])) t_
        refine XS.ifNo X56.here hx rfl (hb hby at_83) rfl ((if0 _ _).trans (feq (by decide : ¬ ((1 : Int32) = (0 : Int32)))).1) ?_
        show Steps p.tables e below (T56.setTop (mkF m 86 #[.val (.int p1), .val (.int p2), .val (.int p3), .val (.int p4), .val (.int p5), .val (.int p6), .val (.int (1 : Int32)), .val (.int (1 : Int32)), .val (.ref b53), .val .null, .unset, .unset] [])) t_
        refine XS.iloadN X56.here hx rfl (hb hby at_86) rfl ?_
        show Steps p.tables e below (T56.setTop (mkF m 87 #[.val (.int p1), .val (.int p2), .val (.int p3), .val (.int p4), .val (.int p5), .val (.int p6), .val (.int (1 : Int32)), .val (.int (1 : Int32)), .val (.ref b53), .val .null, .unset, .unset] [(.int p2)])) t_
        refine XS.iconst X56.here hx rfl (hb hby at_87) ?_
        show Steps p.tables e below (T56.setTop (mkF m 88 #[.val (.int p1), .val (.int p2), .val (.int p3), .val (.int p4), .val (.int p5), .val (.int p6), .val (.int (1 : Int32)), .val (.int (1 : Int32)), .val (.ref b53), .val .null, .unset, .unset] [(.int (3 : Int32)), (.int p2)])) t_
        refine XS.iand X56.here hx rfl (hb hby at_88) rfl ?_
        show Steps p.tables e below (T56.setTop (mkF m 89 #[.val (.int p1), .val (.int p2), .val (.int p3), .val (.int p4), .val (.int p5), .val (.int p6), .val (.int (1 : Int32)), .val (.int (1 : Int32)), .val (.ref b53), .val .null, .unset, .unset] [(.int (p2 &&& (3 : Int32)))])) t_
        refine XS.iloadN X56.here hx rfl (hb hby at_89) rfl ?_
        show Steps p.tables e below (T56.setTop (mkF m 90 #[.val (.int p1), .val (.int p2), .val (.int p3), .val (.int p4), .val (.int p5), .val (.int p6), .val (.int (1 : Int32)), .val (.int (1 : Int32)), .val (.ref b53), .val .null, .unset, .unset] [(.int p3), (.int (p2 &&& (3 : Int32)))])) t_
        refine XS.iloadN X56.here hx rfl (hb hby at_90) rfl ?_
        show Steps p.tables e below (T56.setTop (mkF m 91 #[.val (.int p1), .val (.int p2), .val (.int p3), .val (.int p4), .val (.int p5), .val (.int p6), .val (.int (1 : Int32)), .val (.int (1 : Int32)), .val (.ref b53), .val .null, .unset, .unset] [(.int p4), (.int p3), (.int (p2 &&& (3 : Int32)))])) t_
        refine XS.iload X56.here hx rfl (hb hby at_91) rfl ?_
        exact k_
      obtain ⟨y57, hqy57⟩ : ∃ z : Int32, z = (p2 &&& (3 : Int32)) := ⟨_, rfl⟩
      rw [← hqy57]
      obtain ⟨_, _, ⟨T58, L58, k58, n58⟩, -, X58, hs58, gs58, ⟨Lc58, hQ58, l58, y58, z58, r58⟩, st58⟩ := callSS X56 hx (y := own_y9) hown (mvT hZ (own_w hw 105 rfl)) (mvT hZ (own_w hw 106 rfl)) (mvT hZ (own_w hw 107 rfl)) (mvT hZ (own_w hw 108 rfl)) (by decide) (backOfSH (W := 0) (rmMk l Z a0 hw [] y57 p3 p4 p5 cs T56.heap n0 (Nat.le_trans Z0 K56.1) O56 u1 hcs) hZ (own_w hw 108 rfl) (own_w hw 107 rfl) (by decide) (by decide) hEL R56.1) (g := (mkF m 93 #[.val (.int p1), .val (.int p2), .val (.int p3), .val (.int p4), .val (.int p5), .val (.int p6), .val (.int (1 : Int32)), .val (.int (1 : Int32)), .val (.ref b53), .val .null, .unset, .unset] [(.int p5), (.int p4), (.int p3), (.int y57)])) rfl (by rw [hml]; rfl) (argsL := [(.int y57), (.int p3), (.int p4), (.int p5)]) (rest := []) (lenOf pd_20 rfl) rfl (by show 2 * 0 + _ ≤ _; exact Nat.le_of_eq rfl) (hb hby at_93) (fun _ _ => ⟨rfl, rfl, (by decide : 3 + 6 ≤ _), (by decide : 14 + 12 ≤ _)⟩)
      dsimp only [Pt.U, Pt.locs, Pt.cells, Pt.slots] at X58 l58 y58 z58 st58 hQ58 hs58 gs58 r58
      subst l58 y58 z58
      obtain ⟨X58, hS, hZ, hown⟩ := rebS hS hk X58 hs58 gs58 hZ hown
      obtain ⟨b_58, rfl, N58q, Kc58, r58_0, r58_1⟩ := hQ58
      have N58 := Fr.app N56 N58q
      refine own_via st58 ?_
      have hk := Nat.le_refl T58.heap.size
      have K58 : Keep h0 T58.heap [] := K56.trans Kc58 all0
      have R58 := R56.trans r58
      have O58 := O56.keep Kc58 all0
      refine own_go (A := T58.setTop (mkF m 98 #[.val (.int p1), .val (.int p2), .val (.int p3), .val (.int p4), .val (.int p5), .val (.int p6), .val (.int (1 : Int32)), .val (.int (1 : Int32)), .val (.ref b53), .val (.ref b_58), .unset, .unset] [])) (fun t_ k_ => ?_) ?_
      · show Steps p.tables e below (T58.setTop (mkF m 96 #[.val (.int p1), .val (.int p2), .val (.int p3), .val (.int p4), .val (.int p5), .val (.int p6), .val (.int (1 : Int32)), .val (.int (1 : Int32)), .val (.ref b53), .val .null, .unset, .unset] [(.ref b_58)])) t_
        refine XS.astore X58.here hx rfl (hb hby at_96) rfl rfl (l' := #[.val (.int p1), .val (.int p2), .val (.int p3), .val (.int p4), .val (.int p5), .val (.int p6), .val (.int (1 : Int32)), .val (.int (1 : Int32)), .val (.ref b53), .val (.ref b_58), .unset, .unset]) rfl ?_
        exact k_
      obtain ⟨T59, h59, X59, e59, E59, A59, D59, -, st59⟩ := newO X58 hx hZ hown (own_w hw 26 rfl) (own_w hw 27 rfl) (own_w hw 28 rfl) rfl (g := (mkF m 98 #[.val (.int p1), .val (.int p2), .val (.int p3), .val (.int p4), .val (.int p5), .val (.int p6), .val (.int (1 : Int32)), .val (.int (1 : Int32)), .val (.ref b53), .val (.ref b_58), .unset, .unset] [])) rfl (hb hby at_98) (by decide) (by decide)
      obtain ⟨b59, g59⟩ : ∃ z, z = T58.heap.size := ⟨_, rfl⟩
      rw [← g59] at A59 D59 st59
      refine own_go st59 ?_
      have K59 : Keep h0 h59 [] := K58.ext E59
      have r59 := CHr.ext E59 R58.1
      have R59 := R58.trans r59
      have hk := Nat.le_trans hk E59.1
      have O59 := O58.ext E59
      have Q59 := Safe.ext E59 R58.1 (Safe.new (Nat.le_of_eq g59.symm))
      have F59_items : Fld Z h59 b59 "com/example/tenant/tenant/core/Page" "items" "Ljava/util/List;" .null := D59 (Or.inr (own_w hw 39 rfl)) (ty := (.object "java/util/List")) (by decide)
      have F59_marker : Fld Z h59 b59 "com/example/tenant/tenant/core/Page" "marker" "Ljava/lang/String;" .null := D59 (Or.inr (own_w hw 41 rfl)) (ty := (.object "java/lang/String")) (by decide)
      refine own_go (A := T59.setTop (mkF m 106 #[.val (.int p1), .val (.int p2), .val (.int p3), .val (.int p4), .val (.int p5), .val (.int p6), .val (.int (1 : Int32)), .val (.int (1 : Int32)), .val (.ref b53), .val (.ref b_58), .unset, .unset] [(.ref b_58), (.ref b53), (.ref b59), (.ref b59)])) (fun t_ k_ => ?_) ?_
      · show Steps p.tables e below (T59.setTop (mkF m 101 #[.val (.int p1), .val (.int p2), .val (.int p3), .val (.int p4), .val (.int p5), .val (.int p6), .val (.int (1 : Int32)), .val (.int (1 : Int32)), .val (.ref b53), .val (.ref b_58), .unset, .unset] [(.ref b59)])) t_
        refine XS.dup X59.here hx rfl (hb hby at_101) rfl rfl ?_
        show Steps p.tables e below (T59.setTop (mkF m 102 #[.val (.int p1), .val (.int p2), .val (.int p3), .val (.int p4), .val (.int p5), .val (.int p6), .val (.int (1 : Int32)), .val (.int (1 : Int32)), .val (.ref b53), .val (.ref b_58), .unset, .unset] [(.ref b59), (.ref b59)])) t_
        refine XS.aload X59.here hx rfl (hb hby at_102) rfl rfl ?_
        show Steps p.tables e below (T59.setTop (mkF m 104 #[.val (.int p1), .val (.int p2), .val (.int p3), .val (.int p4), .val (.int p5), .val (.int p6), .val (.int (1 : Int32)), .val (.int (1 : Int32)), .val (.ref b53), .val (.ref b_58), .unset, .unset] [(.ref b53), (.ref b59), (.ref b59)])) t_
        refine XS.aload X59.here hx rfl (hb hby at_104) rfl rfl ?_
        exact k_
      obtain ⟨_, _, ⟨T60, L60, k60, n60⟩, -, X60, ⟨Lc60, hQ60, l60, y60, z60⟩, st60⟩ := X59.specialBack hx (y := own_y22) rfl hown (mvT hZ (own_w hw 29 rfl)) (mvT hZ (own_w hw 30 rfl)) (mvT hZ (own_w hw 31 rfl)) (by decide) (backOf (W := 1) (rmPage1 l Z a0 hw [] b59 b53 b_58 h59 n0 (Nat.le_trans Z0 K59.1) A59 F59_items F59_marker (Nat.le_trans Z0 (Nat.le_trans K58.1 (Nat.le_of_eq g59.symm)))) hZ (own_w hw 31 rfl) (own_w hw 28 rfl) (by decide) (by decide)) (g := (mkF m 106 #[.val (.int p1), .val (.int p2), .val (.int p3), .val (.int p4), .val (.int p5), .val (.int p6), .val (.int (1 : Int32)), .val (.int (1 : Int32)), .val (.ref b53), .val (.ref b_58), .unset, .unset] [(.ref b_58), (.ref b53), (.ref b59), (.ref b59)])) rfl (by rw [hml]; rfl) (Steps.refl _) (a := b59) (argsL := [(.ref b53), (.ref b_58)]) (rest := [(.ref b59)]) (lenOf pd_15 rfl) rfl (by show 2 * 0 + _ ≤ _; exact Nat.le_of_eq rfl) (hb hby at_106) (fun _ _ => ⟨rfl, e59, (by decide : 10 + 0 ≤ _), (by decide : 28 + 0 ≤ _)⟩)
      dsimp only [Pt.U, Pt.locs, Pt.cells, Pt.slots] at X60 l60 y60 z60 st60 hQ60
      subst l60 y60 z60
      obtain ⟨rfl, N60q, Kc60, r60_0⟩ := hQ60
      have N60 := Fr.app N58 N60q
      refine own_via st60 ?_
      have K60 : Keep h0 T60.heap [] := K59.trans Kc60 (allS (P := fun x => x ∈ _ ∨ _ ≤ x) (Or.inr (Nat.le_trans K58.1 (Nat.le_of_eq g59.symm))) all0)
      have r60 := CHr.keep Kc60 (allS (P := fun x => Safe Z own_EL _ _ x) Q59 all0) R59.1
      have R60 := R59.trans r60
      have hk := Nat.le_trans hk Kc60.1
      have O60 := O59.keep Kc60 (allS (P := fun x => n0 ≤ x) (Nat.le_trans Z0 (Nat.le_trans K58.1 (Nat.le_of_eq g59.symm))) all0)
      refine own_go (A := T60.setTop (mkF m 113 #[.val (.int p1), .val (.int p2), .val (.int p3), .val (.int p4), .val (.int p5), .val (.int p6), .val (.int (1 : Int32)), .val (.int (1 : Int32)), .val (.ref b53), .val (.ref b_58), .val (.ref b59), .unset] [(.ref b59)])) (fun t_ k_ => ?_) ?_
      · show Steps p.tables e below (T60.setTop (mkF m 109 #[.val (.int p1), .val (.int p2), .val (.int p3), .val (.int p4), .val (.int p5), .val (.int p6), .val (.int (1 : Int32)), .val (.int (1 : Int32)), .val (.ref b53), .val (.ref b_58), .unset, .unset] [(.ref b59)])) t_
        refine XS.astore X60.here hx rfl (hb hby at_109) rfl rfl (l' := #[.val (.int p1), .val (.int p2), .val (.int p3), .val (.int p4), .val (.int p5), .val (.int p6), .val (.int (1 : Int32)), .val (.int (1 : Int32)), .val (.ref b53), .val (.ref b_58), .val (.ref b59), .unset]) rfl ?_
        show Steps p.tables e below (T60.setTop (mkF m 111 #[.val (.int p1), .val (.int p2), .val (.int p3), .val (.int p4), .val (.int p5), .val (.int p6), .val (.int (1 : Int32)), .val (.int (1 : Int32)), .val (.ref b53), .val (.ref b_58), .val (.ref b59), .unset] [])) t_
        refine XS.aload X60.here hx rfl (hb hby at_111) rfl rfl ?_
        exact k_
      obtain ⟨cq61, kq61, q61a, q61b, q61c⟩ := isOf hZ rfl (A59.keep Kc60)
      obtain ⟨_, _, ⟨T61, L61, k61, n61⟩, -, X61, ⟨Lc61, hQ61, l61, y61, z61⟩, st61⟩ := X60.virtualBack hx (y := own_y23) (z := own_y23) hown (mvT hZ (own_w hw 42 rfl)) (mvT hZ (own_w hw 43 rfl)) (notFace_of_selects (args := #[]) (mvT hZ (own_w hw 45 rfl))) (mvT hZ (own_w hw 45 rfl)) (mvT hZ (own_w hw 44 rfl)) (by decide) (backOf (W := 0) (rmTr1 l Z a0 hw [] b59 b_58 T60.heap n0 (Nat.le_trans Z0 K60.1) r60_0) hZ (own_w hw 46 rfl) (own_w hw 28 rfl) (by decide) (by decide)) q61a q61c (g := (mkF m 113 #[.val (.int p1), .val (.int p2), .val (.int p3), .val (.int p4), .val (.int p5), .val (.int p6), .val (.int (1 : Int32)), .val (.int (1 : Int32)), .val (.ref b53), .val (.ref b_58), .val (.ref b59), .unset] [(.ref b59)])) rfl (by rw [hml]; rfl) (Steps.refl _) (argsL := []) (rest := []) (lenOf pd_16 rfl) rfl (by show 2 * 0 + _ ≤ _; exact Nat.le_of_eq rfl) (hb hby at_113) (fun _ _ => ⟨rfl, rfl, (by decide : 10 + 0 ≤ _), (by decide : 28 + 0 ≤ _)⟩)
      dsimp only [Pt.U, Pt.locs, Pt.cells, Pt.slots] at X61 l61 y61 z61 st61 hQ61
      subst l61 y61 z61
      obtain ⟨rfl, N61q, eh61⟩ := hQ61
      have N61 := Fr.app N60 N61q
      refine own_via st61 ?_
      refine own_go (A := T61.setTop (mkF m 127 #[.val (.int p1), .val (.int p2), .val (.int p3), .val (.int p4), .val (.int p5), .val (.int p6), .val (.int (1 : Int32)), .val (.int (1 : Int32)), .val (.ref b53), .val (.ref b_58), .val (.ref b59), .val (.int (1 : Int32))] [(.ref b59)])) (fun t_ k_ => ?_) ?_
      · show Steps p.tables e below (T61.setTop (mkF m 116 #[.val (.int p1), .val (.int p2), .val (.int p3), .val (.int p4), .val (.int p5), .val (.int p6), .val (.int (1 : Int32)), .val (.int (1 : Int32)), .val (.ref b53), .val (.ref b_58), .val (.ref b59), .unset] [(.int (1 : Int32))])) t_
        refine XS.istore X61.here hx rfl (hb hby at_116) rfl (l' := #[.val (.int p1), .val (.int p2), .val (.int p3), .val (.int p4), .val (.int p5), .val (.int p6), .val (.int (1 : Int32)), .val (.int (1 : Int32)), .val (.ref b53), .val (.ref b_58), .val (.ref b59), .val (.int (1 : Int32))]) rfl ?_
        show Steps p.tables e below (T61.setTop (mkF m 118 #[.val (.int p1), .val (.int p2), .val (.int p3), .val (.int p4), .val (.int p5), .val (.int p6), .val (.int (1 : Int32)), .val (.int (1 : Int32)), .val (.ref b53), .val (.ref b_58), .val (.ref b59), .val (.int (1 : Int32))] [])) t_
        refine XS.iload X61.here hx rfl (hb hby at_118) rfl ?_
        show Steps p.tables e below (T61.setTop (mkF m 120 #[.val (.int p1), .val (.int p2), .val (.int p3), .val (.int p4), .val (.int p5), .val (.int p6), .val (.int (1 : Int32)), .val (.int (1 : Int32)), .val (.ref b53), .val (.ref b_58), .val (.ref b59), .val (.int (1 : Int32))] [(.int (1 : Int32))])) t_
        refine XS.iload X61.here hx rfl (hb hby at_120) rfl ?_
        show Steps p.tables e below (T61.setTop (mkF m 122 #[.val (.int p1), .val (.int p2), .val (.int p3), .val (.int p4), .val (.int p5), .val (.int p6), .val (.int (1 : Int32)), .val (.int (1 : Int32)), .val (.ref b53), .val (.ref b_58), .val (.ref b59), .val (.int (1 : Int32))] [(.int (1 : Int32)), (.int (1 : Int32))])) t_
        refine XS.icmpNo X61.here hx rfl (hb hby at_122) rfl (teq (by decide : (1 : Int32) = (1 : Int32))).2 ?_
        show Steps p.tables e below (T61.setTop (mkF m 125 #[.val (.int p1), .val (.int p2), .val (.int p3), .val (.int p4), .val (.int p5), .val (.int p6), .val (.int (1 : Int32)), .val (.int (1 : Int32)), .val (.ref b53), .val (.ref b_58), .val (.ref b59), .val (.int (1 : Int32))] [])) t_
        refine XS.aload X61.here hx rfl (hb hby at_125) rfl rfl ?_
        exact k_
      obtain ⟨cq62, kq62, q62a, q62b, q62c⟩ := isOf hZ eh61 (A59.keep Kc60)
      obtain ⟨_, _, ⟨T62, L62, k62, n62⟩, -, X62, ⟨Lc62, hQ62, l62, y62, z62⟩, st62⟩ := X61.virtualBack hx (y := own_y24) (z := own_y24) hown (mvT hZ (own_w hw 47 rfl)) (mvT hZ (own_w hw 48 rfl)) (notFace_of_selects (args := #[]) (mvT hZ (own_w hw 50 rfl))) (mvT hZ (own_w hw 50 rfl)) (mvT hZ (own_w hw 49 rfl)) (by decide) (backOf (W := 0) (rmMar1 l Z a0 hw [] b59 b_58 T60.heap n0 (Nat.le_trans Z0 K60.1) r60_0) hZ (own_w hw 51 rfl) (own_w hw 28 rfl) (by decide) (by decide)) q62a q62c (g := (mkF m 127 #[.val (.int p1), .val (.int p2), .val (.int p3), .val (.int p4), .val (.int p5), .val (.int p6), .val (.int (1 : Int32)), .val (.int (1 : Int32)), .val (.ref b53), .val (.ref b_58), .val (.ref b59), .val (.int (1 : Int32))] [(.ref b59)])) rfl (by rw [hml]; rfl) (Steps.refl _) (argsL := []) (rest := []) (lenOf pd_17 rfl) rfl (by show 2 * 0 + _ ≤ _; exact Nat.le_of_eq rfl) (hb hby at_127) (fun _ _ => ⟨rfl, eh61, (by decide : 10 + 0 ≤ _), (by decide : 28 + 0 ≤ _)⟩)
      dsimp only [Pt.U, Pt.locs, Pt.cells, Pt.slots] at X62 l62 y62 z62 st62 hQ62
      subst l62 y62 z62
      obtain ⟨rfl, N62q, eh62⟩ := hQ62
      have N62 := Fr.app N61 N62q
      refine own_via st62 ?_
      refine own_go (A := T62.setTop (mkF m 140 #[.val (.int p1), .val (.int p2), .val (.int p3), .val (.int p4), .val (.int p5), .val (.int p6), .val (.int (1 : Int32)), .val (.int (1 : Int32)), .val (.ref b53), .val (.ref b_58), .val (.ref b59), .val (.int (1 : Int32))] [(.int (1 : Int32))])) (fun t_ k_ => ?_) ?_
      · show Steps p.tables e below (T62.setTop (mkF m 130 #[.val (.int p1), .val (.int p2), .val (.int p3), .val (.int p4), .val (.int p5), .val (.int p6), .val (.int (1 : Int32)), .val (.int (1 : Int32)), .val (.ref b53), .val (.ref b_58), .val (.ref b59), .val (.int (1 : Int32))] [(.ref b_58)])) t_
        refine XS.aload X62.here hx rfl (hb hby at_130) rfl rfl ?_
        show Steps p.tables e below (T62.setTop (mkF m 132 #[.val (.int p1), .val (.int p2), .val (.int p3), .val (.int p4), .val (.int p5), .val (.int p6), .val (.int (1 : Int32)), .val (.int (1 : Int32)), .val (.ref b53), .val (.ref b_58), .val (.ref b59), .val (.int (1 : Int32))] [(.ref b_58), (.ref b_58)])) t_
        refine Jvm.RoadKit.acmp (g := (mkF m 132 #[.val (.int p1), .val (.int p2), .val (.int p3), .val (.int p4), .val (.int p5), .val (.int p6), .val (.int (1 : Int32)), .val (.int (1 : Int32)), .val (.ref b53), .val (.ref b_58), .val (.ref b59), .val (.int (1 : Int32))] [(.ref b_58), (.ref b_58)])) X62 hx rfl rfl rfl (pc0 := 132) (pc' := 135) (same := true) rfl (hb hby at_132) rfl (decide_eq_true rfl) (by decide) (by decide) ?_
        show Steps p.tables e below (T62.setTop (mkF m 135 #[.val (.int p1), .val (.int p2), .val (.int p3), .val (.int p4), .val (.int p5), .val (.int p6), .val (.int (1 : Int32)), .val (.int (1 : Int32)), .val (.ref b53), .val (.ref b_58), .val (.ref b59), .val (.int (1 : Int32))] [])) t_
        refine XS.iconst X62.here hx rfl (hb hby at_135) ?_
        show Steps p.tables e below (T62.setTop (mkF m 136 #[.val (.int p1), .val (.int p2), .val (.int p3), .val (.int p4), .val (.int p5), .val (.int p6), .val (.int (1 : Int32)), .val (.int (1 : Int32)), .val (.ref b53), .val (.ref b_58), .val (.ref b59), .val (.int (1 : Int32))] [(.int (1 : Int32))])) t_
        refine XS.goto X62.here hx rfl (pc0 := 136) (pc' := 140) rfl (hb hby at_136) (by decide) (by decide) ?_
        exact k_
      obtain ⟨fs63, hr63, hrun63, hended63, hRW63⟩ := X62.leaveW hS (by rw [eh62]; exact hk) (v := some (.int (1 : Int32))) (fun h => by rw [Bd.returns] at h; cases h)
      refine ⟨_, _, ?_, hrun63, hended63, _, _, rfl, ?_, ?_, hRW63.1, hRW63.2.1, hRW63.2.2.1, hRW63.2.2.2.mono (by decide) (by decide)⟩
      · exact retN X62 hx (t := .boolean) Bd.returns (by simp) (hb hby at_140) hr63
      · show Q_rm0 Z p1 p2 p3 p4 p5 p6 cs dc kd ca bxc h0 n0 _ T62.heap _
        rw [eh62]
        exact ⟨rfl, N62, K60⟩
      · show CHr Z own_EL s.vm s.heap T62.vm T62.heap
        rw [hh, eh62]
        exact R60.trans (CHv.at X62 hZ hEL R60.1)
    · rw [hm43]
      refine own_go (A := s₁.setTop (mkF m 20 #[.val (.int p1), .val (.int p2), .val (.int p3), .val (.int p4), .val (.int p5), .val (.int p6), .val (.int (1 : Int32)), .val (.int (2 : Int32)), .unset, .unset, .unset, .unset] [])) (fun t_ k_ => ?_) ?_
      · show Steps p.tables e below (s₁.setTop (mkF m 18 #[.val (.int p1), .val (.int p2), .val (.int p3), .val (.int p4), .val (.int p5), .val (.int p6), .val (.int (1 : Int32)), .unset, .unset, .unset, .unset, .unset] [(.int (2 : Int32))])) t_
        refine XS.istore X0.here hx rfl (hb hby at_18) rfl (l' := #[.val (.int p1), .val (.int p2), .val (.int p3), .val (.int p4), .val (.int p5), .val (.int p6), .val (.int (1 : Int32)), .val (.int (2 : Int32)), .unset, .unset, .unset, .unset]) rfl ?_
        exact k_
      obtain ⟨T64, h64, X64, e64, E64, A64, D64, -, st64⟩ := newO X0 hx hZ hown (own_w hw 0 rfl) (own_w hw 1 rfl) (own_w hw 2 rfl) e0 (g := (mkF m 20 #[.val (.int p1), .val (.int p2), .val (.int p3), .val (.int p4), .val (.int p5), .val (.int p6), .val (.int (1 : Int32)), .val (.int (2 : Int32)), .unset, .unset, .unset, .unset] [])) rfl (hb hby at_20) (by decide) (by decide)
      obtain ⟨b64, g64⟩ : ∃ z, z = h0.size := ⟨_, rfl⟩
      rw [← g64] at A64 D64 st64
      refine own_go st64 ?_
      have K64 : Keep h0 h64 [] := (Keep.refl h0 []).ext E64
      have r64 := CHr.ext E64 R0.1
      have R64 := R0.trans r64
      have hk := Nat.le_trans hk E64.1
      have O64 := O0.ext E64
      have Q64 := Safe.ext E64 R0.1 (Safe.new (Nat.le_of_eq g64.symm))
      have F64_modCount : Fld Z h64 b64 "java/util/AbstractList" "modCount" "I" (.int (0 : Int32)) := D64 (Or.inl (own_w hw 22 rfl)) (ty := .int) (by decide)
      have F64_elementData : Fld Z h64 b64 "java/util/ArrayList" "elementData" "[Ljava/lang/Object;" .null := D64 (Or.inl (own_w hw 25 rfl)) (ty := (.array (.object "java/lang/Object"))) (by decide)
      have F64_size : Fld Z h64 b64 "java/util/ArrayList" "size" "I" (.int (0 : Int32)) := D64 (Or.inl (own_w hw 67 rfl)) (ty := .int) (by decide)
      refine own_go (A := T64.setTop (mkF m 24 #[.val (.int p1), .val (.int p2), .val (.int p3), .val (.int p4), .val (.int p5), .val (.int p6), .val (.int (1 : Int32)), .val (.int (2 : Int32)), .unset, .unset, .unset, .unset] [(.ref b64), (.ref b64)])) (fun t_ k_ => ?_) ?_
      · show Steps p.tables e below (T64.setTop (mkF m 23 #[.val (.int p1), .val (.int p2), .val (.int p3), .val (.int p4), .val (.int p5), .val (.int p6), .val (.int (1 : Int32)), .val (.int (2 : Int32)), .unset, .unset, .unset, .unset] [(.ref b64)])) t_
        refine XS.dup X64.here hx rfl (hb hby at_23) rfl rfl ?_
        exact k_
      obtain ⟨_, _, ⟨T65, L65, k65, n65⟩, -, X65, ⟨Lc65, hQ65, l65, y65, z65⟩, st65⟩ := X64.specialBack hx (y := own_y12) rfl hown (mvT hZ (own_w hw 3 rfl)) (mvT hZ (own_w hw 4 rfl)) (mvT hZ (own_w hw 5 rfl)) (by decide) (backOf (W := 1) (rmALI l Z a0 hw [] b64 dc h64 n0 (Nat.le_trans Z0 K64.1) O64 u3 A64 F64_elementData F64_size F64_modCount (Nat.le_trans Z0 (Nat.le_of_eq g64.symm))) hZ (own_w hw 5 rfl) (own_w hw 2 rfl) (by decide) (by decide)) (g := (mkF m 24 #[.val (.int p1), .val (.int p2), .val (.int p3), .val (.int p4), .val (.int p5), .val (.int p6), .val (.int (1 : Int32)), .val (.int (2 : Int32)), .unset, .unset, .unset, .unset] [(.ref b64), (.ref b64)])) rfl (by rw [hml]; rfl) (Steps.refl _) (a := b64) (argsL := []) (rest := [(.ref b64)]) (lenOf pd_9 rfl) rfl (by show 2 * 0 + _ ≤ _; exact Nat.le_of_eq rfl) (hb hby at_24) (fun _ _ => ⟨rfl, e64, (by decide : 1 + 0 ≤ _), (by decide : 3 + 0 ≤ _)⟩)
      dsimp only [Pt.U, Pt.locs, Pt.cells, Pt.slots] at X65 l65 y65 z65 st65 hQ65
      subst l65 y65 z65
      obtain ⟨rfl, N65q, Kc65, r65_0, r65_1, r65_2⟩ := hQ65
      have N65 := Fr.app N0 N65q
      refine own_via st65 ?_
      have K65 : Keep h0 T65.heap [] := K64.trans Kc65 (allS (P := fun x => x ∈ _ ∨ _ ≤ x) (Or.inr (Nat.le_of_eq g64.symm)) all0)
      have r65 := CHr.keep Kc65 (allS (P := fun x => Safe Z own_EL _ _ x) Q64 all0) R64.1
      have R65 := R64.trans r65
      have hk := Nat.le_trans hk Kc65.1
      have O65 := O64.keep Kc65 (allS (P := fun x => n0 ≤ x) (Nat.le_trans Z0 (Nat.le_of_eq g64.symm)) all0)
      refine own_go (A := T65.setTop (mkF m 39 #[.val (.int p1), .val (.int p2), .val (.int p3), .val (.int p4), .val (.int p5), .val (.int p6), .val (.int (1 : Int32)), .val (.int (2 : Int32)), .val (.ref b64), .unset, .unset, .unset] [(.int p6), (.ref b64)])) (fun t_ k_ => ?_) ?_
      · show Steps p.tables e below (T65.setTop (mkF m 27 #[.val (.int p1), .val (.int p2), .val (.int p3), .val (.int p4), .val (.int p5), .val (.int p6), .val (.int (1 : Int32)), .val (.int (2 : Int32)), .unset, .unset, .unset, .unset] [(.ref b64)])) t_
        refine XS.astore X65.here hx rfl (hb hby at_27) rfl rfl (l' := #[.val (.int p1), .val (.int p2), .val (.int p3), .val (.int p4), .val (.int p5), .val (.int p6), .val (.int (1 : Int32)), .val (.int (2 : Int32)), .val (.ref b64), .unset, .unset, .unset]) rfl ?_
        show Steps p.tables e below (T65.setTop (mkF m 29 #[.val (.int p1), .val (.int p2), .val (.int p3), .val (.int p4), .val (.int p5), .val (.int p6), .val (.int (1 : Int32)), .val (.int (2 : Int32)), .val (.ref b64), .unset, .unset, .unset] [])) t_
        refine XS.iload X65.here hx rfl (hb hby at_29) rfl ?_
        show Steps p.tables e below (T65.setTop (mkF m 31 #[.val (.int p1), .val (.int p2), .val (.int p3), .val (.int p4), .val (.int p5), .val (.int p6), .val (.int (1 : Int32)), .val (.int (2 : Int32)), .val (.ref b64), .unset, .unset, .unset] [(.int (2 : Int32))])) t_
        refine XS.iconst X65.here hx rfl (hb hby at_31) ?_
        show Steps p.tables e below (T65.setTop (mkF m 32 #[.val (.int p1), .val (.int p2), .val (.int p3), .val (.int p4), .val (.int p5), .val (.int p6), .val (.int (1 : Int32)), .val (.int (2 : Int32)), .val (.ref b64), .unset, .unset, .unset] [(.int (1 : Int32)), (.int (2 : Int32))])) t_
        refine XS.icmpNo X65.here hx rfl (hb hby at_32) rfl (flt (by decide : ¬ ((2 : Int32) < (1 : Int32)))).1 ?_
        show Steps p.tables e below (T65.setTop (mkF m 35 #[.val (.int p1), .val (.int p2), .val (.int p3), .val (.int p4), .val (.int p5), .val (.int p6), .val (.int (1 : Int32)), .val (.int (2 : Int32)), .val (.ref b64), .unset, .unset, .unset] [])) t_
        refine XS.aload X65.here hx rfl (hb hby at_35) rfl rfl ?_
        show Steps p.tables e below (T65.setTop (mkF m 37 #[.val (.int p1), .val (.int p2), .val (.int p3), .val (.int p4), .val (.int p5), .val (.int p6), .val (.int (1 : Int32)), .val (.int (2 : Int32)), .val (.ref b64), .unset, .unset, .unset] [(.ref b64)])) t_
        refine XS.iload X65.here hx rfl (hb hby at_37) rfl ?_
        exact k_
      obtain ⟨_, _, ⟨T66, L66, k66, n66⟩, -, X66, ⟨Lc66, hQ66, l66, y66, z66⟩, st66⟩ := Jvm.LawKit.callS X65 hx (y := own_y20) hown (mvT hZ (own_w hw 52 rfl)) (mvT hZ (own_w hw 53 rfl)) (mvT hZ (own_w hw 54 rfl)) (mvT hZ (own_w hw 55 rfl)) (by decide) (backOf (W := 1) (rmVO l Z a0 hw [] p6 ca bxc T65.heap n0 (Nat.le_trans Z0 K65.1) O65 u5 u6 hbx) hZ (own_w hw 55 rfl) (own_w hw 54 rfl) (by decide) (by decide)) (g := (mkF m 39 #[.val (.int p1), .val (.int p2), .val (.int p3), .val (.int p4), .val (.int p5), .val (.int p6), .val (.int (1 : Int32)), .val (.int (2 : Int32)), .val (.ref b64), .unset, .unset, .unset] [(.int p6), (.ref b64)])) rfl (by rw [hml]; rfl) (argsL := [(.int p6)]) (rest := [(.ref b64)]) (lenOf pd_18 rfl) rfl (by show 2 * 0 + _ ≤ _; exact Nat.le_of_eq rfl) (hb hby at_39) (fun _ _ => ⟨rfl, rfl, (by decide : 1 + 1 ≤ _), (by decide : 3 + 1 ≤ _)⟩)
      dsimp only [Pt.U, Pt.locs, Pt.cells, Pt.slots] at X66 l66 y66 z66 st66 hQ66
      subst l66 y66 z66
      obtain ⟨r_66, rfl, N66q, Kc66, r66_0⟩ := hQ66
      have N66 := Fr.app N65 N66q
      refine own_go st66 ?_
      have K66 : Keep h0 T66.heap [] := K65.trans Kc66 all0
      have r66 := CHr.keep Kc66 all0 R65.1
      have R66 := R65.trans r66
      have hk := Nat.le_trans hk Kc66.1
      have O66 := O65.keep Kc66 all0
      obtain ⟨cq67, kq67, q67a, q67b, q67c⟩ := isOf hZ rfl ((A64.keep Kc65).keep Kc66)
      obtain ⟨_, _, ⟨T67, L67, k67, n67⟩, -, X67, ⟨Lc67, hQ67, l67, y67, z67⟩, st67⟩ := X66.virtualBack hx (y := own_y17) (z := own_y17) hown (mvT hZ (own_w hw 59 rfl)) (mvT hZ (own_w hw 60 rfl)) (notFace_of_selects (args := #[]) (mvT hZ (own_w hw 62 rfl))) (mvT hZ (own_w hw 62 rfl)) (mvT hZ (own_w hw 61 rfl)) (by decide) (backOf (W := 0) (rmAdd0 l Z a0 hw [] b64 r_66 dc kd (0 : Int32) T66.heap n0 (Nat.le_trans Z0 K66.1) O66 u3 ((A64.keep Kc65).keep Kc66) (r65_0.keep Kc66 nin0) (r65_1.keep Kc66 nin0) (r65_2.keep Kc66 nin0) u4 (Nat.le_trans Z0 (Nat.le_of_eq g64.symm)) r66_0) hZ (own_w hw 63 rfl) (own_w hw 2 rfl) (by decide) (by decide)) q67a q67c (g := (mkF m 42 #[.val (.int p1), .val (.int p2), .val (.int p3), .val (.int p4), .val (.int p5), .val (.int p6), .val (.int (1 : Int32)), .val (.int (2 : Int32)), .val (.ref b64), .unset, .unset, .unset] [(.ref r_66), (.ref b64)])) rfl (by rw [hml]; rfl) (Steps.refl _) (argsL := [(.ref r_66)]) (rest := []) (lenOf pd_19 rfl) rfl (by show 2 * 0 + _ ≤ _; exact Nat.le_of_eq rfl) (hb hby at_42) (fun _ _ => ⟨rfl, rfl, (by decide : 2 + 1 ≤ _), (by decide : 4 + 10 ≤ _)⟩)
      dsimp only [Pt.U, Pt.locs, Pt.cells, Pt.slots] at X67 l67 y67 z67 st67 hQ67
      subst l67 y67 z67
      obtain ⟨ed_67, k_67, rfl, N67q, Kc67, r67_0, r67_1, r67_2, r67_3, r67_4, r67_5⟩ := hQ67
      have N67 := Fr.app N66 N67q
      refine own_via st67 ?_
      have K67 : Keep h0 T67.heap [] := K66.trans Kc67 (allS (P := fun x => x ∈ _ ∨ _ ≤ x) (Or.inr (Nat.le_of_eq g64.symm)) all0)
      have r67 := CHr.keep Kc67 (allS (P := fun x => Safe Z own_EL _ _ x) (r66.safe (Nat.lt_of_lt_of_le A64.lt Kc65.1) (r65.safe A64.lt Q64)) all0) R66.1
      have R67 := R66.trans r67
      have hk := Nat.le_trans hk Kc67.1
      have O67 := O66.keep Kc67 (allS (P := fun x => n0 ≤ x) (Nat.le_trans Z0 (Nat.le_of_eq g64.symm)) all0)
      refine own_go (A := T67.setTop (mkF m 55 #[.val (.int p1), .val (.int p2), .val (.int p3), .val (.int p4), .val (.int p5), .val (.int p6), .val (.int (1 : Int32)), .val (.int (2 : Int32)), .val (.ref b64), .unset, .unset, .unset] [(.int p3), (.ref b64)])) (fun t_ k_ => ?_) ?_
      · show Steps p.tables e below (T67.setTop (mkF m 45 #[.val (.int p1), .val (.int p2), .val (.int p3), .val (.int p4), .val (.int p5), .val (.int p6), .val (.int (1 : Int32)), .val (.int (2 : Int32)), .val (.ref b64), .unset, .unset, .unset] [(.int (1 : Int32))])) t_
        refine XS.pop X67.here hx rfl (hb hby at_45) rfl rfl ?_
        show Steps p.tables e below (T67.setTop (mkF m 46 #[.val (.int p1), .val (.int p2), .val (.int p3), .val (.int p4), .val (.int p5), .val (.int p6), .val (.int (1 : Int32)), .val (.int (2 : Int32)), .val (.ref b64), .unset, .unset, .unset] [])) t_
        refine XS.iload X67.here hx rfl (hb hby at_46) rfl ?_
        show Steps p.tables e below (T67.setTop (mkF m 48 #[.val (.int p1), .val (.int p2), .val (.int p3), .val (.int p4), .val (.int p5), .val (.int p6), .val (.int (1 : Int32)), .val (.int (2 : Int32)), .val (.ref b64), .unset, .unset, .unset] [(.int (2 : Int32))])) t_
        refine XS.iconst X67.here hx rfl (hb hby at_48) ?_
        show Steps p.tables e below (T67.setTop (mkF m 49 #[.val (.int p1), .val (.int p2), .val (.int p3), .val (.int p4), .val (.int p5), .val (.int p6), .val (.int (1 : Int32)), .val (.int (2 : Int32)), .val (.ref b64), .unset, .unset, .unset] [(.int (2 : Int32)), (.int (2 : Int32))])) t_
        refine XS.icmpNo X67.here hx rfl (hb hby at_49) rfl (flt (by decide : ¬ ((2 : Int32) < (2 : Int32)))).1 ?_
        show Steps p.tables e below (T67.setTop (mkF m 52 #[.val (.int p1), .val (.int p2), .val (.int p3), .val (.int p4), .val (.int p5), .val (.int p6), .val (.int (1 : Int32)), .val (.int (2 : Int32)), .val (.ref b64), .unset, .unset, .unset] [])) t_
        refine XS.aload X67.here hx rfl (hb hby at_52) rfl rfl ?_
        show Steps p.tables e below (T67.setTop (mkF m 54 #[.val (.int p1), .val (.int p2), .val (.int p3), .val (.int p4), .val (.int p5), .val (.int p6), .val (.int (1 : Int32)), .val (.int (2 : Int32)), .val (.ref b64), .unset, .unset, .unset] [(.ref b64)])) t_
        refine XS.iloadN X67.here hx rfl (hb hby at_54) rfl ?_
        exact k_
      obtain ⟨_, _, ⟨T68, L68, k68, n68⟩, -, X68, ⟨Lc68, hQ68, l68, y68, z68⟩, st68⟩ := Jvm.LawKit.callS X67 hx (y := own_y20) hown (mvT hZ (own_w hw 52 rfl)) (mvT hZ (own_w hw 53 rfl)) (mvT hZ (own_w hw 54 rfl)) (mvT hZ (own_w hw 55 rfl)) (by decide) (backOf (W := 1) (rmVO l Z a0 hw [] p3 ca bxc T67.heap n0 (Nat.le_trans Z0 K67.1) O67 u5 u6 hbx) hZ (own_w hw 55 rfl) (own_w hw 54 rfl) (by decide) (by decide)) (g := (mkF m 55 #[.val (.int p1), .val (.int p2), .val (.int p3), .val (.int p4), .val (.int p5), .val (.int p6), .val (.int (1 : Int32)), .val (.int (2 : Int32)), .val (.ref b64), .unset, .unset, .unset] [(.int p3), (.ref b64)])) rfl (by rw [hml]; rfl) (argsL := [(.int p3)]) (rest := [(.ref b64)]) (lenOf pd_18 rfl) rfl (by show 2 * 0 + _ ≤ _; exact Nat.le_of_eq rfl) (hb hby at_55) (fun _ _ => ⟨rfl, rfl, (by decide : 3 + 1 ≤ _), (by decide : 14 + 1 ≤ _)⟩)
      dsimp only [Pt.U, Pt.locs, Pt.cells, Pt.slots] at X68 l68 y68 z68 st68 hQ68
      subst l68 y68 z68
      obtain ⟨r_68, rfl, N68q, Kc68, r68_0⟩ := hQ68
      have N68 := Fr.app N67 N68q
      refine own_go st68 ?_
      have K68 : Keep h0 T68.heap [] := K67.trans Kc68 all0
      have r68 := CHr.keep Kc68 all0 R67.1
      have R68 := R67.trans r68
      have hk := Nat.le_trans hk Kc68.1
      have O68 := O67.keep Kc68 all0
      obtain ⟨cq69, kq69, q69a, q69b, q69c⟩ := isOf hZ rfl ((((A64.keep Kc65).keep Kc66).keep Kc67).keep Kc68)
      obtain ⟨_, _, ⟨T69, L69, k69, n69⟩, -, X69, ⟨Lc69, hQ69, l69, y69, z69⟩, st69⟩ := X68.virtualBack hx (y := own_y17) (z := own_y17) hown (mvT hZ (own_w hw 59 rfl)) (mvT hZ (own_w hw 60 rfl)) (notFace_of_selects (args := #[]) (mvT hZ (own_w hw 62 rfl))) (mvT hZ (own_w hw 62 rfl)) (mvT hZ (own_w hw 61 rfl)) (by decide) (backOf (W := 0) (rmAdd1 l Z a0 hw [] b64 r_68 ed_67 k_67 ((0 : Int32) + (1 : Int32)) r_66 T68.heap n0 (Nat.le_trans Z0 K68.1) ((((A64.keep Kc65).keep Kc66).keep Kc67).keep Kc68) (r67_3.keep Kc68 nin0) (r67_4.keep Kc68 nin0) (r67_5.keep Kc68 nin0) (r67_1.keep Kc68 nin0) r67_2 (Nat.le_trans Z0 (Nat.le_of_eq g64.symm)) (Nat.le_trans Z0 (Nat.le_trans K66.1 r67_0)) (Nat.ne_of_lt (Nat.lt_of_lt_of_le (Nat.lt_of_lt_of_le (Nat.lt_of_lt_of_le A64.lt Kc65.1) Kc66.1) r67_0)) r68_0) hZ (own_w hw 63 rfl) (own_w hw 2 rfl) (by decide) (by decide)) q69a q69c (g := (mkF m 58 #[.val (.int p1), .val (.int p2), .val (.int p3), .val (.int p4), .val (.int p5), .val (.int p6), .val (.int (1 : Int32)), .val (.int (2 : Int32)), .val (.ref b64), .unset, .unset, .unset] [(.ref r_68), (.ref b64)])) rfl (by rw [hml]; rfl) (Steps.refl _) (argsL := [(.ref r_68)]) (rest := []) (lenOf pd_19 rfl) rfl (by show 2 * 0 + _ ≤ _; exact Nat.le_of_eq rfl) (hb hby at_58) (fun _ _ => ⟨rfl, rfl, (by decide : 4 + 0 ≤ _), (by decide : 15 + 0 ≤ _)⟩)
      dsimp only [Pt.U, Pt.locs, Pt.cells, Pt.slots] at X69 l69 y69 z69 st69 hQ69
      subst l69 y69 z69
      obtain ⟨rfl, N69q, Kc69, r69_0, r69_1, r69_2, r69_3⟩ := hQ69
      have N69 := Fr.app N68 N69q
      refine own_via st69 ?_
      have K69 : Keep h0 T69.heap [] := K68.trans Kc69 (allS (P := fun x => x ∈ _ ∨ _ ≤ x) (Or.inr (Nat.le_of_eq g64.symm)) (allS (P := fun x => x ∈ _ ∨ _ ≤ x) (Or.inr (Nat.le_trans K66.1 r67_0)) all0))
      have r69 := CHr.keep Kc69 (allS (P := fun x => Safe Z own_EL _ _ x) (r68.safe (Nat.lt_of_lt_of_le (Nat.lt_of_lt_of_le (Nat.lt_of_lt_of_le A64.lt Kc65.1) Kc66.1) Kc67.1) (r67.safe (Nat.lt_of_lt_of_le (Nat.lt_of_lt_of_le A64.lt Kc65.1) Kc66.1) (r66.safe (Nat.lt_of_lt_of_le A64.lt Kc65.1) (r65.safe A64.lt Q64)))) (allS (P := fun x => Safe Z own_EL _ _ x) (own_safeA hZ.alike (r67_1.keep Kc68 nin0) (by decide)) all0)) R68.1
      have R69 := R68.trans r69
      have hk := Nat.le_trans hk Kc69.1
      have O69 := O68.keep Kc69 (allS (P := fun x => n0 ≤ x) (Nat.le_trans Z0 (Nat.le_of_eq g64.symm)) (allS (P := fun x => n0 ≤ x) (Nat.le_trans Z0 (Nat.le_trans K66.1 r67_0)) all0))
      refine own_go (A := T69.setTop (mkF m 93 #[.val (.int p1), .val (.int p2), .val (.int p3), .val (.int p4), .val (.int p5), .val (.int p6), .val (.int (1 : Int32)), .val (.int (2 : Int32)), .val (.ref b64), .val .null, .unset, .unset] [(.int p5), (.int p4), (.int p3), (.int (p2 &&& (3 : Int32)))])) (fun t_ k_ => ?_) ?_
      · show Steps p.tables e below (T69.setTop (mkF m 61 #[.val (.int p1), .val (.int p2), .val (.int p3), .val (.int p4), .val (.int p5), .val (.int p6), .val (.int (1 : Int32)), .val (.int (2 : Int32)), .val (.ref b64), .unset, .unset, .unset] [(.int (1 : Int32))])) t_
        refine XS.pop X69.here hx rfl (hb hby at_61) rfl rfl ?_
        show Steps p.tables e below (T69.setTop (mkF m 62 #[.val (.int p1), .val (.int p2), .val (.int p3), .val (.int p4), .val (.int p5), .val (.int p6), .val (.int (1 : Int32)), .val (.int (2 : Int32)), .val (.ref b64), .unset, .unset, .unset] [])) t_
        refine XS.iload X69.here hx rfl (hb hby at_62) rfl ?_
        show Steps p.tables e below (T69.setTop (mkF m 64 #[.val (.int p1), .val (.int p2), .val (.int p3), .val (.int p4), .val (.int p5), .val (.int p6), .val (.int (1 : Int32)), .val (.int (2 : Int32)), .val (.ref b64), .unset, .unset, .unset] [(.int (2 : Int32))])) t_
        refine XS.iconst X69.here hx rfl (hb hby at_64) ?_
        show Steps p.tables e below (T69.setTop (mkF m 65 #[.val (.int p1), .val (.int p2), .val (.int p3), .val (.int p4), .val (.int p5), .val (.int p6), .val (.int (1 : Int32)), .val (.int (2 : Int32)), .val (.ref b64), .unset, .unset, .unset] [(.int (3 : Int32)), (.int (2 : Int32))])) t_
        refine XS.icmpYes X69.here hx rfl (pc0 := 65) (pc' := 78) rfl (hb hby at_65) rfl (tlt (by decide : (2 : Int32) < (3 : Int32))).1 (by decide) (by decide) ?_
        show Steps p.tables e below (T69.setTop (mkF m 78 #[.val (.int p1), .val (.int p2), .val (.int p3), .val (.int p4), .val (.int p5), .val (.int p6), .val (.int (1 : Int32)), .val (.int (2 : Int32)), .val (.ref b64), .unset, .unset, .unset] [])) t_
        refine XS.aconstNull X69.here hx rfl (hb hby at_78) ?_
        show Steps p.tables e below (T69.setTop (mkF m 79 #[.val (.int p1), .val (.int p2), .val (.int p3), .val (.int p4), .val (.int p5), .val (.int p6), .val (.int (1 : Int32)), .val (.int (2 : Int32)), .val (.ref b64), .unset, .unset, .unset] [.null])) t_
        refine XS.astore X69.here hx rfl (hb hby at_79) rfl rfl (l' := #[.val (.int p1), .val (.int p2), .val (.int p3), .val (.int p4), .val (.int p5), .val (.int p6), .val (.int (1 : Int32)), .val (.int (2 : Int32)), .val (.ref b64), .val .null, .unset, .unset]) rfl ?_
        show Steps p.tables e below (T69.setTop (mkF m 81 #[.val (.int p1), .val (.int p2), .val (.int p3), .val (.int p4), .val (.int p5), .val (.int p6), .val (.int (1 : Int32)), .val (.int (2 : Int32)), .val (.ref b64), .val .null, .unset, .unset] [])) t_
        refine XS.iload X69.here hx rfl (hb hby at_81) rfl ?_
        show Steps p.tables e below (T69.setTop (mkF m 83 #[.val (.int p1), .val (.int p2), .val (.int p3), .val (.int p4), .val (.int p5), .val (.int p6), .val (.int (1 : Int32)), .val (.int (2 : Int32)), .val (.ref b64), .val .null, .unset, .unset] [(.int (1 : Int32))])) t_
        refine XS.ifNo X69.here hx rfl (hb hby at_83) rfl ((if0 _ _).trans (feq (by decide : ¬ ((1 : Int32) = (0 : Int32)))).1) ?_
        show Steps p.tables e below (T69.setTop (mkF m 86 #[.val (.int p1), .val (.int p2), .val (.int p3), .val (.int p4), .val (.int p5), .val (.int p6), .val (.int (1 : Int32)), .val (.int (2 : Int32)), .val (.ref b64), .val .null, .unset, .unset] [])) t_
        refine XS.iloadN X69.here hx rfl (hb hby at_86) rfl ?_
        show Steps p.tables e below (T69.setTop (mkF m 87 #[.val (.int p1), .val (.int p2), .val (.int p3), .val (.int p4), .val (.int p5), .val (.int p6), .val (.int (1 : Int32)), .val (.int (2 : Int32)), .val (.ref b64), .val .null, .unset, .unset] [(.int p2)])) t_
        refine XS.iconst X69.here hx rfl (hb hby at_87) ?_
        show Steps p.tables e below (T69.setTop (mkF m 88 #[.val (.int p1), .val (.int p2), .val (.int p3), .val (.int p4), .val (.int p5), .val (.int p6), .val (.int (1 : Int32)), .val (.int (2 : Int32)), .val (.ref b64), .val .null, .unset, .unset] [(.int (3 : Int32)), (.int p2)])) t_
        refine XS.iand X69.here hx rfl (hb hby at_88) rfl ?_
        show Steps p.tables e below (T69.setTop (mkF m 89 #[.val (.int p1), .val (.int p2), .val (.int p3), .val (.int p4), .val (.int p5), .val (.int p6), .val (.int (1 : Int32)), .val (.int (2 : Int32)), .val (.ref b64), .val .null, .unset, .unset] [(.int (p2 &&& (3 : Int32)))])) t_
        refine XS.iloadN X69.here hx rfl (hb hby at_89) rfl ?_
        show Steps p.tables e below (T69.setTop (mkF m 90 #[.val (.int p1), .val (.int p2), .val (.int p3), .val (.int p4), .val (.int p5), .val (.int p6), .val (.int (1 : Int32)), .val (.int (2 : Int32)), .val (.ref b64), .val .null, .unset, .unset] [(.int p3), (.int (p2 &&& (3 : Int32)))])) t_
        refine XS.iloadN X69.here hx rfl (hb hby at_90) rfl ?_
        show Steps p.tables e below (T69.setTop (mkF m 91 #[.val (.int p1), .val (.int p2), .val (.int p3), .val (.int p4), .val (.int p5), .val (.int p6), .val (.int (1 : Int32)), .val (.int (2 : Int32)), .val (.ref b64), .val .null, .unset, .unset] [(.int p4), (.int p3), (.int (p2 &&& (3 : Int32)))])) t_
        refine XS.iload X69.here hx rfl (hb hby at_91) rfl ?_
        exact k_
      obtain ⟨y70, hqy70⟩ : ∃ z : Int32, z = (p2 &&& (3 : Int32)) := ⟨_, rfl⟩
      rw [← hqy70]
      obtain ⟨_, _, ⟨T71, L71, k71, n71⟩, -, X71, hs71, gs71, ⟨Lc71, hQ71, l71, y71, z71, r71⟩, st71⟩ := callSS X69 hx (y := own_y9) hown (mvT hZ (own_w hw 105 rfl)) (mvT hZ (own_w hw 106 rfl)) (mvT hZ (own_w hw 107 rfl)) (mvT hZ (own_w hw 108 rfl)) (by decide) (backOfSH (W := 0) (rmMk l Z a0 hw [] y70 p3 p4 p5 cs T69.heap n0 (Nat.le_trans Z0 K69.1) O69 u1 hcs) hZ (own_w hw 108 rfl) (own_w hw 107 rfl) (by decide) (by decide) hEL R69.1) (g := (mkF m 93 #[.val (.int p1), .val (.int p2), .val (.int p3), .val (.int p4), .val (.int p5), .val (.int p6), .val (.int (1 : Int32)), .val (.int (2 : Int32)), .val (.ref b64), .val .null, .unset, .unset] [(.int p5), (.int p4), (.int p3), (.int y70)])) rfl (by rw [hml]; rfl) (argsL := [(.int y70), (.int p3), (.int p4), (.int p5)]) (rest := []) (lenOf pd_20 rfl) rfl (by show 2 * 0 + _ ≤ _; exact Nat.le_of_eq rfl) (hb hby at_93) (fun _ _ => ⟨rfl, rfl, (by decide : 4 + 6 ≤ _), (by decide : 15 + 12 ≤ _)⟩)
      dsimp only [Pt.U, Pt.locs, Pt.cells, Pt.slots] at X71 l71 y71 z71 st71 hQ71 hs71 gs71 r71
      subst l71 y71 z71
      obtain ⟨X71, hS, hZ, hown⟩ := rebS hS hk X71 hs71 gs71 hZ hown
      obtain ⟨b_71, rfl, N71q, Kc71, r71_0, r71_1⟩ := hQ71
      have N71 := Fr.app N69 N71q
      refine own_via st71 ?_
      have hk := Nat.le_refl T71.heap.size
      have K71 : Keep h0 T71.heap [] := K69.trans Kc71 all0
      have R71 := R69.trans r71
      have O71 := O69.keep Kc71 all0
      refine own_go (A := T71.setTop (mkF m 98 #[.val (.int p1), .val (.int p2), .val (.int p3), .val (.int p4), .val (.int p5), .val (.int p6), .val (.int (1 : Int32)), .val (.int (2 : Int32)), .val (.ref b64), .val (.ref b_71), .unset, .unset] [])) (fun t_ k_ => ?_) ?_
      · show Steps p.tables e below (T71.setTop (mkF m 96 #[.val (.int p1), .val (.int p2), .val (.int p3), .val (.int p4), .val (.int p5), .val (.int p6), .val (.int (1 : Int32)), .val (.int (2 : Int32)), .val (.ref b64), .val .null, .unset, .unset] [(.ref b_71)])) t_
        refine XS.astore X71.here hx rfl (hb hby at_96) rfl rfl (l' := #[.val (.int p1), .val (.int p2), .val (.int p3), .val (.int p4), .val (.int p5), .val (.int p6), .val (.int (1 : Int32)), .val (.int (2 : Int32)), .val (.ref b64), .val (.ref b_71), .unset, .unset]) rfl ?_
        exact k_
      obtain ⟨T72, h72, X72, e72, E72, A72, D72, -, st72⟩ := newO X71 hx hZ hown (own_w hw 26 rfl) (own_w hw 27 rfl) (own_w hw 28 rfl) rfl (g := (mkF m 98 #[.val (.int p1), .val (.int p2), .val (.int p3), .val (.int p4), .val (.int p5), .val (.int p6), .val (.int (1 : Int32)), .val (.int (2 : Int32)), .val (.ref b64), .val (.ref b_71), .unset, .unset] [])) rfl (hb hby at_98) (by decide) (by decide)
      obtain ⟨b72, g72⟩ : ∃ z, z = T71.heap.size := ⟨_, rfl⟩
      rw [← g72] at A72 D72 st72
      refine own_go st72 ?_
      have K72 : Keep h0 h72 [] := K71.ext E72
      have r72 := CHr.ext E72 R71.1
      have R72 := R71.trans r72
      have hk := Nat.le_trans hk E72.1
      have O72 := O71.ext E72
      have Q72 := Safe.ext E72 R71.1 (Safe.new (Nat.le_of_eq g72.symm))
      have F72_items : Fld Z h72 b72 "com/example/tenant/tenant/core/Page" "items" "Ljava/util/List;" .null := D72 (Or.inr (own_w hw 39 rfl)) (ty := (.object "java/util/List")) (by decide)
      have F72_marker : Fld Z h72 b72 "com/example/tenant/tenant/core/Page" "marker" "Ljava/lang/String;" .null := D72 (Or.inr (own_w hw 41 rfl)) (ty := (.object "java/lang/String")) (by decide)
      refine own_go (A := T72.setTop (mkF m 106 #[.val (.int p1), .val (.int p2), .val (.int p3), .val (.int p4), .val (.int p5), .val (.int p6), .val (.int (1 : Int32)), .val (.int (2 : Int32)), .val (.ref b64), .val (.ref b_71), .unset, .unset] [(.ref b_71), (.ref b64), (.ref b72), (.ref b72)])) (fun t_ k_ => ?_) ?_
      · show Steps p.tables e below (T72.setTop (mkF m 101 #[.val (.int p1), .val (.int p2), .val (.int p3), .val (.int p4), .val (.int p5), .val (.int p6), .val (.int (1 : Int32)), .val (.int (2 : Int32)), .val (.ref b64), .val (.ref b_71), .unset, .unset] [(.ref b72)])) t_
        refine XS.dup X72.here hx rfl (hb hby at_101) rfl rfl ?_
        show Steps p.tables e below (T72.setTop (mkF m 102 #[.val (.int p1), .val (.int p2), .val (.int p3), .val (.int p4), .val (.int p5), .val (.int p6), .val (.int (1 : Int32)), .val (.int (2 : Int32)), .val (.ref b64), .val (.ref b_71), .unset, .unset] [(.ref b72), (.ref b72)])) t_
        refine XS.aload X72.here hx rfl (hb hby at_102) rfl rfl ?_
        show Steps p.tables e below (T72.setTop (mkF m 104 #[.val (.int p1), .val (.int p2), .val (.int p3), .val (.int p4), .val (.int p5), .val (.int p6), .val (.int (1 : Int32)), .val (.int (2 : Int32)), .val (.ref b64), .val (.ref b_71), .unset, .unset] [(.ref b64), (.ref b72), (.ref b72)])) t_
        refine XS.aload X72.here hx rfl (hb hby at_104) rfl rfl ?_
        exact k_
      obtain ⟨_, _, ⟨T73, L73, k73, n73⟩, -, X73, ⟨Lc73, hQ73, l73, y73, z73⟩, st73⟩ := X72.specialBack hx (y := own_y22) rfl hown (mvT hZ (own_w hw 29 rfl)) (mvT hZ (own_w hw 30 rfl)) (mvT hZ (own_w hw 31 rfl)) (by decide) (backOf (W := 1) (rmPage1 l Z a0 hw [] b72 b64 b_71 h72 n0 (Nat.le_trans Z0 K72.1) A72 F72_items F72_marker (Nat.le_trans Z0 (Nat.le_trans K71.1 (Nat.le_of_eq g72.symm)))) hZ (own_w hw 31 rfl) (own_w hw 28 rfl) (by decide) (by decide)) (g := (mkF m 106 #[.val (.int p1), .val (.int p2), .val (.int p3), .val (.int p4), .val (.int p5), .val (.int p6), .val (.int (1 : Int32)), .val (.int (2 : Int32)), .val (.ref b64), .val (.ref b_71), .unset, .unset] [(.ref b_71), (.ref b64), (.ref b72), (.ref b72)])) rfl (by rw [hml]; rfl) (Steps.refl _) (a := b72) (argsL := [(.ref b64), (.ref b_71)]) (rest := [(.ref b72)]) (lenOf pd_15 rfl) rfl (by show 2 * 0 + _ ≤ _; exact Nat.le_of_eq rfl) (hb hby at_106) (fun _ _ => ⟨rfl, e72, (by decide : 11 + 0 ≤ _), (by decide : 29 + 0 ≤ _)⟩)
      dsimp only [Pt.U, Pt.locs, Pt.cells, Pt.slots] at X73 l73 y73 z73 st73 hQ73
      subst l73 y73 z73
      obtain ⟨rfl, N73q, Kc73, r73_0⟩ := hQ73
      have N73 := Fr.app N71 N73q
      refine own_via st73 ?_
      have K73 : Keep h0 T73.heap [] := K72.trans Kc73 (allS (P := fun x => x ∈ _ ∨ _ ≤ x) (Or.inr (Nat.le_trans K71.1 (Nat.le_of_eq g72.symm))) all0)
      have r73 := CHr.keep Kc73 (allS (P := fun x => Safe Z own_EL _ _ x) Q72 all0) R72.1
      have R73 := R72.trans r73
      have hk := Nat.le_trans hk Kc73.1
      have O73 := O72.keep Kc73 (allS (P := fun x => n0 ≤ x) (Nat.le_trans Z0 (Nat.le_trans K71.1 (Nat.le_of_eq g72.symm))) all0)
      refine own_go (A := T73.setTop (mkF m 113 #[.val (.int p1), .val (.int p2), .val (.int p3), .val (.int p4), .val (.int p5), .val (.int p6), .val (.int (1 : Int32)), .val (.int (2 : Int32)), .val (.ref b64), .val (.ref b_71), .val (.ref b72), .unset] [(.ref b72)])) (fun t_ k_ => ?_) ?_
      · show Steps p.tables e below (T73.setTop (mkF m 109 #[.val (.int p1), .val (.int p2), .val (.int p3), .val (.int p4), .val (.int p5), .val (.int p6), .val (.int (1 : Int32)), .val (.int (2 : Int32)), .val (.ref b64), .val (.ref b_71), .unset, .unset] [(.ref b72)])) t_
        refine XS.astore X73.here hx rfl (hb hby at_109) rfl rfl (l' := #[.val (.int p1), .val (.int p2), .val (.int p3), .val (.int p4), .val (.int p5), .val (.int p6), .val (.int (1 : Int32)), .val (.int (2 : Int32)), .val (.ref b64), .val (.ref b_71), .val (.ref b72), .unset]) rfl ?_
        show Steps p.tables e below (T73.setTop (mkF m 111 #[.val (.int p1), .val (.int p2), .val (.int p3), .val (.int p4), .val (.int p5), .val (.int p6), .val (.int (1 : Int32)), .val (.int (2 : Int32)), .val (.ref b64), .val (.ref b_71), .val (.ref b72), .unset] [])) t_
        refine XS.aload X73.here hx rfl (hb hby at_111) rfl rfl ?_
        exact k_
      obtain ⟨cq74, kq74, q74a, q74b, q74c⟩ := isOf hZ rfl (A72.keep Kc73)
      obtain ⟨_, _, ⟨T74, L74, k74, n74⟩, -, X74, ⟨Lc74, hQ74, l74, y74, z74⟩, st74⟩ := X73.virtualBack hx (y := own_y23) (z := own_y23) hown (mvT hZ (own_w hw 42 rfl)) (mvT hZ (own_w hw 43 rfl)) (notFace_of_selects (args := #[]) (mvT hZ (own_w hw 45 rfl))) (mvT hZ (own_w hw 45 rfl)) (mvT hZ (own_w hw 44 rfl)) (by decide) (backOf (W := 0) (rmTr1 l Z a0 hw [] b72 b_71 T73.heap n0 (Nat.le_trans Z0 K73.1) r73_0) hZ (own_w hw 46 rfl) (own_w hw 28 rfl) (by decide) (by decide)) q74a q74c (g := (mkF m 113 #[.val (.int p1), .val (.int p2), .val (.int p3), .val (.int p4), .val (.int p5), .val (.int p6), .val (.int (1 : Int32)), .val (.int (2 : Int32)), .val (.ref b64), .val (.ref b_71), .val (.ref b72), .unset] [(.ref b72)])) rfl (by rw [hml]; rfl) (Steps.refl _) (argsL := []) (rest := []) (lenOf pd_16 rfl) rfl (by show 2 * 0 + _ ≤ _; exact Nat.le_of_eq rfl) (hb hby at_113) (fun _ _ => ⟨rfl, rfl, (by decide : 11 + 0 ≤ _), (by decide : 29 + 0 ≤ _)⟩)
      dsimp only [Pt.U, Pt.locs, Pt.cells, Pt.slots] at X74 l74 y74 z74 st74 hQ74
      subst l74 y74 z74
      obtain ⟨rfl, N74q, eh74⟩ := hQ74
      have N74 := Fr.app N73 N74q
      refine own_via st74 ?_
      refine own_go (A := T74.setTop (mkF m 127 #[.val (.int p1), .val (.int p2), .val (.int p3), .val (.int p4), .val (.int p5), .val (.int p6), .val (.int (1 : Int32)), .val (.int (2 : Int32)), .val (.ref b64), .val (.ref b_71), .val (.ref b72), .val (.int (1 : Int32))] [(.ref b72)])) (fun t_ k_ => ?_) ?_
      · show Steps p.tables e below (T74.setTop (mkF m 116 #[.val (.int p1), .val (.int p2), .val (.int p3), .val (.int p4), .val (.int p5), .val (.int p6), .val (.int (1 : Int32)), .val (.int (2 : Int32)), .val (.ref b64), .val (.ref b_71), .val (.ref b72), .unset] [(.int (1 : Int32))])) t_
        refine XS.istore X74.here hx rfl (hb hby at_116) rfl (l' := #[.val (.int p1), .val (.int p2), .val (.int p3), .val (.int p4), .val (.int p5), .val (.int p6), .val (.int (1 : Int32)), .val (.int (2 : Int32)), .val (.ref b64), .val (.ref b_71), .val (.ref b72), .val (.int (1 : Int32))]) rfl ?_
        show Steps p.tables e below (T74.setTop (mkF m 118 #[.val (.int p1), .val (.int p2), .val (.int p3), .val (.int p4), .val (.int p5), .val (.int p6), .val (.int (1 : Int32)), .val (.int (2 : Int32)), .val (.ref b64), .val (.ref b_71), .val (.ref b72), .val (.int (1 : Int32))] [])) t_
        refine XS.iload X74.here hx rfl (hb hby at_118) rfl ?_
        show Steps p.tables e below (T74.setTop (mkF m 120 #[.val (.int p1), .val (.int p2), .val (.int p3), .val (.int p4), .val (.int p5), .val (.int p6), .val (.int (1 : Int32)), .val (.int (2 : Int32)), .val (.ref b64), .val (.ref b_71), .val (.ref b72), .val (.int (1 : Int32))] [(.int (1 : Int32))])) t_
        refine XS.iload X74.here hx rfl (hb hby at_120) rfl ?_
        show Steps p.tables e below (T74.setTop (mkF m 122 #[.val (.int p1), .val (.int p2), .val (.int p3), .val (.int p4), .val (.int p5), .val (.int p6), .val (.int (1 : Int32)), .val (.int (2 : Int32)), .val (.ref b64), .val (.ref b_71), .val (.ref b72), .val (.int (1 : Int32))] [(.int (1 : Int32)), (.int (1 : Int32))])) t_
        refine XS.icmpNo X74.here hx rfl (hb hby at_122) rfl (teq (by decide : (1 : Int32) = (1 : Int32))).2 ?_
        show Steps p.tables e below (T74.setTop (mkF m 125 #[.val (.int p1), .val (.int p2), .val (.int p3), .val (.int p4), .val (.int p5), .val (.int p6), .val (.int (1 : Int32)), .val (.int (2 : Int32)), .val (.ref b64), .val (.ref b_71), .val (.ref b72), .val (.int (1 : Int32))] [])) t_
        refine XS.aload X74.here hx rfl (hb hby at_125) rfl rfl ?_
        exact k_
      obtain ⟨cq75, kq75, q75a, q75b, q75c⟩ := isOf hZ eh74 (A72.keep Kc73)
      obtain ⟨_, _, ⟨T75, L75, k75, n75⟩, -, X75, ⟨Lc75, hQ75, l75, y75, z75⟩, st75⟩ := X74.virtualBack hx (y := own_y24) (z := own_y24) hown (mvT hZ (own_w hw 47 rfl)) (mvT hZ (own_w hw 48 rfl)) (notFace_of_selects (args := #[]) (mvT hZ (own_w hw 50 rfl))) (mvT hZ (own_w hw 50 rfl)) (mvT hZ (own_w hw 49 rfl)) (by decide) (backOf (W := 0) (rmMar1 l Z a0 hw [] b72 b_71 T73.heap n0 (Nat.le_trans Z0 K73.1) r73_0) hZ (own_w hw 51 rfl) (own_w hw 28 rfl) (by decide) (by decide)) q75a q75c (g := (mkF m 127 #[.val (.int p1), .val (.int p2), .val (.int p3), .val (.int p4), .val (.int p5), .val (.int p6), .val (.int (1 : Int32)), .val (.int (2 : Int32)), .val (.ref b64), .val (.ref b_71), .val (.ref b72), .val (.int (1 : Int32))] [(.ref b72)])) rfl (by rw [hml]; rfl) (Steps.refl _) (argsL := []) (rest := []) (lenOf pd_17 rfl) rfl (by show 2 * 0 + _ ≤ _; exact Nat.le_of_eq rfl) (hb hby at_127) (fun _ _ => ⟨rfl, eh74, (by decide : 11 + 0 ≤ _), (by decide : 29 + 0 ≤ _)⟩)
      dsimp only [Pt.U, Pt.locs, Pt.cells, Pt.slots] at X75 l75 y75 z75 st75 hQ75
      subst l75 y75 z75
      obtain ⟨rfl, N75q, eh75⟩ := hQ75
      have N75 := Fr.app N74 N75q
      refine own_via st75 ?_
      refine own_go (A := T75.setTop (mkF m 140 #[.val (.int p1), .val (.int p2), .val (.int p3), .val (.int p4), .val (.int p5), .val (.int p6), .val (.int (1 : Int32)), .val (.int (2 : Int32)), .val (.ref b64), .val (.ref b_71), .val (.ref b72), .val (.int (1 : Int32))] [(.int (1 : Int32))])) (fun t_ k_ => ?_) ?_
      · show Steps p.tables e below (T75.setTop (mkF m 130 #[.val (.int p1), .val (.int p2), .val (.int p3), .val (.int p4), .val (.int p5), .val (.int p6), .val (.int (1 : Int32)), .val (.int (2 : Int32)), .val (.ref b64), .val (.ref b_71), .val (.ref b72), .val (.int (1 : Int32))] [(.ref b_71)])) t_
        refine XS.aload X75.here hx rfl (hb hby at_130) rfl rfl ?_
        show Steps p.tables e below (T75.setTop (mkF m 132 #[.val (.int p1), .val (.int p2), .val (.int p3), .val (.int p4), .val (.int p5), .val (.int p6), .val (.int (1 : Int32)), .val (.int (2 : Int32)), .val (.ref b64), .val (.ref b_71), .val (.ref b72), .val (.int (1 : Int32))] [(.ref b_71), (.ref b_71)])) t_
        refine Jvm.RoadKit.acmp (g := (mkF m 132 #[.val (.int p1), .val (.int p2), .val (.int p3), .val (.int p4), .val (.int p5), .val (.int p6), .val (.int (1 : Int32)), .val (.int (2 : Int32)), .val (.ref b64), .val (.ref b_71), .val (.ref b72), .val (.int (1 : Int32))] [(.ref b_71), (.ref b_71)])) X75 hx rfl rfl rfl (pc0 := 132) (pc' := 135) (same := true) rfl (hb hby at_132) rfl (decide_eq_true rfl) (by decide) (by decide) ?_
        show Steps p.tables e below (T75.setTop (mkF m 135 #[.val (.int p1), .val (.int p2), .val (.int p3), .val (.int p4), .val (.int p5), .val (.int p6), .val (.int (1 : Int32)), .val (.int (2 : Int32)), .val (.ref b64), .val (.ref b_71), .val (.ref b72), .val (.int (1 : Int32))] [])) t_
        refine XS.iconst X75.here hx rfl (hb hby at_135) ?_
        show Steps p.tables e below (T75.setTop (mkF m 136 #[.val (.int p1), .val (.int p2), .val (.int p3), .val (.int p4), .val (.int p5), .val (.int p6), .val (.int (1 : Int32)), .val (.int (2 : Int32)), .val (.ref b64), .val (.ref b_71), .val (.ref b72), .val (.int (1 : Int32))] [(.int (1 : Int32))])) t_
        refine XS.goto X75.here hx rfl (pc0 := 136) (pc' := 140) rfl (hb hby at_136) (by decide) (by decide) ?_
        exact k_
      obtain ⟨fs76, hr76, hrun76, hended76, hRW76⟩ := X75.leaveW hS (by rw [eh75]; exact hk) (v := some (.int (1 : Int32))) (fun h => by rw [Bd.returns] at h; cases h)
      refine ⟨_, _, ?_, hrun76, hended76, _, _, rfl, ?_, ?_, hRW76.1, hRW76.2.1, hRW76.2.2.1, hRW76.2.2.2.mono (by decide) (by decide)⟩
      · exact retN X75 hx (t := .boolean) Bd.returns (by simp) (hb hby at_140) hr76
      · show Q_rm0 Z p1 p2 p3 p4 p5 p6 cs dc kd ca bxc h0 n0 _ T75.heap _
        rw [eh75]
        exact ⟨rfl, N75, K73⟩
      · show CHr Z own_EL s.vm s.heap T75.vm T75.heap
        rw [hh, eh75]
        exact R73.trans (CHv.at X75 hZ hEL R73.1)
    · rw [hm43]
      refine own_go (A := s₁.setTop (mkF m 20 #[.val (.int p1), .val (.int p2), .val (.int p3), .val (.int p4), .val (.int p5), .val (.int p6), .val (.int (1 : Int32)), .val (.int (3 : Int32)), .unset, .unset, .unset, .unset] [])) (fun t_ k_ => ?_) ?_
      · show Steps p.tables e below (s₁.setTop (mkF m 18 #[.val (.int p1), .val (.int p2), .val (.int p3), .val (.int p4), .val (.int p5), .val (.int p6), .val (.int (1 : Int32)), .unset, .unset, .unset, .unset, .unset] [(.int (3 : Int32))])) t_
        refine XS.istore X0.here hx rfl (hb hby at_18) rfl (l' := #[.val (.int p1), .val (.int p2), .val (.int p3), .val (.int p4), .val (.int p5), .val (.int p6), .val (.int (1 : Int32)), .val (.int (3 : Int32)), .unset, .unset, .unset, .unset]) rfl ?_
        exact k_
      obtain ⟨T77, h77, X77, e77, E77, A77, D77, -, st77⟩ := newO X0 hx hZ hown (own_w hw 0 rfl) (own_w hw 1 rfl) (own_w hw 2 rfl) e0 (g := (mkF m 20 #[.val (.int p1), .val (.int p2), .val (.int p3), .val (.int p4), .val (.int p5), .val (.int p6), .val (.int (1 : Int32)), .val (.int (3 : Int32)), .unset, .unset, .unset, .unset] [])) rfl (hb hby at_20) (by decide) (by decide)
      obtain ⟨b77, g77⟩ : ∃ z, z = h0.size := ⟨_, rfl⟩
      rw [← g77] at A77 D77 st77
      refine own_go st77 ?_
      have K77 : Keep h0 h77 [] := (Keep.refl h0 []).ext E77
      have r77 := CHr.ext E77 R0.1
      have R77 := R0.trans r77
      have hk := Nat.le_trans hk E77.1
      have O77 := O0.ext E77
      have Q77 := Safe.ext E77 R0.1 (Safe.new (Nat.le_of_eq g77.symm))
      have F77_modCount : Fld Z h77 b77 "java/util/AbstractList" "modCount" "I" (.int (0 : Int32)) := D77 (Or.inl (own_w hw 22 rfl)) (ty := .int) (by decide)
      have F77_elementData : Fld Z h77 b77 "java/util/ArrayList" "elementData" "[Ljava/lang/Object;" .null := D77 (Or.inl (own_w hw 25 rfl)) (ty := (.array (.object "java/lang/Object"))) (by decide)
      have F77_size : Fld Z h77 b77 "java/util/ArrayList" "size" "I" (.int (0 : Int32)) := D77 (Or.inl (own_w hw 67 rfl)) (ty := .int) (by decide)
      refine own_go (A := T77.setTop (mkF m 24 #[.val (.int p1), .val (.int p2), .val (.int p3), .val (.int p4), .val (.int p5), .val (.int p6), .val (.int (1 : Int32)), .val (.int (3 : Int32)), .unset, .unset, .unset, .unset] [(.ref b77), (.ref b77)])) (fun t_ k_ => ?_) ?_
      · show Steps p.tables e below (T77.setTop (mkF m 23 #[.val (.int p1), .val (.int p2), .val (.int p3), .val (.int p4), .val (.int p5), .val (.int p6), .val (.int (1 : Int32)), .val (.int (3 : Int32)), .unset, .unset, .unset, .unset] [(.ref b77)])) t_
        refine XS.dup X77.here hx rfl (hb hby at_23) rfl rfl ?_
        exact k_
      obtain ⟨_, _, ⟨T78, L78, k78, n78⟩, -, X78, ⟨Lc78, hQ78, l78, y78, z78⟩, st78⟩ := X77.specialBack hx (y := own_y12) rfl hown (mvT hZ (own_w hw 3 rfl)) (mvT hZ (own_w hw 4 rfl)) (mvT hZ (own_w hw 5 rfl)) (by decide) (backOf (W := 1) (rmALI l Z a0 hw [] b77 dc h77 n0 (Nat.le_trans Z0 K77.1) O77 u3 A77 F77_elementData F77_size F77_modCount (Nat.le_trans Z0 (Nat.le_of_eq g77.symm))) hZ (own_w hw 5 rfl) (own_w hw 2 rfl) (by decide) (by decide)) (g := (mkF m 24 #[.val (.int p1), .val (.int p2), .val (.int p3), .val (.int p4), .val (.int p5), .val (.int p6), .val (.int (1 : Int32)), .val (.int (3 : Int32)), .unset, .unset, .unset, .unset] [(.ref b77), (.ref b77)])) rfl (by rw [hml]; rfl) (Steps.refl _) (a := b77) (argsL := []) (rest := [(.ref b77)]) (lenOf pd_9 rfl) rfl (by show 2 * 0 + _ ≤ _; exact Nat.le_of_eq rfl) (hb hby at_24) (fun _ _ => ⟨rfl, e77, (by decide : 1 + 0 ≤ _), (by decide : 3 + 0 ≤ _)⟩)
      dsimp only [Pt.U, Pt.locs, Pt.cells, Pt.slots] at X78 l78 y78 z78 st78 hQ78
      subst l78 y78 z78
      obtain ⟨rfl, N78q, Kc78, r78_0, r78_1, r78_2⟩ := hQ78
      have N78 := Fr.app N0 N78q
      refine own_via st78 ?_
      have K78 : Keep h0 T78.heap [] := K77.trans Kc78 (allS (P := fun x => x ∈ _ ∨ _ ≤ x) (Or.inr (Nat.le_of_eq g77.symm)) all0)
      have r78 := CHr.keep Kc78 (allS (P := fun x => Safe Z own_EL _ _ x) Q77 all0) R77.1
      have R78 := R77.trans r78
      have hk := Nat.le_trans hk Kc78.1
      have O78 := O77.keep Kc78 (allS (P := fun x => n0 ≤ x) (Nat.le_trans Z0 (Nat.le_of_eq g77.symm)) all0)
      refine own_go (A := T78.setTop (mkF m 39 #[.val (.int p1), .val (.int p2), .val (.int p3), .val (.int p4), .val (.int p5), .val (.int p6), .val (.int (1 : Int32)), .val (.int (3 : Int32)), .val (.ref b77), .unset, .unset, .unset] [(.int p6), (.ref b77)])) (fun t_ k_ => ?_) ?_
      · show Steps p.tables e below (T78.setTop (mkF m 27 #[.val (.int p1), .val (.int p2), .val (.int p3), .val (.int p4), .val (.int p5), .val (.int p6), .val (.int (1 : Int32)), .val (.int (3 : Int32)), .unset, .unset, .unset, .unset] [(.ref b77)])) t_
        refine XS.astore X78.here hx rfl (hb hby at_27) rfl rfl (l' := #[.val (.int p1), .val (.int p2), .val (.int p3), .val (.int p4), .val (.int p5), .val (.int p6), .val (.int (1 : Int32)), .val (.int (3 : Int32)), .val (.ref b77), .unset, .unset, .unset]) rfl ?_
        show Steps p.tables e below (T78.setTop (mkF m 29 #[.val (.int p1), .val (.int p2), .val (.int p3), .val (.int p4), .val (.int p5), .val (.int p6), .val (.int (1 : Int32)), .val (.int (3 : Int32)), .val (.ref b77), .unset, .unset, .unset] [])) t_
        refine XS.iload X78.here hx rfl (hb hby at_29) rfl ?_
        show Steps p.tables e below (T78.setTop (mkF m 31 #[.val (.int p1), .val (.int p2), .val (.int p3), .val (.int p4), .val (.int p5), .val (.int p6), .val (.int (1 : Int32)), .val (.int (3 : Int32)), .val (.ref b77), .unset, .unset, .unset] [(.int (3 : Int32))])) t_
        refine XS.iconst X78.here hx rfl (hb hby at_31) ?_
        show Steps p.tables e below (T78.setTop (mkF m 32 #[.val (.int p1), .val (.int p2), .val (.int p3), .val (.int p4), .val (.int p5), .val (.int p6), .val (.int (1 : Int32)), .val (.int (3 : Int32)), .val (.ref b77), .unset, .unset, .unset] [(.int (1 : Int32)), (.int (3 : Int32))])) t_
        refine XS.icmpNo X78.here hx rfl (hb hby at_32) rfl (flt (by decide : ¬ ((3 : Int32) < (1 : Int32)))).1 ?_
        show Steps p.tables e below (T78.setTop (mkF m 35 #[.val (.int p1), .val (.int p2), .val (.int p3), .val (.int p4), .val (.int p5), .val (.int p6), .val (.int (1 : Int32)), .val (.int (3 : Int32)), .val (.ref b77), .unset, .unset, .unset] [])) t_
        refine XS.aload X78.here hx rfl (hb hby at_35) rfl rfl ?_
        show Steps p.tables e below (T78.setTop (mkF m 37 #[.val (.int p1), .val (.int p2), .val (.int p3), .val (.int p4), .val (.int p5), .val (.int p6), .val (.int (1 : Int32)), .val (.int (3 : Int32)), .val (.ref b77), .unset, .unset, .unset] [(.ref b77)])) t_
        refine XS.iload X78.here hx rfl (hb hby at_37) rfl ?_
        exact k_
      obtain ⟨_, _, ⟨T79, L79, k79, n79⟩, -, X79, ⟨Lc79, hQ79, l79, y79, z79⟩, st79⟩ := Jvm.LawKit.callS X78 hx (y := own_y20) hown (mvT hZ (own_w hw 52 rfl)) (mvT hZ (own_w hw 53 rfl)) (mvT hZ (own_w hw 54 rfl)) (mvT hZ (own_w hw 55 rfl)) (by decide) (backOf (W := 1) (rmVO l Z a0 hw [] p6 ca bxc T78.heap n0 (Nat.le_trans Z0 K78.1) O78 u5 u6 hbx) hZ (own_w hw 55 rfl) (own_w hw 54 rfl) (by decide) (by decide)) (g := (mkF m 39 #[.val (.int p1), .val (.int p2), .val (.int p3), .val (.int p4), .val (.int p5), .val (.int p6), .val (.int (1 : Int32)), .val (.int (3 : Int32)), .val (.ref b77), .unset, .unset, .unset] [(.int p6), (.ref b77)])) rfl (by rw [hml]; rfl) (argsL := [(.int p6)]) (rest := [(.ref b77)]) (lenOf pd_18 rfl) rfl (by show 2 * 0 + _ ≤ _; exact Nat.le_of_eq rfl) (hb hby at_39) (fun _ _ => ⟨rfl, rfl, (by decide : 1 + 1 ≤ _), (by decide : 3 + 1 ≤ _)⟩)
      dsimp only [Pt.U, Pt.locs, Pt.cells, Pt.slots] at X79 l79 y79 z79 st79 hQ79
      subst l79 y79 z79
      obtain ⟨r_79, rfl, N79q, Kc79, r79_0⟩ := hQ79
      have N79 := Fr.app N78 N79q
      refine own_go st79 ?_
      have K79 : Keep h0 T79.heap [] := K78.trans Kc79 all0
      have r79 := CHr.keep Kc79 all0 R78.1
      have R79 := R78.trans r79
      have hk := Nat.le_trans hk Kc79.1
      have O79 := O78.keep Kc79 all0
      obtain ⟨cq80, kq80, q80a, q80b, q80c⟩ := isOf hZ rfl ((A77.keep Kc78).keep Kc79)
      obtain ⟨_, _, ⟨T80, L80, k80, n80⟩, -, X80, ⟨Lc80, hQ80, l80, y80, z80⟩, st80⟩ := X79.virtualBack hx (y := own_y17) (z := own_y17) hown (mvT hZ (own_w hw 59 rfl)) (mvT hZ (own_w hw 60 rfl)) (notFace_of_selects (args := #[]) (mvT hZ (own_w hw 62 rfl))) (mvT hZ (own_w hw 62 rfl)) (mvT hZ (own_w hw 61 rfl)) (by decide) (backOf (W := 0) (rmAdd0 l Z a0 hw [] b77 r_79 dc kd (0 : Int32) T79.heap n0 (Nat.le_trans Z0 K79.1) O79 u3 ((A77.keep Kc78).keep Kc79) (r78_0.keep Kc79 nin0) (r78_1.keep Kc79 nin0) (r78_2.keep Kc79 nin0) u4 (Nat.le_trans Z0 (Nat.le_of_eq g77.symm)) r79_0) hZ (own_w hw 63 rfl) (own_w hw 2 rfl) (by decide) (by decide)) q80a q80c (g := (mkF m 42 #[.val (.int p1), .val (.int p2), .val (.int p3), .val (.int p4), .val (.int p5), .val (.int p6), .val (.int (1 : Int32)), .val (.int (3 : Int32)), .val (.ref b77), .unset, .unset, .unset] [(.ref r_79), (.ref b77)])) rfl (by rw [hml]; rfl) (Steps.refl _) (argsL := [(.ref r_79)]) (rest := []) (lenOf pd_19 rfl) rfl (by show 2 * 0 + _ ≤ _; exact Nat.le_of_eq rfl) (hb hby at_42) (fun _ _ => ⟨rfl, rfl, (by decide : 2 + 1 ≤ _), (by decide : 4 + 10 ≤ _)⟩)
      dsimp only [Pt.U, Pt.locs, Pt.cells, Pt.slots] at X80 l80 y80 z80 st80 hQ80
      subst l80 y80 z80
      obtain ⟨ed_80, k_80, rfl, N80q, Kc80, r80_0, r80_1, r80_2, r80_3, r80_4, r80_5⟩ := hQ80
      have N80 := Fr.app N79 N80q
      refine own_via st80 ?_
      have K80 : Keep h0 T80.heap [] := K79.trans Kc80 (allS (P := fun x => x ∈ _ ∨ _ ≤ x) (Or.inr (Nat.le_of_eq g77.symm)) all0)
      have r80 := CHr.keep Kc80 (allS (P := fun x => Safe Z own_EL _ _ x) (r79.safe (Nat.lt_of_lt_of_le A77.lt Kc78.1) (r78.safe A77.lt Q77)) all0) R79.1
      have R80 := R79.trans r80
      have hk := Nat.le_trans hk Kc80.1
      have O80 := O79.keep Kc80 (allS (P := fun x => n0 ≤ x) (Nat.le_trans Z0 (Nat.le_of_eq g77.symm)) all0)
      refine own_go (A := T80.setTop (mkF m 55 #[.val (.int p1), .val (.int p2), .val (.int p3), .val (.int p4), .val (.int p5), .val (.int p6), .val (.int (1 : Int32)), .val (.int (3 : Int32)), .val (.ref b77), .unset, .unset, .unset] [(.int p3), (.ref b77)])) (fun t_ k_ => ?_) ?_
      · show Steps p.tables e below (T80.setTop (mkF m 45 #[.val (.int p1), .val (.int p2), .val (.int p3), .val (.int p4), .val (.int p5), .val (.int p6), .val (.int (1 : Int32)), .val (.int (3 : Int32)), .val (.ref b77), .unset, .unset, .unset] [(.int (1 : Int32))])) t_
        refine XS.pop X80.here hx rfl (hb hby at_45) rfl rfl ?_
        show Steps p.tables e below (T80.setTop (mkF m 46 #[.val (.int p1), .val (.int p2), .val (.int p3), .val (.int p4), .val (.int p5), .val (.int p6), .val (.int (1 : Int32)), .val (.int (3 : Int32)), .val (.ref b77), .unset, .unset, .unset] [])) t_
        refine XS.iload X80.here hx rfl (hb hby at_46) rfl ?_
        show Steps p.tables e below (T80.setTop (mkF m 48 #[.val (.int p1), .val (.int p2), .val (.int p3), .val (.int p4), .val (.int p5), .val (.int p6), .val (.int (1 : Int32)), .val (.int (3 : Int32)), .val (.ref b77), .unset, .unset, .unset] [(.int (3 : Int32))])) t_
        refine XS.iconst X80.here hx rfl (hb hby at_48) ?_
        show Steps p.tables e below (T80.setTop (mkF m 49 #[.val (.int p1), .val (.int p2), .val (.int p3), .val (.int p4), .val (.int p5), .val (.int p6), .val (.int (1 : Int32)), .val (.int (3 : Int32)), .val (.ref b77), .unset, .unset, .unset] [(.int (2 : Int32)), (.int (3 : Int32))])) t_
        refine XS.icmpNo X80.here hx rfl (hb hby at_49) rfl (flt (by decide : ¬ ((3 : Int32) < (2 : Int32)))).1 ?_
        show Steps p.tables e below (T80.setTop (mkF m 52 #[.val (.int p1), .val (.int p2), .val (.int p3), .val (.int p4), .val (.int p5), .val (.int p6), .val (.int (1 : Int32)), .val (.int (3 : Int32)), .val (.ref b77), .unset, .unset, .unset] [])) t_
        refine XS.aload X80.here hx rfl (hb hby at_52) rfl rfl ?_
        show Steps p.tables e below (T80.setTop (mkF m 54 #[.val (.int p1), .val (.int p2), .val (.int p3), .val (.int p4), .val (.int p5), .val (.int p6), .val (.int (1 : Int32)), .val (.int (3 : Int32)), .val (.ref b77), .unset, .unset, .unset] [(.ref b77)])) t_
        refine XS.iloadN X80.here hx rfl (hb hby at_54) rfl ?_
        exact k_
      obtain ⟨_, _, ⟨T81, L81, k81, n81⟩, -, X81, ⟨Lc81, hQ81, l81, y81, z81⟩, st81⟩ := Jvm.LawKit.callS X80 hx (y := own_y20) hown (mvT hZ (own_w hw 52 rfl)) (mvT hZ (own_w hw 53 rfl)) (mvT hZ (own_w hw 54 rfl)) (mvT hZ (own_w hw 55 rfl)) (by decide) (backOf (W := 1) (rmVO l Z a0 hw [] p3 ca bxc T80.heap n0 (Nat.le_trans Z0 K80.1) O80 u5 u6 hbx) hZ (own_w hw 55 rfl) (own_w hw 54 rfl) (by decide) (by decide)) (g := (mkF m 55 #[.val (.int p1), .val (.int p2), .val (.int p3), .val (.int p4), .val (.int p5), .val (.int p6), .val (.int (1 : Int32)), .val (.int (3 : Int32)), .val (.ref b77), .unset, .unset, .unset] [(.int p3), (.ref b77)])) rfl (by rw [hml]; rfl) (argsL := [(.int p3)]) (rest := [(.ref b77)]) (lenOf pd_18 rfl) rfl (by show 2 * 0 + _ ≤ _; exact Nat.le_of_eq rfl) (hb hby at_55) (fun _ _ => ⟨rfl, rfl, (by decide : 3 + 1 ≤ _), (by decide : 14 + 1 ≤ _)⟩)
      dsimp only [Pt.U, Pt.locs, Pt.cells, Pt.slots] at X81 l81 y81 z81 st81 hQ81
      subst l81 y81 z81
      obtain ⟨r_81, rfl, N81q, Kc81, r81_0⟩ := hQ81
      have N81 := Fr.app N80 N81q
      refine own_go st81 ?_
      have K81 : Keep h0 T81.heap [] := K80.trans Kc81 all0
      have r81 := CHr.keep Kc81 all0 R80.1
      have R81 := R80.trans r81
      have hk := Nat.le_trans hk Kc81.1
      have O81 := O80.keep Kc81 all0
      obtain ⟨cq82, kq82, q82a, q82b, q82c⟩ := isOf hZ rfl ((((A77.keep Kc78).keep Kc79).keep Kc80).keep Kc81)
      obtain ⟨_, _, ⟨T82, L82, k82, n82⟩, -, X82, ⟨Lc82, hQ82, l82, y82, z82⟩, st82⟩ := X81.virtualBack hx (y := own_y17) (z := own_y17) hown (mvT hZ (own_w hw 59 rfl)) (mvT hZ (own_w hw 60 rfl)) (notFace_of_selects (args := #[]) (mvT hZ (own_w hw 62 rfl))) (mvT hZ (own_w hw 62 rfl)) (mvT hZ (own_w hw 61 rfl)) (by decide) (backOf (W := 0) (rmAdd1 l Z a0 hw [] b77 r_81 ed_80 k_80 ((0 : Int32) + (1 : Int32)) r_79 T81.heap n0 (Nat.le_trans Z0 K81.1) ((((A77.keep Kc78).keep Kc79).keep Kc80).keep Kc81) (r80_3.keep Kc81 nin0) (r80_4.keep Kc81 nin0) (r80_5.keep Kc81 nin0) (r80_1.keep Kc81 nin0) r80_2 (Nat.le_trans Z0 (Nat.le_of_eq g77.symm)) (Nat.le_trans Z0 (Nat.le_trans K79.1 r80_0)) (Nat.ne_of_lt (Nat.lt_of_lt_of_le (Nat.lt_of_lt_of_le (Nat.lt_of_lt_of_le A77.lt Kc78.1) Kc79.1) r80_0)) r81_0) hZ (own_w hw 63 rfl) (own_w hw 2 rfl) (by decide) (by decide)) q82a q82c (g := (mkF m 58 #[.val (.int p1), .val (.int p2), .val (.int p3), .val (.int p4), .val (.int p5), .val (.int p6), .val (.int (1 : Int32)), .val (.int (3 : Int32)), .val (.ref b77), .unset, .unset, .unset] [(.ref r_81), (.ref b77)])) rfl (by rw [hml]; rfl) (Steps.refl _) (argsL := [(.ref r_81)]) (rest := []) (lenOf pd_19 rfl) rfl (by show 2 * 0 + _ ≤ _; exact Nat.le_of_eq rfl) (hb hby at_58) (fun _ _ => ⟨rfl, rfl, (by decide : 4 + 0 ≤ _), (by decide : 15 + 0 ≤ _)⟩)
      dsimp only [Pt.U, Pt.locs, Pt.cells, Pt.slots] at X82 l82 y82 z82 st82 hQ82
      subst l82 y82 z82
      obtain ⟨rfl, N82q, Kc82, r82_0, r82_1, r82_2, r82_3⟩ := hQ82
      have N82 := Fr.app N81 N82q
      refine own_via st82 ?_
      have K82 : Keep h0 T82.heap [] := K81.trans Kc82 (allS (P := fun x => x ∈ _ ∨ _ ≤ x) (Or.inr (Nat.le_of_eq g77.symm)) (allS (P := fun x => x ∈ _ ∨ _ ≤ x) (Or.inr (Nat.le_trans K79.1 r80_0)) all0))
      have r82 := CHr.keep Kc82 (allS (P := fun x => Safe Z own_EL _ _ x) (r81.safe (Nat.lt_of_lt_of_le (Nat.lt_of_lt_of_le (Nat.lt_of_lt_of_le A77.lt Kc78.1) Kc79.1) Kc80.1) (r80.safe (Nat.lt_of_lt_of_le (Nat.lt_of_lt_of_le A77.lt Kc78.1) Kc79.1) (r79.safe (Nat.lt_of_lt_of_le A77.lt Kc78.1) (r78.safe A77.lt Q77)))) (allS (P := fun x => Safe Z own_EL _ _ x) (own_safeA hZ.alike (r80_1.keep Kc81 nin0) (by decide)) all0)) R81.1
      have R82 := R81.trans r82
      have hk := Nat.le_trans hk Kc82.1
      have O82 := O81.keep Kc82 (allS (P := fun x => n0 ≤ x) (Nat.le_trans Z0 (Nat.le_of_eq g77.symm)) (allS (P := fun x => n0 ≤ x) (Nat.le_trans Z0 (Nat.le_trans K79.1 r80_0)) all0))
      refine own_go (A := T82.setTop (mkF m 71 #[.val (.int p1), .val (.int p2), .val (.int p3), .val (.int p4), .val (.int p5), .val (.int p6), .val (.int (1 : Int32)), .val (.int (3 : Int32)), .val (.ref b77), .unset, .unset, .unset] [(.int p4), (.ref b77)])) (fun t_ k_ => ?_) ?_
      · show Steps p.tables e below (T82.setTop (mkF m 61 #[.val (.int p1), .val (.int p2), .val (.int p3), .val (.int p4), .val (.int p5), .val (.int p6), .val (.int (1 : Int32)), .val (.int (3 : Int32)), .val (.ref b77), .unset, .unset, .unset] [(.int (1 : Int32))])) t_
        refine XS.pop X82.here hx rfl (hb hby at_61) rfl rfl ?_
        show Steps p.tables e below (T82.setTop (mkF m 62 #[.val (.int p1), .val (.int p2), .val (.int p3), .val (.int p4), .val (.int p5), .val (.int p6), .val (.int (1 : Int32)), .val (.int (3 : Int32)), .val (.ref b77), .unset, .unset, .unset] [])) t_
        refine XS.iload X82.here hx rfl (hb hby at_62) rfl ?_
        show Steps p.tables e below (T82.setTop (mkF m 64 #[.val (.int p1), .val (.int p2), .val (.int p3), .val (.int p4), .val (.int p5), .val (.int p6), .val (.int (1 : Int32)), .val (.int (3 : Int32)), .val (.ref b77), .unset, .unset, .unset] [(.int (3 : Int32))])) t_
        refine XS.iconst X82.here hx rfl (hb hby at_64) ?_
        show Steps p.tables e below (T82.setTop (mkF m 65 #[.val (.int p1), .val (.int p2), .val (.int p3), .val (.int p4), .val (.int p5), .val (.int p6), .val (.int (1 : Int32)), .val (.int (3 : Int32)), .val (.ref b77), .unset, .unset, .unset] [(.int (3 : Int32)), (.int (3 : Int32))])) t_
        refine XS.icmpNo X82.here hx rfl (hb hby at_65) rfl (flt (by decide : ¬ ((3 : Int32) < (3 : Int32)))).1 ?_
        show Steps p.tables e below (T82.setTop (mkF m 68 #[.val (.int p1), .val (.int p2), .val (.int p3), .val (.int p4), .val (.int p5), .val (.int p6), .val (.int (1 : Int32)), .val (.int (3 : Int32)), .val (.ref b77), .unset, .unset, .unset] [])) t_
        refine XS.aload X82.here hx rfl (hb hby at_68) rfl rfl ?_
        show Steps p.tables e below (T82.setTop (mkF m 70 #[.val (.int p1), .val (.int p2), .val (.int p3), .val (.int p4), .val (.int p5), .val (.int p6), .val (.int (1 : Int32)), .val (.int (3 : Int32)), .val (.ref b77), .unset, .unset, .unset] [(.ref b77)])) t_
        refine XS.iloadN X82.here hx rfl (hb hby at_70) rfl ?_
        exact k_
      obtain ⟨_, _, ⟨T83, L83, k83, n83⟩, -, X83, ⟨Lc83, hQ83, l83, y83, z83⟩, st83⟩ := Jvm.LawKit.callS X82 hx (y := own_y20) hown (mvT hZ (own_w hw 52 rfl)) (mvT hZ (own_w hw 53 rfl)) (mvT hZ (own_w hw 54 rfl)) (mvT hZ (own_w hw 55 rfl)) (by decide) (backOf (W := 1) (rmVO l Z a0 hw [] p4 ca bxc T82.heap n0 (Nat.le_trans Z0 K82.1) O82 u5 u6 hbx) hZ (own_w hw 55 rfl) (own_w hw 54 rfl) (by decide) (by decide)) (g := (mkF m 71 #[.val (.int p1), .val (.int p2), .val (.int p3), .val (.int p4), .val (.int p5), .val (.int p6), .val (.int (1 : Int32)), .val (.int (3 : Int32)), .val (.ref b77), .unset, .unset, .unset] [(.int p4), (.ref b77)])) rfl (by rw [hml]; rfl) (argsL := [(.int p4)]) (rest := [(.ref b77)]) (lenOf pd_18 rfl) rfl (by show 2 * 0 + _ ≤ _; exact Nat.le_of_eq rfl) (hb hby at_71) (fun _ _ => ⟨rfl, rfl, (by decide : 4 + 1 ≤ _), (by decide : 15 + 1 ≤ _)⟩)
      dsimp only [Pt.U, Pt.locs, Pt.cells, Pt.slots] at X83 l83 y83 z83 st83 hQ83
      subst l83 y83 z83
      obtain ⟨r_83, rfl, N83q, Kc83, r83_0⟩ := hQ83
      have N83 := Fr.app N82 N83q
      refine own_go st83 ?_
      have K83 : Keep h0 T83.heap [] := K82.trans Kc83 all0
      have r83 := CHr.keep Kc83 all0 R82.1
      have R83 := R82.trans r83
      have hk := Nat.le_trans hk Kc83.1
      have O83 := O82.keep Kc83 all0
      obtain ⟨cq84, kq84, q84a, q84b, q84c⟩ := isOf hZ rfl ((((((A77.keep Kc78).keep Kc79).keep Kc80).keep Kc81).keep Kc82).keep Kc83)
      obtain ⟨_, _, ⟨T84, L84, k84, n84⟩, -, X84, ⟨Lc84, hQ84, l84, y84, z84⟩, st84⟩ := X83.virtualBack hx (y := own_y17) (z := own_y17) hown (mvT hZ (own_w hw 59 rfl)) (mvT hZ (own_w hw 60 rfl)) (notFace_of_selects (args := #[]) (mvT hZ (own_w hw 62 rfl))) (mvT hZ (own_w hw 62 rfl)) (mvT hZ (own_w hw 61 rfl)) (by decide) (backOf (W := 0) (rmAdd2 l Z a0 hw [] b77 r_83 ed_80 k_80 (((0 : Int32) + (1 : Int32)) + (1 : Int32)) r_79 r_81 T83.heap n0 (Nat.le_trans Z0 K83.1) ((((((A77.keep Kc78).keep Kc79).keep Kc80).keep Kc81).keep Kc82).keep Kc83) (r82_1.keep Kc83 nin0) (r82_2.keep Kc83 nin0) (r82_3.keep Kc83 nin0) (r82_0.keep Kc83 nin0) r80_2 (Nat.le_trans Z0 (Nat.le_of_eq g77.symm)) (Nat.le_trans Z0 (Nat.le_trans K79.1 r80_0)) (Nat.ne_of_lt (Nat.lt_of_lt_of_le (Nat.lt_of_lt_of_le (Nat.lt_of_lt_of_le A77.lt Kc78.1) Kc79.1) r80_0)) r83_0) hZ (own_w hw 63 rfl) (own_w hw 2 rfl) (by decide) (by decide)) q84a q84c (g := (mkF m 74 #[.val (.int p1), .val (.int p2), .val (.int p3), .val (.int p4), .val (.int p5), .val (.int p6), .val (.int (1 : Int32)), .val (.int (3 : Int32)), .val (.ref b77), .unset, .unset, .unset] [(.ref r_83), (.ref b77)])) rfl (by rw [hml]; rfl) (Steps.refl _) (argsL := [(.ref r_83)]) (rest := []) (lenOf pd_19 rfl) rfl (by show 2 * 0 + _ ≤ _; exact Nat.le_of_eq rfl) (hb hby at_74) (fun _ _ => ⟨rfl, rfl, (by decide : 5 + 0 ≤ _), (by decide : 16 + 0 ≤ _)⟩)
      dsimp only [Pt.U, Pt.locs, Pt.cells, Pt.slots] at X84 l84 y84 z84 st84 hQ84
      subst l84 y84 z84
      obtain ⟨rfl, N84q, Kc84, r84_0, r84_1, r84_2, r84_3⟩ := hQ84
      have N84 := Fr.app N83 N84q
      refine own_via st84 ?_
      have K84 : Keep h0 T84.heap [] := K83.trans Kc84 (allS (P := fun x => x ∈ _ ∨ _ ≤ x) (Or.inr (Nat.le_of_eq g77.symm)) (allS (P := fun x => x ∈ _ ∨ _ ≤ x) (Or.inr (Nat.le_trans K79.1 r80_0)) all0))
      have r84 := CHr.keep Kc84 (allS (P := fun x => Safe Z own_EL _ _ x) (r83.safe (Nat.lt_of_lt_of_le (Nat.lt_of_lt_of_le (Nat.lt_of_lt_of_le (Nat.lt_of_lt_of_le (Nat.lt_of_lt_of_le A77.lt Kc78.1) Kc79.1) Kc80.1) Kc81.1) Kc82.1) (r82.safe (Nat.lt_of_lt_of_le (Nat.lt_of_lt_of_le (Nat.lt_of_lt_of_le (Nat.lt_of_lt_of_le A77.lt Kc78.1) Kc79.1) Kc80.1) Kc81.1) (r81.safe (Nat.lt_of_lt_of_le (Nat.lt_of_lt_of_le (Nat.lt_of_lt_of_le A77.lt Kc78.1) Kc79.1) Kc80.1) (r80.safe (Nat.lt_of_lt_of_le (Nat.lt_of_lt_of_le A77.lt Kc78.1) Kc79.1) (r79.safe (Nat.lt_of_lt_of_le A77.lt Kc78.1) (r78.safe A77.lt Q77)))))) (allS (P := fun x => Safe Z own_EL _ _ x) (own_safeA hZ.alike (r82_0.keep Kc83 nin0) (by decide)) all0)) R83.1
      have R84 := R83.trans r84
      have hk := Nat.le_trans hk Kc84.1
      have O84 := O83.keep Kc84 (allS (P := fun x => n0 ≤ x) (Nat.le_trans Z0 (Nat.le_of_eq g77.symm)) (allS (P := fun x => n0 ≤ x) (Nat.le_trans Z0 (Nat.le_trans K79.1 r80_0)) all0))
      refine own_go (A := T84.setTop (mkF m 93 #[.val (.int p1), .val (.int p2), .val (.int p3), .val (.int p4), .val (.int p5), .val (.int p6), .val (.int (1 : Int32)), .val (.int (3 : Int32)), .val (.ref b77), .val .null, .unset, .unset] [(.int p5), (.int p4), (.int p3), (.int (p2 &&& (3 : Int32)))])) (fun t_ k_ => ?_) ?_
      · show Steps p.tables e below (T84.setTop (mkF m 77 #[.val (.int p1), .val (.int p2), .val (.int p3), .val (.int p4), .val (.int p5), .val (.int p6), .val (.int (1 : Int32)), .val (.int (3 : Int32)), .val (.ref b77), .unset, .unset, .unset] [(.int (1 : Int32))])) t_
        refine XS.pop X84.here hx rfl (hb hby at_77) rfl rfl ?_
        show Steps p.tables e below (T84.setTop (mkF m 78 #[.val (.int p1), .val (.int p2), .val (.int p3), .val (.int p4), .val (.int p5), .val (.int p6), .val (.int (1 : Int32)), .val (.int (3 : Int32)), .val (.ref b77), .unset, .unset, .unset] [])) t_
        refine XS.aconstNull X84.here hx rfl (hb hby at_78) ?_
        show Steps p.tables e below (T84.setTop (mkF m 79 #[.val (.int p1), .val (.int p2), .val (.int p3), .val (.int p4), .val (.int p5), .val (.int p6), .val (.int (1 : Int32)), .val (.int (3 : Int32)), .val (.ref b77), .unset, .unset, .unset] [.null])) t_
        refine XS.astore X84.here hx rfl (hb hby at_79) rfl rfl (l' := #[.val (.int p1), .val (.int p2), .val (.int p3), .val (.int p4), .val (.int p5), .val (.int p6), .val (.int (1 : Int32)), .val (.int (3 : Int32)), .val (.ref b77), .val .null, .unset, .unset]) rfl ?_
        show Steps p.tables e below (T84.setTop (mkF m 81 #[.val (.int p1), .val (.int p2), .val (.int p3), .val (.int p4), .val (.int p5), .val (.int p6), .val (.int (1 : Int32)), .val (.int (3 : Int32)), .val (.ref b77), .val .null, .unset, .unset] [])) t_
        refine XS.iload X84.here hx rfl (hb hby at_81) rfl ?_
        show Steps p.tables e below (T84.setTop (mkF m 83 #[.val (.int p1), .val (.int p2), .val (.int p3), .val (.int p4), .val (.int p5), .val (.int p6), .val (.int (1 : Int32)), .val (.int (3 : Int32)), .val (.ref b77), .val .null, .unset, .unset] [(.int (1 : Int32))])) t_
        refine XS.ifNo X84.here hx rfl (hb hby at_83) rfl ((if0 _ _).trans (feq (by decide : ¬ ((1 : Int32) = (0 : Int32)))).1) ?_
        show Steps p.tables e below (T84.setTop (mkF m 86 #[.val (.int p1), .val (.int p2), .val (.int p3), .val (.int p4), .val (.int p5), .val (.int p6), .val (.int (1 : Int32)), .val (.int (3 : Int32)), .val (.ref b77), .val .null, .unset, .unset] [])) t_
        refine XS.iloadN X84.here hx rfl (hb hby at_86) rfl ?_
        show Steps p.tables e below (T84.setTop (mkF m 87 #[.val (.int p1), .val (.int p2), .val (.int p3), .val (.int p4), .val (.int p5), .val (.int p6), .val (.int (1 : Int32)), .val (.int (3 : Int32)), .val (.ref b77), .val .null, .unset, .unset] [(.int p2)])) t_
        refine XS.iconst X84.here hx rfl (hb hby at_87) ?_
        show Steps p.tables e below (T84.setTop (mkF m 88 #[.val (.int p1), .val (.int p2), .val (.int p3), .val (.int p4), .val (.int p5), .val (.int p6), .val (.int (1 : Int32)), .val (.int (3 : Int32)), .val (.ref b77), .val .null, .unset, .unset] [(.int (3 : Int32)), (.int p2)])) t_
        refine XS.iand X84.here hx rfl (hb hby at_88) rfl ?_
        show Steps p.tables e below (T84.setTop (mkF m 89 #[.val (.int p1), .val (.int p2), .val (.int p3), .val (.int p4), .val (.int p5), .val (.int p6), .val (.int (1 : Int32)), .val (.int (3 : Int32)), .val (.ref b77), .val .null, .unset, .unset] [(.int (p2 &&& (3 : Int32)))])) t_
        refine XS.iloadN X84.here hx rfl (hb hby at_89) rfl ?_
        show Steps p.tables e below (T84.setTop (mkF m 90 #[.val (.int p1), .val (.int p2), .val (.int p3), .val (.int p4), .val (.int p5), .val (.int p6), .val (.int (1 : Int32)), .val (.int (3 : Int32)), .val (.ref b77), .val .null, .unset, .unset] [(.int p3), (.int (p2 &&& (3 : Int32)))])) t_
        refine XS.iloadN X84.here hx rfl (hb hby at_90) rfl ?_
        show Steps p.tables e below (T84.setTop (mkF m 91 #[.val (.int p1), .val (.int p2), .val (.int p3), .val (.int p4), .val (.int p5), .val (.int p6), .val (.int (1 : Int32)), .val (.int (3 : Int32)), .val (.ref b77), .val .null, .unset, .unset] [(.int p4), (.int p3), (.int (p2 &&& (3 : Int32)))])) t_
        refine XS.iload X84.here hx rfl (hb hby at_91) rfl ?_
        exact k_
      obtain ⟨y85, hqy85⟩ : ∃ z : Int32, z = (p2 &&& (3 : Int32)) := ⟨_, rfl⟩
      rw [← hqy85]
      obtain ⟨_, _, ⟨T86, L86, k86, n86⟩, -, X86, hs86, gs86, ⟨Lc86, hQ86, l86, y86, z86, r86⟩, st86⟩ := callSS X84 hx (y := own_y9) hown (mvT hZ (own_w hw 105 rfl)) (mvT hZ (own_w hw 106 rfl)) (mvT hZ (own_w hw 107 rfl)) (mvT hZ (own_w hw 108 rfl)) (by decide) (backOfSH (W := 0) (rmMk l Z a0 hw [] y85 p3 p4 p5 cs T84.heap n0 (Nat.le_trans Z0 K84.1) O84 u1 hcs) hZ (own_w hw 108 rfl) (own_w hw 107 rfl) (by decide) (by decide) hEL R84.1) (g := (mkF m 93 #[.val (.int p1), .val (.int p2), .val (.int p3), .val (.int p4), .val (.int p5), .val (.int p6), .val (.int (1 : Int32)), .val (.int (3 : Int32)), .val (.ref b77), .val .null, .unset, .unset] [(.int p5), (.int p4), (.int p3), (.int y85)])) rfl (by rw [hml]; rfl) (argsL := [(.int y85), (.int p3), (.int p4), (.int p5)]) (rest := []) (lenOf pd_20 rfl) rfl (by show 2 * 0 + _ ≤ _; exact Nat.le_of_eq rfl) (hb hby at_93) (fun _ _ => ⟨rfl, rfl, (by decide : 5 + 6 ≤ _), (by decide : 16 + 12 ≤ _)⟩)
      dsimp only [Pt.U, Pt.locs, Pt.cells, Pt.slots] at X86 l86 y86 z86 st86 hQ86 hs86 gs86 r86
      subst l86 y86 z86
      obtain ⟨X86, hS, hZ, hown⟩ := rebS hS hk X86 hs86 gs86 hZ hown
      obtain ⟨b_86, rfl, N86q, Kc86, r86_0, r86_1⟩ := hQ86
      have N86 := Fr.app N84 N86q
      refine own_via st86 ?_
      have hk := Nat.le_refl T86.heap.size
      have K86 : Keep h0 T86.heap [] := K84.trans Kc86 all0
      have R86 := R84.trans r86
      have O86 := O84.keep Kc86 all0
      refine own_go (A := T86.setTop (mkF m 98 #[.val (.int p1), .val (.int p2), .val (.int p3), .val (.int p4), .val (.int p5), .val (.int p6), .val (.int (1 : Int32)), .val (.int (3 : Int32)), .val (.ref b77), .val (.ref b_86), .unset, .unset] [])) (fun t_ k_ => ?_) ?_
      · show Steps p.tables e below (T86.setTop (mkF m 96 #[.val (.int p1), .val (.int p2), .val (.int p3), .val (.int p4), .val (.int p5), .val (.int p6), .val (.int (1 : Int32)), .val (.int (3 : Int32)), .val (.ref b77), .val .null, .unset, .unset] [(.ref b_86)])) t_
        refine XS.astore X86.here hx rfl (hb hby at_96) rfl rfl (l' := #[.val (.int p1), .val (.int p2), .val (.int p3), .val (.int p4), .val (.int p5), .val (.int p6), .val (.int (1 : Int32)), .val (.int (3 : Int32)), .val (.ref b77), .val (.ref b_86), .unset, .unset]) rfl ?_
        exact k_
      obtain ⟨T87, h87, X87, e87, E87, A87, D87, -, st87⟩ := newO X86 hx hZ hown (own_w hw 26 rfl) (own_w hw 27 rfl) (own_w hw 28 rfl) rfl (g := (mkF m 98 #[.val (.int p1), .val (.int p2), .val (.int p3), .val (.int p4), .val (.int p5), .val (.int p6), .val (.int (1 : Int32)), .val (.int (3 : Int32)), .val (.ref b77), .val (.ref b_86), .unset, .unset] [])) rfl (hb hby at_98) (by decide) (by decide)
      obtain ⟨b87, g87⟩ : ∃ z, z = T86.heap.size := ⟨_, rfl⟩
      rw [← g87] at A87 D87 st87
      refine own_go st87 ?_
      have K87 : Keep h0 h87 [] := K86.ext E87
      have r87 := CHr.ext E87 R86.1
      have R87 := R86.trans r87
      have hk := Nat.le_trans hk E87.1
      have O87 := O86.ext E87
      have Q87 := Safe.ext E87 R86.1 (Safe.new (Nat.le_of_eq g87.symm))
      have F87_items : Fld Z h87 b87 "com/example/tenant/tenant/core/Page" "items" "Ljava/util/List;" .null := D87 (Or.inr (own_w hw 39 rfl)) (ty := (.object "java/util/List")) (by decide)
      have F87_marker : Fld Z h87 b87 "com/example/tenant/tenant/core/Page" "marker" "Ljava/lang/String;" .null := D87 (Or.inr (own_w hw 41 rfl)) (ty := (.object "java/lang/String")) (by decide)
      refine own_go (A := T87.setTop (mkF m 106 #[.val (.int p1), .val (.int p2), .val (.int p3), .val (.int p4), .val (.int p5), .val (.int p6), .val (.int (1 : Int32)), .val (.int (3 : Int32)), .val (.ref b77), .val (.ref b_86), .unset, .unset] [(.ref b_86), (.ref b77), (.ref b87), (.ref b87)])) (fun t_ k_ => ?_) ?_
      · show Steps p.tables e below (T87.setTop (mkF m 101 #[.val (.int p1), .val (.int p2), .val (.int p3), .val (.int p4), .val (.int p5), .val (.int p6), .val (.int (1 : Int32)), .val (.int (3 : Int32)), .val (.ref b77), .val (.ref b_86), .unset, .unset] [(.ref b87)])) t_
        refine XS.dup X87.here hx rfl (hb hby at_101) rfl rfl ?_
        show Steps p.tables e below (T87.setTop (mkF m 102 #[.val (.int p1), .val (.int p2), .val (.int p3), .val (.int p4), .val (.int p5), .val (.int p6), .val (.int (1 : Int32)), .val (.int (3 : Int32)), .val (.ref b77), .val (.ref b_86), .unset, .unset] [(.ref b87), (.ref b87)])) t_
        refine XS.aload X87.here hx rfl (hb hby at_102) rfl rfl ?_
        show Steps p.tables e below (T87.setTop (mkF m 104 #[.val (.int p1), .val (.int p2), .val (.int p3), .val (.int p4), .val (.int p5), .val (.int p6), .val (.int (1 : Int32)), .val (.int (3 : Int32)), .val (.ref b77), .val (.ref b_86), .unset, .unset] [(.ref b77), (.ref b87), (.ref b87)])) t_
        refine XS.aload X87.here hx rfl (hb hby at_104) rfl rfl ?_
        exact k_
      obtain ⟨_, _, ⟨T88, L88, k88, n88⟩, -, X88, ⟨Lc88, hQ88, l88, y88, z88⟩, st88⟩ := X87.specialBack hx (y := own_y22) rfl hown (mvT hZ (own_w hw 29 rfl)) (mvT hZ (own_w hw 30 rfl)) (mvT hZ (own_w hw 31 rfl)) (by decide) (backOf (W := 1) (rmPage1 l Z a0 hw [] b87 b77 b_86 h87 n0 (Nat.le_trans Z0 K87.1) A87 F87_items F87_marker (Nat.le_trans Z0 (Nat.le_trans K86.1 (Nat.le_of_eq g87.symm)))) hZ (own_w hw 31 rfl) (own_w hw 28 rfl) (by decide) (by decide)) (g := (mkF m 106 #[.val (.int p1), .val (.int p2), .val (.int p3), .val (.int p4), .val (.int p5), .val (.int p6), .val (.int (1 : Int32)), .val (.int (3 : Int32)), .val (.ref b77), .val (.ref b_86), .unset, .unset] [(.ref b_86), (.ref b77), (.ref b87), (.ref b87)])) rfl (by rw [hml]; rfl) (Steps.refl _) (a := b87) (argsL := [(.ref b77), (.ref b_86)]) (rest := [(.ref b87)]) (lenOf pd_15 rfl) rfl (by show 2 * 0 + _ ≤ _; exact Nat.le_of_eq rfl) (hb hby at_106) (fun _ _ => ⟨rfl, e87, (by decide : 12 + 0 ≤ _), (by decide : 30 + 0 ≤ _)⟩)
      dsimp only [Pt.U, Pt.locs, Pt.cells, Pt.slots] at X88 l88 y88 z88 st88 hQ88
      subst l88 y88 z88
      obtain ⟨rfl, N88q, Kc88, r88_0⟩ := hQ88
      have N88 := Fr.app N86 N88q
      refine own_via st88 ?_
      have K88 : Keep h0 T88.heap [] := K87.trans Kc88 (allS (P := fun x => x ∈ _ ∨ _ ≤ x) (Or.inr (Nat.le_trans K86.1 (Nat.le_of_eq g87.symm))) all0)
      have r88 := CHr.keep Kc88 (allS (P := fun x => Safe Z own_EL _ _ x) Q87 all0) R87.1
      have R88 := R87.trans r88
      have hk := Nat.le_trans hk Kc88.1
      have O88 := O87.keep Kc88 (allS (P := fun x => n0 ≤ x) (Nat.le_trans Z0 (Nat.le_trans K86.1 (Nat.le_of_eq g87.symm))) all0)
      refine own_go (A := T88.setTop (mkF m 113 #[.val (.int p1), .val (.int p2), .val (.int p3), .val (.int p4), .val (.int p5), .val (.int p6), .val (.int (1 : Int32)), .val (.int (3 : Int32)), .val (.ref b77), .val (.ref b_86), .val (.ref b87), .unset] [(.ref b87)])) (fun t_ k_ => ?_) ?_
      · show Steps p.tables e below (T88.setTop (mkF m 109 #[.val (.int p1), .val (.int p2), .val (.int p3), .val (.int p4), .val (.int p5), .val (.int p6), .val (.int (1 : Int32)), .val (.int (3 : Int32)), .val (.ref b77), .val (.ref b_86), .unset, .unset] [(.ref b87)])) t_
        refine XS.astore X88.here hx rfl (hb hby at_109) rfl rfl (l' := #[.val (.int p1), .val (.int p2), .val (.int p3), .val (.int p4), .val (.int p5), .val (.int p6), .val (.int (1 : Int32)), .val (.int (3 : Int32)), .val (.ref b77), .val (.ref b_86), .val (.ref b87), .unset]) rfl ?_
        show Steps p.tables e below (T88.setTop (mkF m 111 #[.val (.int p1), .val (.int p2), .val (.int p3), .val (.int p4), .val (.int p5), .val (.int p6), .val (.int (1 : Int32)), .val (.int (3 : Int32)), .val (.ref b77), .val (.ref b_86), .val (.ref b87), .unset] [])) t_
        refine XS.aload X88.here hx rfl (hb hby at_111) rfl rfl ?_
        exact k_
      obtain ⟨cq89, kq89, q89a, q89b, q89c⟩ := isOf hZ rfl (A87.keep Kc88)
      obtain ⟨_, _, ⟨T89, L89, k89, n89⟩, -, X89, ⟨Lc89, hQ89, l89, y89, z89⟩, st89⟩ := X88.virtualBack hx (y := own_y23) (z := own_y23) hown (mvT hZ (own_w hw 42 rfl)) (mvT hZ (own_w hw 43 rfl)) (notFace_of_selects (args := #[]) (mvT hZ (own_w hw 45 rfl))) (mvT hZ (own_w hw 45 rfl)) (mvT hZ (own_w hw 44 rfl)) (by decide) (backOf (W := 0) (rmTr1 l Z a0 hw [] b87 b_86 T88.heap n0 (Nat.le_trans Z0 K88.1) r88_0) hZ (own_w hw 46 rfl) (own_w hw 28 rfl) (by decide) (by decide)) q89a q89c (g := (mkF m 113 #[.val (.int p1), .val (.int p2), .val (.int p3), .val (.int p4), .val (.int p5), .val (.int p6), .val (.int (1 : Int32)), .val (.int (3 : Int32)), .val (.ref b77), .val (.ref b_86), .val (.ref b87), .unset] [(.ref b87)])) rfl (by rw [hml]; rfl) (Steps.refl _) (argsL := []) (rest := []) (lenOf pd_16 rfl) rfl (by show 2 * 0 + _ ≤ _; exact Nat.le_of_eq rfl) (hb hby at_113) (fun _ _ => ⟨rfl, rfl, (by decide : 12 + 0 ≤ _), (by decide : 30 + 0 ≤ _)⟩)
      dsimp only [Pt.U, Pt.locs, Pt.cells, Pt.slots] at X89 l89 y89 z89 st89 hQ89
      subst l89 y89 z89
      obtain ⟨rfl, N89q, eh89⟩ := hQ89
      have N89 := Fr.app N88 N89q
      refine own_via st89 ?_
      refine own_go (A := T89.setTop (mkF m 127 #[.val (.int p1), .val (.int p2), .val (.int p3), .val (.int p4), .val (.int p5), .val (.int p6), .val (.int (1 : Int32)), .val (.int (3 : Int32)), .val (.ref b77), .val (.ref b_86), .val (.ref b87), .val (.int (1 : Int32))] [(.ref b87)])) (fun t_ k_ => ?_) ?_
      · show Steps p.tables e below (T89.setTop (mkF m 116 #[.val (.int p1), .val (.int p2), .val (.int p3), .val (.int p4), .val (.int p5), .val (.int p6), .val (.int (1 : Int32)), .val (.int (3 : Int32)), .val (.ref b77), .val (.ref b_86), .val (.ref b87), .unset] [(.int (1 : Int32))])) t_
        refine XS.istore X89.here hx rfl (hb hby at_116) rfl (l' := #[.val (.int p1), .val (.int p2), .val (.int p3), .val (.int p4), .val (.int p5), .val (.int p6), .val (.int (1 : Int32)), .val (.int (3 : Int32)), .val (.ref b77), .val (.ref b_86), .val (.ref b87), .val (.int (1 : Int32))]) rfl ?_
        show Steps p.tables e below (T89.setTop (mkF m 118 #[.val (.int p1), .val (.int p2), .val (.int p3), .val (.int p4), .val (.int p5), .val (.int p6), .val (.int (1 : Int32)), .val (.int (3 : Int32)), .val (.ref b77), .val (.ref b_86), .val (.ref b87), .val (.int (1 : Int32))] [])) t_
        refine XS.iload X89.here hx rfl (hb hby at_118) rfl ?_
        show Steps p.tables e below (T89.setTop (mkF m 120 #[.val (.int p1), .val (.int p2), .val (.int p3), .val (.int p4), .val (.int p5), .val (.int p6), .val (.int (1 : Int32)), .val (.int (3 : Int32)), .val (.ref b77), .val (.ref b_86), .val (.ref b87), .val (.int (1 : Int32))] [(.int (1 : Int32))])) t_
        refine XS.iload X89.here hx rfl (hb hby at_120) rfl ?_
        show Steps p.tables e below (T89.setTop (mkF m 122 #[.val (.int p1), .val (.int p2), .val (.int p3), .val (.int p4), .val (.int p5), .val (.int p6), .val (.int (1 : Int32)), .val (.int (3 : Int32)), .val (.ref b77), .val (.ref b_86), .val (.ref b87), .val (.int (1 : Int32))] [(.int (1 : Int32)), (.int (1 : Int32))])) t_
        refine XS.icmpNo X89.here hx rfl (hb hby at_122) rfl (teq (by decide : (1 : Int32) = (1 : Int32))).2 ?_
        show Steps p.tables e below (T89.setTop (mkF m 125 #[.val (.int p1), .val (.int p2), .val (.int p3), .val (.int p4), .val (.int p5), .val (.int p6), .val (.int (1 : Int32)), .val (.int (3 : Int32)), .val (.ref b77), .val (.ref b_86), .val (.ref b87), .val (.int (1 : Int32))] [])) t_
        refine XS.aload X89.here hx rfl (hb hby at_125) rfl rfl ?_
        exact k_
      obtain ⟨cq90, kq90, q90a, q90b, q90c⟩ := isOf hZ eh89 (A87.keep Kc88)
      obtain ⟨_, _, ⟨T90, L90, k90, n90⟩, -, X90, ⟨Lc90, hQ90, l90, y90, z90⟩, st90⟩ := X89.virtualBack hx (y := own_y24) (z := own_y24) hown (mvT hZ (own_w hw 47 rfl)) (mvT hZ (own_w hw 48 rfl)) (notFace_of_selects (args := #[]) (mvT hZ (own_w hw 50 rfl))) (mvT hZ (own_w hw 50 rfl)) (mvT hZ (own_w hw 49 rfl)) (by decide) (backOf (W := 0) (rmMar1 l Z a0 hw [] b87 b_86 T88.heap n0 (Nat.le_trans Z0 K88.1) r88_0) hZ (own_w hw 51 rfl) (own_w hw 28 rfl) (by decide) (by decide)) q90a q90c (g := (mkF m 127 #[.val (.int p1), .val (.int p2), .val (.int p3), .val (.int p4), .val (.int p5), .val (.int p6), .val (.int (1 : Int32)), .val (.int (3 : Int32)), .val (.ref b77), .val (.ref b_86), .val (.ref b87), .val (.int (1 : Int32))] [(.ref b87)])) rfl (by rw [hml]; rfl) (Steps.refl _) (argsL := []) (rest := []) (lenOf pd_17 rfl) rfl (by show 2 * 0 + _ ≤ _; exact Nat.le_of_eq rfl) (hb hby at_127) (fun _ _ => ⟨rfl, eh89, (by decide : 12 + 0 ≤ _), (by decide : 30 + 0 ≤ _)⟩)
      dsimp only [Pt.U, Pt.locs, Pt.cells, Pt.slots] at X90 l90 y90 z90 st90 hQ90
      subst l90 y90 z90
      obtain ⟨rfl, N90q, eh90⟩ := hQ90
      have N90 := Fr.app N89 N90q
      refine own_via st90 ?_
      refine own_go (A := T90.setTop (mkF m 140 #[.val (.int p1), .val (.int p2), .val (.int p3), .val (.int p4), .val (.int p5), .val (.int p6), .val (.int (1 : Int32)), .val (.int (3 : Int32)), .val (.ref b77), .val (.ref b_86), .val (.ref b87), .val (.int (1 : Int32))] [(.int (1 : Int32))])) (fun t_ k_ => ?_) ?_
      · show Steps p.tables e below (T90.setTop (mkF m 130 #[.val (.int p1), .val (.int p2), .val (.int p3), .val (.int p4), .val (.int p5), .val (.int p6), .val (.int (1 : Int32)), .val (.int (3 : Int32)), .val (.ref b77), .val (.ref b_86), .val (.ref b87), .val (.int (1 : Int32))] [(.ref b_86)])) t_
        refine XS.aload X90.here hx rfl (hb hby at_130) rfl rfl ?_
        show Steps p.tables e below (T90.setTop (mkF m 132 #[.val (.int p1), .val (.int p2), .val (.int p3), .val (.int p4), .val (.int p5), .val (.int p6), .val (.int (1 : Int32)), .val (.int (3 : Int32)), .val (.ref b77), .val (.ref b_86), .val (.ref b87), .val (.int (1 : Int32))] [(.ref b_86), (.ref b_86)])) t_
        refine Jvm.RoadKit.acmp (g := (mkF m 132 #[.val (.int p1), .val (.int p2), .val (.int p3), .val (.int p4), .val (.int p5), .val (.int p6), .val (.int (1 : Int32)), .val (.int (3 : Int32)), .val (.ref b77), .val (.ref b_86), .val (.ref b87), .val (.int (1 : Int32))] [(.ref b_86), (.ref b_86)])) X90 hx rfl rfl rfl (pc0 := 132) (pc' := 135) (same := true) rfl (hb hby at_132) rfl (decide_eq_true rfl) (by decide) (by decide) ?_
        show Steps p.tables e below (T90.setTop (mkF m 135 #[.val (.int p1), .val (.int p2), .val (.int p3), .val (.int p4), .val (.int p5), .val (.int p6), .val (.int (1 : Int32)), .val (.int (3 : Int32)), .val (.ref b77), .val (.ref b_86), .val (.ref b87), .val (.int (1 : Int32))] [])) t_
        refine XS.iconst X90.here hx rfl (hb hby at_135) ?_
        show Steps p.tables e below (T90.setTop (mkF m 136 #[.val (.int p1), .val (.int p2), .val (.int p3), .val (.int p4), .val (.int p5), .val (.int p6), .val (.int (1 : Int32)), .val (.int (3 : Int32)), .val (.ref b77), .val (.ref b_86), .val (.ref b87), .val (.int (1 : Int32))] [(.int (1 : Int32))])) t_
        refine XS.goto X90.here hx rfl (pc0 := 136) (pc' := 140) rfl (hb hby at_136) (by decide) (by decide) ?_
        exact k_
      obtain ⟨fs91, hr91, hrun91, hended91, hRW91⟩ := X90.leaveW hS (by rw [eh90]; exact hk) (v := some (.int (1 : Int32))) (fun h => by rw [Bd.returns] at h; cases h)
      refine ⟨_, _, ?_, hrun91, hended91, _, _, rfl, ?_, ?_, hRW91.1, hRW91.2.1, hRW91.2.2.1, hRW91.2.2.2.mono (by decide) (by decide)⟩
      · exact retN X90 hx (t := .boolean) Bd.returns (by simp) (hb hby at_140) hr91
      · show Q_rm0 Z p1 p2 p3 p4 p5 p6 cs dc kd ca bxc h0 n0 _ T90.heap _
        rw [eh90]
        exact ⟨rfl, N90, K88⟩
      · show CHr Z own_EL s.vm s.heap T90.vm T90.heap
        rw [hh, eh90]
        exact R88.trans (CHv.at X90 hZ hEL R88.1)
theorem own_len {args : Array Value} {s : State} {t : Term} {a : Addr} {cl : Cell} {z : Int32} (ev : t.eval args s none [] s = some (.ref a)) (hA : s.arrayAt? a = some cl) (h2 : (Term.length t).eval args s none [] s = some (.int z)) : cl.slots.size < 2 ^ 31 ∧ cl.slots.size.toInt32 = z := by
  have h3 := h2
  simp only [Term.eval, ev, hA, Option.bind_eq_bind, Option.bind_some] at h3
  by_cases q : cl.slots.size < 2 ^ 31
  · simp [q] at h3; exact ⟨q, h3⟩
  · simp [q] at h3
theorem own_arr0 {args : Array Value} {s : State} (hf : Fit s) {t : Term} {a : Addr} {ty : FieldType} {dv : Value} (ev : t.eval args s none [] s = some (.ref a)) (h1 : (Jvm.Cond.arrayOf t ty).value args s none s [] = some true) (h2 : (Term.length t).eval args s none [] s = some (.int 0)) : ∃ k, Arv s s.heap a k ty 0 [] dv := by
  obtain ⟨cl, A⟩ := Arr.start ev h1
  have hs := own_len ev (A.fin (State.Warmed39.refl s).alike) h2
  exact ⟨cl.cls, Arv.start hf A hs.1 hs.2 (by decide) rfl trivial⟩
theorem own_bxs {args : Array Value} {s : State} {C f d : String} {a : Addr} (ev : (Term.static C f d).eval args s none [] s = some (.ref a)) (h1 : (Jvm.Cond.arrayOf (.static C f d) (.object "java/lang/Integer")).value args s none s [] = some true) (h2 : (Term.length (.static C f d)).eval args s none [] s = some (.int 256))
    (h : (Jvm.Cond.all (.static C f d) (.and (.exactly (.elem (.static C f d) (.index 0)) "java/lang/Integer") (.eq (.field (.elem (.static C f d) (.index 0)) "java/lang/Integer" "value" "I") (.sub (.index 0) (.int 128))))).value args s none s [] = some true) : ∃ c, Bxs s a c "java/lang/Integer" "I" (256 : Int32) own_bval := by
  obtain ⟨cl, A⟩ := Arr.start ev h1
  have hs := own_len ev (A.fin (State.Warmed39.refl s).alike) h2
  refine ⟨cl, Bxs.start (t := .static C f d) (F := .sub (.index 0) (.int 128)) (fun idx => ev) A hs.1 hs.2 (by decide) h (fun X j hj q => ?_)⟩
  refine eqv_i ?_ q
  have e : (Term.index 0).eval args s none [j.toNatClampNeg] s = some (.int j) := idx_at hj
  generalize hT : Term.index 0 = T at e
  simp [Term.eval, e]
set_option maxRecDepth 65536 in
set_option maxHeartbeats 40000000 in
theorem comes_1 {Post : Tables → Env → Array Value → State → Outcome → State → Prop} (hpost : ∀ tb e args s v u, (limb_1_1.after args s (.returned v) u = true ∧ limb_1_2.after args s (.returned v) u = true ∧ True) → ReturnedEndW s (.returned v) u (Jvm.fieldLocs frame_1_writes args s ++ Jvm.arrayLocs frame_1_arrays args s ++ Jvm.staticLocs frame_1_statics s) 32 1152 → Post tb e args s (.returned v) u) :
    ArmFor flags0 classFile x code maxLocals ret World_1 tables_1 room_1 Calls_1 rest_1 Pre_1 Post := by
  intro l hfl _ _ p e ha hc hk s m args below hf hA hF happ hP
  obtain ⟨hcalls, hrest, hpre⟩ := hP
  obtain ⟨-, -, -, hnamed, -, -, -, hat⟩ := (Spec.applies_iff hf).mp happ
  obtain ⟨hg, hn⟩ := and_e (Cond.before_iff.mp (show (Jvm.Cond.and given_1 narrow_1).before args s = true from hpre))
  obtain ⟨hg_0, hg_1⟩ := and_e hg
  obtain ⟨hg_2, hg_3⟩ := and_e hg_1
  obtain ⟨hg_4, hg_5⟩ := and_e hg_3
  obtain ⟨hg_6, hg_7⟩ := and_e hg_5
  obtain ⟨hg_8, hg_9⟩ := and_e hg_7
  obtain ⟨hg_10, hg_11⟩ := and_e hg_9
  obtain ⟨w0, w1, w2, w3, w4, w5, rfl⟩ : ∃ w0 w1 w2 w3 w4 w5 : Value, args = #[w0, w1, w2, w3, w4, w5] := by
    have hs : args.size = 6 := by simpa [Cond.value, given_1] using hg_0
    obtain ⟨L⟩ := args
    match L, hs with
    | [w0, w1, w2, w3, w4, w5], _ => exact ⟨w0, w1, w2, w3, w4, w5, rfl⟩
  have hw := fun d (hd : d ∈ tables_1) => atoms_spec (ws := Jvm.Cond.code x code maxLocals ret :: tables_1) hat d (List.mem_cons_of_mem _ hd)
  have hfit : Fit s := fun {y c} hc i hi => by
    obtain ⟨ha, rfl⟩ := Array.getElem?_eq_some_iff.mp hc
    have q := List.all_eq_true.mp ((Array.all_eq_true_iff_forall_mem.mp hF) _ (Array.getElem_mem ha)) i (List.mem_range.mpr hi)
    simpa [Array.getElem?_eq_getElem hi] using q
  obtain ⟨i0, ei0⟩ := is_v hg_2
  obtain rfl : w0 = (.int i0) := Option.some.inj ei0
  obtain ⟨i1, ei1⟩ := is_v hg_4
  obtain rfl : w1 = (.int i1) := Option.some.inj ei1
  obtain ⟨i2, ei2⟩ := is_v hg_6
  obtain rfl : w2 = (.int i2) := Option.some.inj ei2
  obtain ⟨i3, ei3⟩ := is_v hg_8
  obtain rfl : w3 = (.int i3) := Option.some.inj ei3
  obtain ⟨i4, ei4⟩ := is_v hg_10
  obtain rfl : w4 = (.int i4) := Option.some.inj ei4
  obtain ⟨i5, ei5⟩ := is_v hg_11
  obtain rfl : w5 = (.int i5) := Option.some.inj ei5
  obtain ⟨hsets, hown0⟩ := atoms_of _ (rest_1_c_eq ▸ (show rest_1_c.before _ s = true from hrest))
  obtain ⟨cs, ecs⟩ := is_v (Cond.before_iff.mp (hsets _ (List.mem_of_getElem? (i := 18) rfl)))
  have Scs : Sta s s.heap "java/lang/String" "COMPACT_STRINGS" "Z" (.int cs) := Sta.start ecs (Or.inl (hsets _ (List.mem_of_getElem? (i := 17) rfl)))
  have hcw := (hsets _ (List.mem_of_getElem? (i := 19) rfl))
  have hcs : ¬ (cs = (0 : Int32)) := gotF (Cond.eq_ints ecs (Term.int_eval (0))) (not_v (Cond.before_iff.mp hcw))
  obtain ⟨sf, esf, rsf⟩ := isR_v (Cond.before_iff.mp (hsets _ (List.mem_of_getElem? (i := 25) rfl)))
  have Ssf : Sta s s.heap "jdk/internal/util/Preconditions" "SIOOBE_FORMATTER" "Ljava/util/function/BiFunction;" sf := Sta.start esf (Or.inl (hsets _ (List.mem_of_getElem? (i := 24) rfl)))
  have hdc := Cond.before_iff.mp (hsets _ (List.mem_of_getElem? (i := 6) rfl))
  obtain ⟨dc, evdc⟩ := arr_v hdc
  have Sdc : Sta s s.heap "java/util/ArrayList" "DEFAULTCAPACITY_EMPTY_ELEMENTDATA" "[Ljava/lang/Object;" (.ref dc) := Sta.start evdc (Or.inr ⟨(own_w hw 2 rfl), (hsets _ (List.mem_of_getElem? (i := 2) rfl))⟩)
  obtain ⟨kd, Adc⟩ := own_arr0 (dv := .null) hfit evdc hdc (own_eqInt (Cond.before_iff.mp (hsets _ (List.mem_of_getElem? (i := 8) rfl))))
  have Shi : Sta s s.heap "java/lang/Integer$IntegerCache" "high" "I" (.int (127 : Int32)) := Sta.start (own_eqInt (Cond.before_iff.mp (hsets _ (List.mem_of_getElem? (i := 12) rfl)))) (Or.inl (hsets _ (List.mem_of_getElem? (i := 10) rfl)))
  have hca := Cond.before_iff.mp (hsets _ (List.mem_of_getElem? (i := 13) rfl))
  obtain ⟨ca, evca⟩ := arr_v hca
  have Sca : Sta s s.heap "java/lang/Integer$IntegerCache" "cache" "[Ljava/lang/Integer;" (.ref ca) := Sta.start evca (Or.inr ⟨(own_w hw 57 rfl), (hsets _ (List.mem_of_getElem? (i := 11) rfl))⟩)
  obtain ⟨bxc, hbx⟩ := own_bxs evca hca (own_eqInt (Cond.before_iff.mp (hsets _ (List.mem_of_getElem? (i := 15) rfl)))) (Cond.before_iff.mp (hsets _ (List.mem_of_getElem? (i := 16) rfl)))
  obtain ⟨n, o, h1, h2, h3, _, L, rfl, ⟨rfl, N, -⟩, -, hq⟩ := rm0 l s _ hw tables_1 i0 i1 i2 i3 i4 i5 cs dc kd ca bxc s.heap s.heap.size (Nat.le_refl _) (Old.start s) Scs hcs Sdc Adc Shi Sca hbx p e ha hc hk s m _ below hf ((Spec.applies_iff_loose hf).mp happ).1 ⟨rfl, State.Warmed39.refl s, rfl, (CHv.start (own_EW hw) (fun p hp => hcalls.1 p hp) hcw (own_w hw 126 rfl) (own_w hw 111 rfl))⟩ trivial
  refine ⟨n, _, h1, h2, h3, hpost _ _ _ _ _ _ ⟨Cond.after_iff.mpr rfl, Cond.after_iff.mpr (eq_i res_at (Term.int_eval (1)) rfl), trivial⟩ ⟨hq.1, hq.2.1, hq.2.2.1, (hq.2.2.2.sift fun y hy => Or.inr (N y hy)).mono (by decide) (by decide)⟩⟩
theorem main_1_1 : Claimed_1_1 := comes_1 fun _ _ _ _ _ _ h hF => ⟨h.1, hF⟩
theorem main_1_2 : Claimed_1_2 := comes_1 fun _ _ _ _ _ _ h hF => ⟨h.2.1, hF⟩
end Jvm.Pilot.@@N@@
namespace Jvm.Pilot.@@N@@
open Jvm Jvm.ClassFile Sem Op Lib Jvm.Free Jvm.Stand Jvm.Pilot.@@N@@.Jvm.D
/-! MADE BY PROGRAM (witnessworld.py) out of the Statement's table words and the real class files: 35 classes; the members and pool entries that the words name. The judged class is class 1, her method 2. -/
namespace start1
open Jvm.ClassFile
def u (s : String) : CpInfo := .utf8 (stringToUtf16 s)
/-- a pool by its gaps: so many unusable entries, then the entry; so many at the end -/
def gap : Nat → List CpInfo → List CpInfo
  | 0, r => r
  | n + 1, r => .unusable :: gap n r
def poolList (es : List (Nat × CpInfo)) (last : Nat) : List CpInfo := es.foldr (fun e r => gap e.1 (e.2 :: r)) (gap last [])
def pool (es : List (Nat × CpInfo)) (last : Nat) : Array CpInfo := ⟨poolList es last⟩
def fileOf (pool : Array CpInfo) (this : Nat) (attrs : Array Attribute := #[]) (ms : Array MethodInfo := #[]) (fl : Nat := 33) (sup : Nat := 0) (ifs : Array Nat := #[]) (fds : Array FieldInfo := #[]) : ClassFile where
  minorVersion := 0
  majorVersion := 65
  constantPool := pool
  accessFlags := fl
  thisClass := this
  superClass := sup
  interfaces := ifs
  fields := fds
  methods := ms
  attributes := attrs
def plain (name : String) (sup : Option ClassId) : Class where
  name := name
  kind := .ordinary
  loader := none
  accessFlags := 33
  super := sup
  interfaces := #[]
  cf := none
  fields := #[]
  methods := #[]
  instanceTypes := #[]
  staticTypes := #[]
  resolved := #[]
  callSites := []
  init := .initialized
  statics := none
  mirror := none

def pool0 : Array CpInfo := pool [(5, u "<init>"), (0, u "()V"), (1, .class_ 10), (1, u "java/lang/Object")] 113

def k0c0 : Code := { maxStack := 0, maxLocals := 1, code := object_method_1_code, exceptionTable := #[], attributes := #[] }
def k0m0 : Method := { name := "<init>", desc := "()V", sig := { parameters := [], returnType := none }, accessFlags := 1, code := some k0c0 }
/-- java/lang/Object -/
def k0 : Class := { plain "java/lang/Object" none with
  accessFlags := 33
  interfaces := #[]
  cf := some (fileOf pool0 8 #[] #[{ accessFlags := 1, nameIndex := 5, descriptorIndex := 6, attributes := #[] }] 33 0 #[] #[])
  fields := #[]
  methods := #[k0m0]
  instanceTypes := #[]
  staticTypes := #[]
  resolved := Array.replicate 124 none
  statics := none }

def pool1 : Array CpInfo := pool [(2, .class_ 4), (0, .nameAndType 5 6), (0, u "java/lang/Object"), (0, u "<init>"), (0, u "()V"), (0, .class_ 8), (0, u "java/lang/String"), (0, .methodref 7 10), (0, .nameAndType 5 11), (0, u "([C)V"), (0, .methodref 7 13), (0, .nameAndType 14 15), (0, u "valueOf"), (0, u "(C)Ljava/lang/String;"), (0, .class_ 17), (0, u "java/util/ArrayList"), (0, .methodref 16 3), (0, .methodref 20 21), (0, .class_ 22), (0, .nameAndType 14 23), (0, u "java/lang/Integer"), (0, u "(I)Ljava/lang/Integer;"), (0, .methodref 16 25), (0, .nameAndType 26 27), (0, u "add"), (0, u "(Ljava/lang/Object;)Z"), (0, .methodref 29 30), (0, .class_ 31), (0, .nameAndType 32 33), (0, u "com/example/tenant/tenant/core/PageIsTruncatedPinLaw"), (0, u "mk"), (0, u "(IIII)Ljava/lang/String;"), (0, .class_ 35), (0, u "com/example/tenant/tenant/core/Page"), (0, .methodref 34 37), (0, .nameAndType 5 38), (0, u "(Ljava/util/List;Ljava/lang/String;)V"), (0, .methodref 34 40), (0, .nameAndType 41 42), (0, u "isTruncated"), (0, u "()Z"), (0, .methodref 34 44), (0, .nameAndType 45 46), (0, u "marker"), (0, u "()Ljava/lang/String;"), (3, u "law"), (0, u "(IIIIII)Z")] 2

def k1m0 : Method := { name := "<init>", desc := "()V", sig := { parameters := [], returnType := none }, accessFlags := 1, code := none }
def k1c1 : Code := { maxStack := 3, maxLocals := 8, code := method_2_code, exceptionTable := #[], attributes := #[] }
def k1m1 : Method := { name := "mk", desc := "(IIII)Ljava/lang/String;", sig := { parameters := [.int, .int, .int, .int], returnType := some (.object "java/lang/String") }, accessFlags := 10, code := some k1c1 }
def k1c2 : Code := { maxStack := 4, maxLocals := 12, code := code, exceptionTable := #[], attributes := #[] }
def k1m2 : Method := { name := "law", desc := "(IIIIII)Z", sig := { parameters := [.int, .int, .int, .int, .int, .int], returnType := some .boolean }, accessFlags := 9, code := some k1c2 }
/-- com/example/tenant/tenant/core/PageIsTruncatedPinLaw -/
def k1 : Class := { plain "com/example/tenant/tenant/core/PageIsTruncatedPinLaw" (some 0) with
  accessFlags := 49
  interfaces := #[]
  cf := some (fileOf pool1 29 #[] #[{ accessFlags := 1, nameIndex := 5, descriptorIndex := 6, attributes := #[] }, { accessFlags := 10, nameIndex := 32, descriptorIndex := 33, attributes := #[] }, { accessFlags := 9, nameIndex := 50, descriptorIndex := 51, attributes := #[] }] 49 2 #[] #[])
  fields := #[]
  methods := #[k1m0, k1m1, k1m2]
  instanceTypes := #[]
  staticTypes := #[]
  resolved := Array.replicate 54 none
  statics := none }

def pool2 : Array CpInfo := pool [(8, .class_ 10), (1, u "java/lang/Iterable"), (24, .class_ 36), (0, u "java/lang/Object")] 25

/-- java/lang/Iterable -/
def k2 : Class := { plain "java/lang/Iterable" (some 0) with
  accessFlags := 1537
  interfaces := #[]
  cf := some (fileOf pool2 8 #[] #[] 1537 35 #[] #[])
  fields := #[]
  methods := #[]
  instanceTypes := #[]
  staticTypes := #[]
  resolved := Array.replicate 62 none
  statics := none }

def pool3 : Array CpInfo := pool [(10, .class_ 12), (1, u "java/util/Collection"), (47, .class_ 61), (0, u "java/lang/Object"), (0, .class_ 63), (0, u "java/lang/Iterable")] 51

/-- java/util/Collection -/
def k3 : Class := { plain "java/util/Collection" (some 0) with
  accessFlags := 1537
  interfaces := #[2]
  cf := some (fileOf pool3 10 #[] #[] 1537 60 #[62] #[])
  fields := #[]
  methods := #[]
  instanceTypes := #[]
  staticTypes := #[]
  resolved := Array.replicate 115 none
  statics := none }

def pool4 : Array CpInfo := pool [(1, .methodref 2 3), (0, .class_ 4), (0, .nameAndType 5 6), (0, u "java/lang/Object"), (0, u "<init>"), (0, u "()V"), (1, .class_ 10), (1, u "java/util/AbstractCollection"), (66, .class_ 78), (0, u "java/util/Collection")] 81

def k4c0 : Code := { maxStack := 1, maxLocals := 1, code := jdk_22_method_1_code, exceptionTable := #[], attributes := #[] }
def k4m0 : Method := { name := "<init>", desc := "()V", sig := { parameters := [], returnType := none }, accessFlags := 4, code := some k4c0 }
/-- java/util/AbstractCollection -/
def k4 : Class := { plain "java/util/AbstractCollection" (some 0) with
  accessFlags := 1057
  interfaces := #[3]
  cf := some (fileOf pool4 8 #[] #[{ accessFlags := 4, nameIndex := 5, descriptorIndex := 6, attributes := #[] }] 1057 2 #[77] #[])
  fields := #[]
  methods := #[k4m0]
  instanceTypes := #[]
  staticTypes := #[]
  resolved := Array.replicate 160 none
  statics := none }

def pool5 : Array CpInfo := pool [(8, .class_ 10), (1, u "java/util/SequencedCollection"), (15, .class_ 27), (0, u "java/lang/Object"), (0, .class_ 29), (0, u "java/util/Collection")] 27

/-- java/util/SequencedCollection -/
def k5 : Class := { plain "java/util/SequencedCollection" (some 0) with
  accessFlags := 1537
  interfaces := #[3]
  cf := some (fileOf pool5 8 #[] #[] 1537 26 #[28] #[])
  fields := #[]
  methods := #[]
  instanceTypes := #[]
  staticTypes := #[]
  resolved := Array.replicate 57 none
  statics := none }

def pool6 : Array CpInfo := pool [(8, .class_ 10), (1, u "java/util/List"), (92, .class_ 104), (0, u "java/lang/Object"), (15, .class_ 121), (0, u "java/util/SequencedCollection")] 129

/-- java/util/List -/
def k6 : Class := { plain "java/util/List" (some 0) with
  accessFlags := 1537
  interfaces := #[5]
  cf := some (fileOf pool6 8 #[] #[] 1537 103 #[120] #[])
  fields := #[]
  methods := #[]
  instanceTypes := #[]
  staticTypes := #[]
  resolved := Array.replicate 251 none
  statics := none }

def pool7 : Array CpInfo := pool [(1, .methodref 2 3), (0, .class_ 4), (0, .nameAndType 5 6), (0, u "java/util/AbstractCollection"), (0, u "<init>"), (0, u "()V"), (0, .fieldref 8 9), (0, .class_ 10), (0, .nameAndType 11 12), (0, u "java/util/AbstractList"), (0, u "modCount"), (0, u "I"), (64, .class_ 78), (0, u "java/util/AbstractList$Itr"), (3, .class_ 83), (0, u "java/util/AbstractList$ListItr"), (9, .class_ 94), (0, u "java/util/AbstractList$RandomAccessSubList"), (3, .class_ 99), (0, u "java/util/AbstractList$SubList"), (33, .class_ 134), (0, u "java/util/List"), (73, .class_ 209), (0, u "java/util/AbstractList$SubList$1"), (0, .class_ 211), (0, u "java/util/AbstractList$RandomAccessSpliterator")] 6

def k7c0 : Code := { maxStack := 2, maxLocals := 1, code := jdk_39_method_1_code, exceptionTable := #[], attributes := #[] }
def k7m0 : Method := { name := "<init>", desc := "()V", sig := { parameters := [], returnType := none }, accessFlags := 4, code := some k7c0 }
/-- java/util/AbstractList -/
def k7 : Class := { plain "java/util/AbstractList" (some 4) with
  accessFlags := 1057
  interfaces := #[6]
  cf := some (fileOf pool7 8 #[.nestMembers #[93, 98, 208, 210, 82, 77]] #[{ accessFlags := 4, nameIndex := 5, descriptorIndex := 6, attributes := #[] }] 1057 2 #[133] #[{ accessFlags := 132, nameIndex := 11, descriptorIndex := 12, attributes := #[] }])
  fields := #[{ name := "modCount", type := .int, accessFlags := 132, slot := 0, constantValue := 0 }]
  methods := #[k7m0]
  instanceTypes := #[.int]
  staticTypes := #[]
  resolved := Array.replicate 218 none
  statics := none }

def pool8 : Array CpInfo := pool [(1, .class_ 2), (0, u "java/util/RandomAccess"), (0, .class_ 4), (0, u "java/lang/Object")] 2

/-- java/util/RandomAccess -/
def k8 : Class := { plain "java/util/RandomAccess" (some 0) with
  accessFlags := 1537
  interfaces := #[]
  cf := some (fileOf pool8 1 #[] #[] 1537 3 #[] #[])
  fields := #[]
  methods := #[]
  instanceTypes := #[]
  staticTypes := #[]
  resolved := Array.replicate 7 none
  statics := none }

def pool9 : Array CpInfo := pool [(1, .class_ 2), (0, u "java/lang/Cloneable"), (0, .class_ 4), (0, u "java/lang/Object")] 2

/-- java/lang/Cloneable -/
def k9 : Class := { plain "java/lang/Cloneable" (some 0) with
  accessFlags := 1537
  interfaces := #[]
  cf := some (fileOf pool9 1 #[] #[] 1537 3 #[] #[])
  fields := #[]
  methods := #[]
  instanceTypes := #[]
  staticTypes := #[]
  resolved := Array.replicate 7 none
  statics := none }

def pool10 : Array CpInfo := pool [(1, .class_ 2), (0, u "java/io/Serializable"), (0, .class_ 4), (0, u "java/lang/Object")] 2

/-- java/io/Serializable -/
def k10 : Class := { plain "java/io/Serializable" (some 0) with
  accessFlags := 1537
  interfaces := #[]
  cf := some (fileOf pool10 1 #[] #[] 1537 3 #[] #[])
  fields := #[]
  methods := #[]
  instanceTypes := #[]
  staticTypes := #[]
  resolved := Array.replicate 7 none
  statics := none }

def pool11 : Array CpInfo := pool [(1, .methodref 2 3), (0, .class_ 4), (0, .nameAndType 5 6), (0, u "java/util/AbstractList"), (0, u "<init>"), (0, u "()V"), (0, .class_ 8), (0, u "java/lang/Object"), (0, .fieldref 10 11), (0, .class_ 12), (0, .nameAndType 13 14), (0, u "java/util/ArrayList"), (0, u "elementData"), (0, u "[Ljava/lang/Object;"), (2, u "EMPTY_ELEMENTDATA"), (21, .fieldref 10 40), (0, .nameAndType 41 14), (0, u "DEFAULTCAPACITY_EMPTY_ELEMENTDATA"), (5, u "()[Ljava/lang/Object;"), (0, .fieldref 10 49), (0, .nameAndType 50 51), (0, u "size"), (0, u "I"), (11, .fieldref 10 64), (0, .nameAndType 65 51), (0, u "modCount"), (3, .methodref 10 70), (0, .nameAndType 71 72), (0, u "grow"), (0, u "(I)[Ljava/lang/Object;"), (6, .methodref 80 81), (0, .class_ 82), (0, .nameAndType 83 84), (0, u "java/lang/Math"), (0, u "max"), (0, u "(II)I"), (11, u "(Ljava/lang/Object;)Z"), (32, .methodref 10 130), (0, .nameAndType 71 47), (0, .methodref 10 132), (0, .nameAndType 133 134), (0, u "add"), (0, u "(Ljava/lang/Object;[Ljava/lang/Object;I)V"), (13, .class_ 149), (0, u "java/util/List"), (112, .class_ 263), (0, u "java/util/ArrayList$ListItr"), (3, .class_ 268), (0, u "java/util/ArrayList$Itr"), (7, .class_ 277), (0, u "java/util/ArrayList$SubList"), (12, .class_ 291), (0, u "java/util/ArrayList$ArrayListSpliterator"), (37, .class_ 330), (0, u "java/util/RandomAccess"), (0, .class_ 332), (0, u "java/lang/Cloneable"), (0, .class_ 334), (0, u "java/io/Serializable"), (0, u "serialVersionUID"), (0, u "J"), (3, u "DEFAULT_CAPACITY"), (159, .class_ 501), (0, u "java/util/ArrayList$SubList$2"), (0, .class_ 503), (0, u "java/util/ArrayList$SubList$1")] 5

def k11c0 : Code := { maxStack := 2, maxLocals := 1, code := jdk_38_method_2_code, exceptionTable := #[], attributes := #[] }
def k11m0 : Method := { name := "<init>", desc := "()V", sig := { parameters := [], returnType := none }, accessFlags := 1, code := some k11c0 }
def k11c1 : Code := { maxStack := 4, maxLocals := 4, code := jdk_38_method_6_code, exceptionTable := #[], attributes := #[] }
def k11m1 : Method := { name := "grow", desc := "(I)[Ljava/lang/Object;", sig := { parameters := [.int], returnType := some (.array (.object "java/lang/Object")) }, accessFlags := 2, code := some k11c1 }
def k11c2 : Code := { maxStack := 3, maxLocals := 1, code := jdk_38_method_7_code, exceptionTable := #[], attributes := #[] }
def k11m2 : Method := { name := "grow", desc := "()[Ljava/lang/Object;", sig := { parameters := [], returnType := some (.array (.object "java/lang/Object")) }, accessFlags := 2, code := some k11c2 }
def k11c3 : Code := { maxStack := 3, maxLocals := 4, code := jdk_38_method_24_code, exceptionTable := #[], attributes := #[] }
def k11m3 : Method := { name := "add", desc := "(Ljava/lang/Object;[Ljava/lang/Object;I)V", sig := { parameters := [(.object "java/lang/Object"), (.array (.object "java/lang/Object")), .int], returnType := none }, accessFlags := 2, code := some k11c3 }
def k11c4 : Code := { maxStack := 4, maxLocals := 2, code := jdk_38_method_25_code, exceptionTable := #[], attributes := #[] }
def k11m4 : Method := { name := "add", desc := "(Ljava/lang/Object;)Z", sig := { parameters := [(.object "java/lang/Object")], returnType := some .boolean }, accessFlags := 1, code := some k11c4 }
/-- java/util/ArrayList -/
def k11 : Class := { plain "java/util/ArrayList" (some 7) with
  accessFlags := 33
  interfaces := #[6, 8, 9, 10]
  cf := some (fileOf pool11 10 #[.nestMembers #[290, 276, 500, 502, 262, 267]] #[{ accessFlags := 1, nameIndex := 5, descriptorIndex := 6, attributes := #[] }, { accessFlags := 2, nameIndex := 71, descriptorIndex := 72, attributes := #[] }, { accessFlags := 2, nameIndex := 71, descriptorIndex := 47, attributes := #[] }, { accessFlags := 2, nameIndex := 133, descriptorIndex := 134, attributes := #[] }, { accessFlags := 1, nameIndex := 133, descriptorIndex := 96, attributes := #[] }] 33 2 #[148, 329, 331, 333] #[{ accessFlags := 26, nameIndex := 335, descriptorIndex := 336, attributes := #[] }, { accessFlags := 26, nameIndex := 340, descriptorIndex := 51, attributes := #[] }, { accessFlags := 26, nameIndex := 17, descriptorIndex := 14, attributes := #[] }, { accessFlags := 26, nameIndex := 41, descriptorIndex := 14, attributes := #[] }, { accessFlags := 128, nameIndex := 13, descriptorIndex := 14, attributes := #[] }, { accessFlags := 2, nameIndex := 50, descriptorIndex := 51, attributes := #[] }])
  fields := #[{ name := "serialVersionUID", type := .long, accessFlags := 26, slot := 0, constantValue := 0 }, { name := "DEFAULT_CAPACITY", type := .int, accessFlags := 26, slot := 1, constantValue := 0 }, { name := "EMPTY_ELEMENTDATA", type := (.array (.object "java/lang/Object")), accessFlags := 26, slot := 2, constantValue := 0 }, { name := "DEFAULTCAPACITY_EMPTY_ELEMENTDATA", type := (.array (.object "java/lang/Object")), accessFlags := 26, slot := 3, constantValue := 0 }, { name := "elementData", type := (.array (.object "java/lang/Object")), accessFlags := 128, slot := 1, constantValue := 0 }, { name := "size", type := .int, accessFlags := 2, slot := 2, constantValue := 0 }]
  methods := #[k11m0, k11m1, k11m2, k11m3, k11m4]
  instanceTypes := #[.int, (.array (.object "java/lang/Object")), .int]
  staticTypes := #[.long, .int, (.array (.object "java/lang/Object")), (.array (.object "java/lang/Object"))]
  resolved := Array.replicate 509 none
  statics := some 0 }

def pool12 : Array CpInfo := pool [(1, .methodref 2 3), (0, .class_ 4), (0, .nameAndType 5 6), (0, u "java/lang/Object"), (0, u "<init>"), (0, u "()V"), (0, .class_ 8), (0, u "java/lang/Record")] 13

def k12c0 : Code := { maxStack := 1, maxLocals := 1, code := jdk_30_method_1_code, exceptionTable := #[], attributes := #[] }
def k12m0 : Method := { name := "<init>", desc := "()V", sig := { parameters := [], returnType := none }, accessFlags := 4, code := some k12c0 }
/-- java/lang/Record -/
def k12 : Class := { plain "java/lang/Record" (some 0) with
  accessFlags := 1057
  interfaces := #[]
  cf := some (fileOf pool12 7 #[] #[{ accessFlags := 4, nameIndex := 5, descriptorIndex := 6, attributes := #[] }] 1057 2 #[] #[])
  fields := #[]
  methods := #[k12m0]
  instanceTypes := #[]
  staticTypes := #[]
  resolved := Array.replicate 22 none
  statics := none }

def pool13 : Array CpInfo := pool [(1, .methodref 2 3), (0, .class_ 4), (0, .nameAndType 5 6), (0, u "java/lang/Record"), (0, u "<init>"), (0, u "()V"), (0, .fieldref 8 9), (0, .class_ 10), (0, .nameAndType 11 12), (0, u "com/example/tenant/tenant/core/Page"), (0, u "items"), (0, u "Ljava/util/List;"), (0, .fieldref 8 14), (0, .nameAndType 15 16), (0, u "marker"), (0, u "Ljava/lang/String;"), (24, u "()Z"), (18, u "(Ljava/util/List;Ljava/lang/String;)V"), (36, u "isTruncated"), (4, u "()Ljava/lang/String;")] 27

def k13c0 : Code := { maxStack := 2, maxLocals := 3, code := prog_15_method_1_code, exceptionTable := #[], attributes := #[] }
def k13m0 : Method := { name := "<init>", desc := "(Ljava/util/List;Ljava/lang/String;)V", sig := { parameters := [(.object "java/util/List"), (.object "java/lang/String")], returnType := none }, accessFlags := 1, code := some k13c0 }
def k13c1 : Code := { maxStack := 1, maxLocals := 1, code := prog_15_method_2_code, exceptionTable := #[], attributes := #[] }
def k13m1 : Method := { name := "isTruncated", desc := "()Z", sig := { parameters := [], returnType := some .boolean }, accessFlags := 1, code := some k13c1 }
def k13c2 : Code := { maxStack := 1, maxLocals := 1, code := prog_15_method_8_code, exceptionTable := #[], attributes := #[] }
def k13m2 : Method := { name := "marker", desc := "()Ljava/lang/String;", sig := { parameters := [], returnType := some (.object "java/lang/String") }, accessFlags := 1, code := some k13c2 }
/-- com/example/tenant/tenant/core/Page -/
def k13 : Class := { plain "com/example/tenant/tenant/core/Page" (some 12) with
  accessFlags := 49
  interfaces := #[]
  cf := some (fileOf pool13 8 #[] #[{ accessFlags := 1, nameIndex := 5, descriptorIndex := 60, attributes := #[] }, { accessFlags := 1, nameIndex := 97, descriptorIndex := 41, attributes := #[] }, { accessFlags := 1, nameIndex := 15, descriptorIndex := 102, attributes := #[] }] 49 2 #[] #[{ accessFlags := 18, nameIndex := 11, descriptorIndex := 12, attributes := #[] }, { accessFlags := 18, nameIndex := 15, descriptorIndex := 16, attributes := #[] }])
  fields := #[{ name := "items", type := (.object "java/util/List"), accessFlags := 18, slot := 0, constantValue := 0 }, { name := "marker", type := (.object "java/lang/String"), accessFlags := 18, slot := 1, constantValue := 0 }]
  methods := #[k13m0, k13m1, k13m2]
  instanceTypes := #[(.object "java/util/List"), (.object "java/lang/String")]
  staticTypes := #[]
  resolved := Array.replicate 130 none
  statics := none }

def pool14 : Array CpInfo := pool [(1, .methodref 2 3), (0, .class_ 4), (0, .nameAndType 5 6), (0, u "java/lang/Object"), (0, u "<init>"), (0, u "()V"), (1, .class_ 10), (1, u "java/lang/Number"), (2, .class_ 14), (0, u "java/io/Serializable"), (0, u "serialVersionUID"), (0, u "J")] 20

def k14c0 : Code := { maxStack := 1, maxLocals := 1, code := jdk_18_method_1_code, exceptionTable := #[], attributes := #[] }
def k14m0 : Method := { name := "<init>", desc := "()V", sig := { parameters := [], returnType := none }, accessFlags := 1, code := some k14c0 }
/-- java/lang/Number -/
def k14 : Class := { plain "java/lang/Number" (some 0) with
  accessFlags := 1057
  interfaces := #[10]
  cf := some (fileOf pool14 8 #[] #[{ accessFlags := 1, nameIndex := 5, descriptorIndex := 6, attributes := #[] }] 1057 2 #[13] #[{ accessFlags := 26, nameIndex := 15, descriptorIndex := 16, attributes := #[] }])
  fields := #[{ name := "serialVersionUID", type := .long, accessFlags := 26, slot := 0, constantValue := 0 }]
  methods := #[k14m0]
  instanceTypes := #[]
  staticTypes := #[.long]
  resolved := Array.replicate 37 none
  statics := none }

def pool15 : Array CpInfo := pool [(1, .class_ 2), (0, u "java/lang/Comparable"), (0, .class_ 4), (0, u "java/lang/Object")] 7

/-- java/lang/Comparable -/
def k15 : Class := { plain "java/lang/Comparable" (some 0) with
  accessFlags := 1537
  interfaces := #[]
  cf := some (fileOf pool15 1 #[] #[] 1537 3 #[] #[])
  fields := #[]
  methods := #[]
  instanceTypes := #[]
  staticTypes := #[]
  resolved := Array.replicate 12 none
  statics := none }

def pool16 : Array CpInfo := pool [(1, .class_ 2), (0, u "java/lang/constant/Constable"), (0, .class_ 4), (0, u "java/lang/Object")] 6

/-- java/lang/constant/Constable -/
def k16 : Class := { plain "java/lang/constant/Constable" (some 0) with
  accessFlags := 1537
  interfaces := #[]
  cf := some (fileOf pool16 1 #[] #[] 1537 3 #[] #[])
  fields := #[]
  methods := #[]
  instanceTypes := #[]
  staticTypes := #[]
  resolved := Array.replicate 11 none
  statics := none }

def pool17 : Array CpInfo := pool [(1, .class_ 2), (0, u "java/lang/constant/ConstantDesc"), (0, .class_ 4), (0, u "java/lang/Object")] 32

/-- java/lang/constant/ConstantDesc -/
def k17 : Class := { plain "java/lang/constant/ConstantDesc" (some 0) with
  accessFlags := 1537
  interfaces := #[]
  cf := some (fileOf pool17 1 #[] #[] 1537 3 #[] #[])
  fields := #[]
  methods := #[]
  instanceTypes := #[]
  staticTypes := #[]
  resolved := Array.replicate 37 none
  statics := none }

def pool18 : Array CpInfo := pool [(1, .class_ 2), (0, u "java/lang/Integer"), (16, u "digits"), (0, u "[C"), (46, u "<init>"), (17, u "DigitOnes"), (0, u "[B"), (2, u "DigitTens"), (10, .nameAndType 67 101), (0, u "()V"), (85, u "valueOf"), (0, u "(I)Ljava/lang/Integer;"), (0, .class_ 190), (0, u "java/lang/Integer$IntegerCache"), (0, .fieldref 189 192), (0, .nameAndType 193 194), (0, u "high"), (0, u "I"), (0, .fieldref 189 196), (0, .nameAndType 197 198), (0, u "cache"), (0, u "[Ljava/lang/Integer;"), (0, .methodref 1 200), (0, .nameAndType 67 201), (0, u "(I)V"), (0, .methodref 203 100), (0, .class_ 204), (0, u "java/lang/Number"), (0, .fieldref 1 206), (0, .nameAndType 207 194), (0, u "value"), (94, u "TYPE"), (0, u "Ljava/lang/Class;"), (0, .class_ 305), (0, u "java/lang/Comparable"), (0, .class_ 307), (0, u "java/lang/constant/Constable"), (0, .class_ 309), (0, u "java/lang/constant/ConstantDesc"), (0, u "MIN_VALUE"), (1, u "MAX_VALUE"), (3, u "SIZE"), (1, u "BYTES"), (1, u "serialVersionUID"), (0, u "J")] 131

def k18c0 : Code := { maxStack := 3, maxLocals := 1, code := jdk_33_method_22_code, exceptionTable := #[], attributes := #[] }
def k18m0 : Method := { name := "valueOf", desc := "(I)Ljava/lang/Integer;", sig := { parameters := [.int], returnType := some (.object "java/lang/Integer") }, accessFlags := 9, code := some k18c0 }
def k18c1 : Code := { maxStack := 2, maxLocals := 2, code := jdk_33_method_23_code, exceptionTable := #[], attributes := #[] }
def k18m1 : Method := { name := "<init>", desc := "(I)V", sig := { parameters := [.int], returnType := none }, accessFlags := 1, code := some k18c1 }
/-- java/lang/Integer -/
def k18 : Class := { plain "java/lang/Integer" (some 14) with
  accessFlags := 49
  interfaces := #[15, 16, 17]
  cf := some (fileOf pool18 1 #[.nestMembers #[189]] #[{ accessFlags := 9, nameIndex := 187, descriptorIndex := 188, attributes := #[] }, { accessFlags := 1, nameIndex := 67, descriptorIndex := 201, attributes := #[] }] 49 203 #[304, 306, 308] #[{ accessFlags := 25, nameIndex := 310, descriptorIndex := 194, attributes := #[] }, { accessFlags := 25, nameIndex := 312, descriptorIndex := 194, attributes := #[] }, { accessFlags := 25, nameIndex := 302, descriptorIndex := 303, attributes := #[] }, { accessFlags := 24, nameIndex := 19, descriptorIndex := 20, attributes := #[] }, { accessFlags := 24, nameIndex := 89, descriptorIndex := 86, attributes := #[] }, { accessFlags := 24, nameIndex := 85, descriptorIndex := 86, attributes := #[] }, { accessFlags := 18, nameIndex := 207, descriptorIndex := 194, attributes := #[] }, { accessFlags := 25, nameIndex := 316, descriptorIndex := 194, attributes := #[] }, { accessFlags := 25, nameIndex := 318, descriptorIndex := 194, attributes := #[] }, { accessFlags := 26, nameIndex := 320, descriptorIndex := 321, attributes := #[] }])
  fields := #[{ name := "MIN_VALUE", type := .int, accessFlags := 25, slot := 0, constantValue := 0 }, { name := "MAX_VALUE", type := .int, accessFlags := 25, slot := 1, constantValue := 0 }, { name := "TYPE", type := (.object "java/lang/Class"), accessFlags := 25, slot := 2, constantValue := 0 }, { name := "digits", type := (.array .char), accessFlags := 24, slot := 3, constantValue := 0 }, { name := "DigitTens", type := (.array .byte), accessFlags := 24, slot := 4, constantValue := 0 }, { name := "DigitOnes", type := (.array .byte), accessFlags := 24, slot := 5, constantValue := 0 }, { name := "value", type := .int, accessFlags := 18, slot := 0, constantValue := 0 }, { name := "SIZE", type := .int, accessFlags := 25, slot := 6, constantValue := 0 }, { name := "BYTES", type := .int, accessFlags := 25, slot := 7, constantValue := 0 }, { name := "serialVersionUID", type := .long, accessFlags := 26, slot := 8, constantValue := 0 }]
  methods := #[k18m0, k18m1]
  instanceTypes := #[.int]
  staticTypes := #[.int, .int, (.object "java/lang/Class"), (.array .char), (.array .byte), (.array .byte), .int, .int, .long]
  resolved := Array.replicate 453 none
  statics := none }

def pool19 : Array CpInfo := pool [(2, .class_ 4), (1, u "java/lang/Object"), (0, u "<init>"), (0, u "()V"), (0, .class_ 8), (0, u "java/lang/Integer"), (7, .class_ 18), (1, u "java/lang/Integer$IntegerCache"), (0, u "$assertionsDisabled"), (0, u "Z"), (26, u "high"), (0, u "I"), (8, u "archivedCache"), (0, u "[Ljava/lang/Integer;"), (12, u "cache"), (0, u "low")] 27

def k19m0 : Method := { name := "<init>", desc := "()V", sig := { parameters := [], returnType := none }, accessFlags := 2, code := none }
/-- java/lang/Integer$IntegerCache -/
def k19 : Class := { plain "java/lang/Integer$IntegerCache" (some 0) with
  accessFlags := 48
  interfaces := #[]
  cf := some (fileOf pool19 16 #[.nestHost 7] #[{ accessFlags := 2, nameIndex := 5, descriptorIndex := 6, attributes := #[] }] 48 2 #[] #[{ accessFlags := 24, nameIndex := 72, descriptorIndex := 48, attributes := #[] }, { accessFlags := 24, nameIndex := 47, descriptorIndex := 48, attributes := #[] }, { accessFlags := 24, nameIndex := 71, descriptorIndex := 58, attributes := #[] }, { accessFlags := 8, nameIndex := 57, descriptorIndex := 58, attributes := #[] }, { accessFlags := 4120, nameIndex := 19, descriptorIndex := 20, attributes := #[] }])
  fields := #[{ name := "low", type := .int, accessFlags := 24, slot := 0, constantValue := 0 }, { name := "high", type := .int, accessFlags := 24, slot := 1, constantValue := 0 }, { name := "cache", type := (.array (.object "java/lang/Integer")), accessFlags := 24, slot := 2, constantValue := 0 }, { name := "archivedCache", type := (.array (.object "java/lang/Integer")), accessFlags := 8, slot := 3, constantValue := 0 }, { name := "$assertionsDisabled", type := .boolean, accessFlags := 4120, slot := 4, constantValue := 0 }]
  methods := #[k19m0]
  instanceTypes := #[]
  staticTypes := #[.int, .int, (.array (.object "java/lang/Integer")), (.array (.object "java/lang/Integer")), .boolean]
  resolved := Array.replicate 100 none
  statics := some 1 }

def pool20 : Array CpInfo := pool [(1, .class_ 2), (0, u "java/lang/Math"), (1, .class_ 6), (1, u "java/lang/Object"), (0, u "<init>"), (0, u "()V"), (89, .class_ 100), (1, u "java/lang/Math$RandomNumberGeneratorHolder"), (71, u "negativeZeroFloatBits"), (0, u "J"), (2, u "negativeZeroDoubleBits"), (21, u "max"), (46, u "$assertionsDisabled"), (0, u "Z"), (88, u "(II)I"), (2, u "twoToTheDoubleScaleDown"), (0, u "D"), (4, u "twoToTheDoubleScaleUp"), (9, u "E"), (3, u "PI"), (2, u "TAU"), (2, u "DEGREES_TO_RADIANS"), (0, u "RADIANS_TO_DEGREES")] 94

def k20m0 : Method := { name := "<init>", desc := "()V", sig := { parameters := [], returnType := none }, accessFlags := 2, code := none }
def k20c1 : Code := { maxStack := 2, maxLocals := 2, code := jdk_29_method_65_code, exceptionTable := #[], attributes := #[] }
def k20m1 : Method := { name := "max", desc := "(II)I", sig := { parameters := [.int, .int], returnType := some .int }, accessFlags := 9, code := some k20c1 }
/-- java/lang/Math -/
def k20 : Class := { plain "java/lang/Math" (some 0) with
  accessFlags := 49
  interfaces := #[]
  cf := some (fileOf pool20 1 #[.nestMembers #[98]] #[{ accessFlags := 2, nameIndex := 7, descriptorIndex := 8, attributes := #[] }, { accessFlags := 9, nameIndex := 198, descriptorIndex := 335, attributes := #[] }] 49 4 #[] #[{ accessFlags := 25, nameIndex := 354, descriptorIndex := 339, attributes := #[] }, { accessFlags := 25, nameIndex := 358, descriptorIndex := 339, attributes := #[] }, { accessFlags := 25, nameIndex := 361, descriptorIndex := 339, attributes := #[] }, { accessFlags := 26, nameIndex := 364, descriptorIndex := 339, attributes := #[] }, { accessFlags := 26, nameIndex := 365, descriptorIndex := 339, attributes := #[] }, { accessFlags := 26, nameIndex := 172, descriptorIndex := 173, attributes := #[] }, { accessFlags := 26, nameIndex := 176, descriptorIndex := 173, attributes := #[] }, { accessFlags := 8, nameIndex := 344, descriptorIndex := 339, attributes := #[] }, { accessFlags := 8, nameIndex := 338, descriptorIndex := 339, attributes := #[] }, { accessFlags := 4120, nameIndex := 245, descriptorIndex := 246, attributes := #[] }])
  fields := #[{ name := "E", type := .double, accessFlags := 25, slot := 0, constantValue := 0 }, { name := "PI", type := .double, accessFlags := 25, slot := 1, constantValue := 0 }, { name := "TAU", type := .double, accessFlags := 25, slot := 2, constantValue := 0 }, { name := "DEGREES_TO_RADIANS", type := .double, accessFlags := 26, slot := 3, constantValue := 0 }, { name := "RADIANS_TO_DEGREES", type := .double, accessFlags := 26, slot := 4, constantValue := 0 }, { name := "negativeZeroFloatBits", type := .long, accessFlags := 26, slot := 5, constantValue := 0 }, { name := "negativeZeroDoubleBits", type := .long, accessFlags := 26, slot := 6, constantValue := 0 }, { name := "twoToTheDoubleScaleUp", type := .double, accessFlags := 8, slot := 7, constantValue := 0 }, { name := "twoToTheDoubleScaleDown", type := .double, accessFlags := 8, slot := 8, constantValue := 0 }, { name := "$assertionsDisabled", type := .boolean, accessFlags := 4120, slot := 9, constantValue := 0 }]
  methods := #[k20m0, k20m1]
  instanceTypes := #[]
  staticTypes := #[.double, .double, .double, .double, .double, .long, .long, .double, .double, .boolean]
  resolved := Array.replicate 460 none
  statics := none }

def pool21 : Array CpInfo := pool [(2, .class_ 4), (1, u "java/lang/CharSequence"), (42, .class_ 48), (0, u "java/lang/CharSequence$1CodePointIterator"), (10, .class_ 60), (0, u "java/lang/CharSequence$1CharIterator"), (5, .class_ 67), (0, u "java/lang/Object")] 63

/-- java/lang/CharSequence -/
def k21 : Class := { plain "java/lang/CharSequence" (some 0) with
  accessFlags := 1537
  interfaces := #[]
  cf := some (fileOf pool21 2 #[.nestMembers #[47, 59]] #[] 1537 66 #[] #[])
  fields := #[]
  methods := #[]
  instanceTypes := #[]
  staticTypes := #[]
  resolved := Array.replicate 131 none
  statics := none }

def pool22 : Array CpInfo := pool [(1, .methodref 2 3), (0, .class_ 4), (0, .nameAndType 5 6), (0, u "java/lang/Object"), (0, u "<init>"), (0, u "()V"), (0, .string 8), (0, u ""), (0, .fieldref 10 11), (0, .class_ 12), (0, .nameAndType 13 14), (0, u "java/lang/String"), (0, u "value"), (0, u "[B"), (0, .fieldref 10 16), (0, .nameAndType 17 18), (0, u "coder"), (0, u "B"), (2, u "hash"), (0, u "I"), (2, u "hashIsZero"), (0, u "Z"), (0, .methodref 10 28), (0, .nameAndType 5 29), (0, u "([CIILjava/lang/Void;)V"), (8, .fieldref 10 39), (0, .nameAndType 40 26), (0, u "COMPACT_STRINGS"), (1, .class_ 44), (1, u "java/lang/StringUTF16"), (0, u "compress"), (1, .methodref 42 48), (0, .nameAndType 49 50), (0, u "coderFromArrayLen"), (0, u "([BI)B"), (2, u "toBytes"), (53, .class_ 109), (1, u "java/lang/StringLatin1"), (67, .methodref 42 178), (0, .nameAndType 45 179), (0, u "([CII)[B"), (29, .methodref 10 210), (0, .nameAndType 5 211), (0, u "([BB)V"), (157, u "(C)Z"), (205, .class_ 576), (0, u "java/lang/CharSequence"), (22, u "CASE_INSENSITIVE_ORDER"), (0, u "Ljava/util/Comparator;"), (181, u "valueOf"), (0, u "(C)Ljava/lang/String;"), (226, u "([C)V"), (4, .methodref 107 1016), (0, .nameAndType 1017 369), (0, u "canEncode"), (0, .methodref 107 1019), (0, .nameAndType 53 1020), (0, u "(C)[B"), (80, u "serialPersistentFields"), (0, u "[Ljava/io/ObjectStreamField;"), (0, .class_ 1104), (0, u "java/lang/String$CaseInsensitiveComparator"), (1, .class_ 1107), (0, u "java/io/Serializable"), (0, .class_ 1109), (0, u "java/lang/Comparable"), (0, .class_ 1111), (0, u "java/lang/constant/Constable"), (0, .class_ 1113), (0, u "java/lang/constant/ConstantDesc"), (2, u "serialVersionUID"), (0, u "J"), (3, u "REPL"), (0, u "C"), (2, u "LATIN1"), (1, u "UTF16")] 323

def k22m0 : Method := { name := "<init>", desc := "()V", sig := { parameters := [], returnType := none }, accessFlags := 1, code := none }
def k22c1 : Code := { maxStack := 5, maxLocals := 2, code := jdk_42_method_3_code, exceptionTable := #[], attributes := #[] }
def k22m1 : Method := { name := "<init>", desc := "([C)V", sig := { parameters := [(.array .char)], returnType := none }, accessFlags := 1, code := some k22c1 }
def k22c2 : Code := { maxStack := 4, maxLocals := 1, code := jdk_42_method_139_code, exceptionTable := #[], attributes := #[] }
def k22m2 : Method := { name := "valueOf", desc := "(C)Ljava/lang/String;", sig := { parameters := [.char], returnType := some (.object "java/lang/String") }, accessFlags := 9, code := some k22c2 }
def k22c3 : Code := { maxStack := 4, maxLocals := 6, code := jdk_42_method_149_code, exceptionTable := #[], attributes := #[] }
def k22m3 : Method := { name := "<init>", desc := "([CIILjava/lang/Void;)V", sig := { parameters := [(.array .char), .int, .int, (.object "java/lang/Void")], returnType := none }, accessFlags := 2, code := some k22c3 }
def k22c4 : Code := { maxStack := 2, maxLocals := 3, code := jdk_42_method_151_code, exceptionTable := #[], attributes := #[] }
def k22m4 : Method := { name := "<init>", desc := "([BB)V", sig := { parameters := [(.array .byte), .byte], returnType := none }, accessFlags := 0, code := some k22c4 }
/-- java/lang/String -/
def k22 : Class := { plain "java/lang/String" (some 0) with
  accessFlags := 49
  interfaces := #[10, 15, 21, 16, 17]
  cf := some (fileOf pool22 10 #[.nestMembers #[1103]] #[{ accessFlags := 1, nameIndex := 5, descriptorIndex := 6, attributes := #[] }, { accessFlags := 1, nameIndex := 5, descriptorIndex := 1010, attributes := #[] }, { accessFlags := 9, nameIndex := 782, descriptorIndex := 783, attributes := #[] }, { accessFlags := 2, nameIndex := 5, descriptorIndex := 29, attributes := #[] }, { accessFlags := 0, nameIndex := 5, descriptorIndex := 211, attributes := #[] }] 49 2 #[1106, 1108, 575, 1110, 1112] #[{ accessFlags := 18, nameIndex := 13, descriptorIndex := 14, attributes := #[] }, { accessFlags := 18, nameIndex := 17, descriptorIndex := 18, attributes := #[] }, { accessFlags := 2, nameIndex := 21, descriptorIndex := 22, attributes := #[] }, { accessFlags := 2, nameIndex := 25, descriptorIndex := 26, attributes := #[] }, { accessFlags := 26, nameIndex := 1116, descriptorIndex := 1117, attributes := #[] }, { accessFlags := 24, nameIndex := 40, descriptorIndex := 26, attributes := #[] }, { accessFlags := 26, nameIndex := 1101, descriptorIndex := 1102, attributes := #[] }, { accessFlags := 26, nameIndex := 1121, descriptorIndex := 1122, attributes := #[] }, { accessFlags := 25, nameIndex := 599, descriptorIndex := 600, attributes := #[] }, { accessFlags := 24, nameIndex := 1125, descriptorIndex := 18, attributes := #[] }, { accessFlags := 24, nameIndex := 1127, descriptorIndex := 18, attributes := #[] }])
  fields := #[{ name := "value", type := (.array .byte), accessFlags := 18, slot := 0, constantValue := 0 }, { name := "coder", type := .byte, accessFlags := 18, slot := 1, constantValue := 0 }, { name := "hash", type := .int, accessFlags := 2, slot := 2, constantValue := 0 }, { name := "hashIsZero", type := .boolean, accessFlags := 2, slot := 3, constantValue := 0 }, { name := "serialVersionUID", type := .long, accessFlags := 26, slot := 0, constantValue := 0 }, { name := "COMPACT_STRINGS", type := .boolean, accessFlags := 24, slot := 1, constantValue := 0 }, { name := "serialPersistentFields", type := (.array (.object "java/io/ObjectStreamField")), accessFlags := 26, slot := 2, constantValue := 0 }, { name := "REPL", type := .char, accessFlags := 26, slot := 3, constantValue := 0 }, { name := "CASE_INSENSITIVE_ORDER", type := (.object "java/util/Comparator"), accessFlags := 25, slot := 4, constantValue := 0 }, { name := "LATIN1", type := .byte, accessFlags := 24, slot := 5, constantValue := 0 }, { name := "UTF16", type := .byte, accessFlags := 24, slot := 6, constantValue := 0 }]
  methods := #[k22m0, k22m1, k22m2, k22m3, k22m4]
  instanceTypes := #[(.array .byte), .byte, .int, .boolean]
  staticTypes := #[.long, .boolean, (.array (.object "java/io/ObjectStreamField")), .char, (.object "java/util/Comparator"), .byte, .byte]
  resolved := Array.replicate 1451 none
  statics := some 2 }

def pool23 : Array CpInfo := pool [(6, .class_ 8), (1, u "java/lang/Object"), (0, u "<init>"), (0, u "()V"), (1, .class_ 14), (1, u "java/lang/StringUTF16"), (31, u "$assertionsDisabled"), (0, u "Z"), (13, u "HI_BYTE_SHIFT"), (0, u "I"), (2, u "LO_BYTE_SHIFT"), (49, .methodref 12 116), (0, .nameAndType 117 118), (0, u "compress"), (0, u "([CI[BII)I"), (3, u "([CII)[B"), (138, u "coderFromArrayLen"), (0, u "([BI)B"), (106, .class_ 371), (1, u "java/lang/StringUTF16$LinesSpliterator"), (58, u "MAX_LENGTH"), (196, .class_ 628), (0, u "java/lang/StringUTF16$CodePointsSpliterator"), (0, .class_ 630), (0, u "java/lang/StringUTF16$CharsSpliterator")] 4

def k23m0 : Method := { name := "<init>", desc := "()V", sig := { parameters := [], returnType := none }, accessFlags := 0, code := none }
def k23c1 : Code := { maxStack := 2, maxLocals := 2, code := jdk_52_method_15_code, exceptionTable := #[], attributes := #[] }
def k23m1 : Method := { name := "coderFromArrayLen", desc := "([BI)B", sig := { parameters := [(.array .byte), .int], returnType := some .byte }, accessFlags := 8, code := some k23c1 }
def k23c2 : Code := { maxStack := 5, maxLocals := 6, code := jdk_52_method_16_code, exceptionTable := #[], attributes := #[] }
def k23m2 : Method := { name := "compress", desc := "([CII)[B", sig := { parameters := [(.array .char), .int, .int], returnType := some (.array .byte) }, accessFlags := 9, code := some k23c2 }
def k23c3 : Code := { maxStack := 3, maxLocals := 7, code := jdk_52_method_21_code, exceptionTable := #[], attributes := #[] }
def k23m3 : Method := { name := "compress", desc := "([CI[BII)I", sig := { parameters := [(.array .char), .int, (.array .byte), .int, .int], returnType := some .int }, accessFlags := 9, code := some k23c3 }
/-- java/lang/StringUTF16 -/
def k23 : Class := { plain "java/lang/StringUTF16" (some 0) with
  accessFlags := 48
  interfaces := #[]
  cf := some (fileOf pool23 12 #[.nestMembers #[627, 629, 369]] #[{ accessFlags := 0, nameIndex := 9, descriptorIndex := 10, attributes := #[] }, { accessFlags := 8, nameIndex := 261, descriptorIndex := 262, attributes := #[] }, { accessFlags := 9, nameIndex := 117, descriptorIndex := 122, attributes := #[] }, { accessFlags := 9, nameIndex := 117, descriptorIndex := 118, attributes := #[] }] 48 6 #[] #[{ accessFlags := 26, nameIndex := 61, descriptorIndex := 62, attributes := #[] }, { accessFlags := 26, nameIndex := 65, descriptorIndex := 62, attributes := #[] }, { accessFlags := 24, nameIndex := 430, descriptorIndex := 62, attributes := #[] }, { accessFlags := 4120, nameIndex := 46, descriptorIndex := 47, attributes := #[] }])
  fields := #[{ name := "HI_BYTE_SHIFT", type := .int, accessFlags := 26, slot := 0, constantValue := 0 }, { name := "LO_BYTE_SHIFT", type := .int, accessFlags := 26, slot := 1, constantValue := 0 }, { name := "MAX_LENGTH", type := .int, accessFlags := 24, slot := 2, constantValue := 0 }, { name := "$assertionsDisabled", type := .boolean, accessFlags := 4120, slot := 3, constantValue := 0 }]
  methods := #[k23m0, k23m1, k23m2, k23m3]
  instanceTypes := #[]
  staticTypes := #[.int, .int, .int, .boolean]
  resolved := Array.replicate 635 none
  statics := none }

def pool24 : Array CpInfo := pool [(4, .class_ 6), (1, u "java/lang/Object"), (0, u "<init>"), (0, u "()V"), (5, .class_ 16), (1, u "java/lang/StringLatin1"), (73, u "canEncode"), (14, u "(C)Z"), (15, u "$assertionsDisabled"), (0, u "Z"), (98, .class_ 223), (1, u "java/lang/StringLatin1$LinesSpliterator"), (156, u "toBytes"), (1, u "(C)[B"), (7, .class_ 391), (0, u "java/lang/StringLatin1$CharsSpliterator")] 3

def k24m0 : Method := { name := "<init>", desc := "()V", sig := { parameters := [], returnType := none }, accessFlags := 0, code := none }
def k24c1 : Code := { maxStack := 2, maxLocals := 1, code := jdk_43_method_3_code, exceptionTable := #[], attributes := #[] }
def k24m1 : Method := { name := "canEncode", desc := "(C)Z", sig := { parameters := [.char], returnType := some .boolean }, accessFlags := 9, code := some k24c1 }
def k24c2 : Code := { maxStack := 4, maxLocals := 1, code := jdk_43_method_46_code, exceptionTable := #[], attributes := #[] }
def k24m2 : Method := { name := "toBytes", desc := "(C)[B", sig := { parameters := [.char], returnType := some (.array .byte) }, accessFlags := 9, code := some k24c2 }
/-- java/lang/StringLatin1 -/
def k24 : Class := { plain "java/lang/StringLatin1" (some 0) with
  accessFlags := 48
  interfaces := #[]
  cf := some (fileOf pool24 14 #[.nestMembers #[390, 221]] #[{ accessFlags := 0, nameIndex := 7, descriptorIndex := 8, attributes := #[] }, { accessFlags := 9, nameIndex := 90, descriptorIndex := 105, attributes := #[] }, { accessFlags := 9, nameIndex := 380, descriptorIndex := 382, attributes := #[] }] 48 4 #[] #[{ accessFlags := 4120, nameIndex := 121, descriptorIndex := 122, attributes := #[] }])
  fields := #[{ name := "$assertionsDisabled", type := .boolean, accessFlags := 4120, slot := 0, constantValue := 0 }]
  methods := #[k24m0, k24m1, k24m2]
  instanceTypes := #[]
  staticTypes := #[.boolean]
  resolved := Array.replicate 395 none
  statics := none }

def pool25 : Array CpInfo := pool [(2, .class_ 4), (1, u "java/lang/Object"), (0, u "<init>"), (0, u "()V"), (17, .class_ 26), (1, u "jdk/internal/util/Preconditions"), (28, .class_ 56), (0, u "jdk/internal/util/Preconditions$4"), (57, .class_ 115), (0, u "jdk/internal/util/Preconditions$1"), (7, u "SIOOBE_FORMATTER"), (0, u "Ljava/util/function/BiFunction;"), (0, .class_ 126), (0, u "jdk/internal/util/Preconditions$2"), (3, u "AIOOBE_FORMATTER"), (0, .class_ 132), (0, u "jdk/internal/util/Preconditions$3"), (3, u "IOOBE_FORMATTER")] 57

def k25m0 : Method := { name := "<init>", desc := "()V", sig := { parameters := [], returnType := none }, accessFlags := 1, code := none }
/-- jdk/internal/util/Preconditions -/
def k25 : Class := { plain "jdk/internal/util/Preconditions" (some 0) with
  accessFlags := 33
  interfaces := #[]
  cf := some (fileOf pool25 24 #[.nestMembers #[55, 131, 125, 114]] #[{ accessFlags := 1, nameIndex := 5, descriptorIndex := 6, attributes := #[] }] 33 2 #[] #[{ accessFlags := 25, nameIndex := 123, descriptorIndex := 124, attributes := #[] }, { accessFlags := 25, nameIndex := 130, descriptorIndex := 124, attributes := #[] }, { accessFlags := 25, nameIndex := 136, descriptorIndex := 124, attributes := #[] }])
  fields := #[{ name := "SIOOBE_FORMATTER", type := (.object "java/util/function/BiFunction"), accessFlags := 25, slot := 0, constantValue := 0 }, { name := "AIOOBE_FORMATTER", type := (.object "java/util/function/BiFunction"), accessFlags := 25, slot := 1, constantValue := 0 }, { name := "IOOBE_FORMATTER", type := (.object "java/util/function/BiFunction"), accessFlags := 25, slot := 2, constantValue := 0 }]
  methods := #[k25m0]
  instanceTypes := #[]
  staticTypes := #[(.object "java/util/function/BiFunction"), (.object "java/util/function/BiFunction"), (.object "java/util/function/BiFunction")]
  resolved := Array.replicate 194 none
  statics := some 3 }

def pool26 : Array CpInfo := pool [(9, u "<init>"), (6, .class_ 18), (1, u "java/lang/Object"), (0, u "()V"), (1, .class_ 23), (1, u "jdk/internal/util/ArraysSupport"), (0, u "LOG2_ARRAY_LONG_INDEX_SCALE"), (0, u "I"), (2, u "U"), (0, u "Ljdk/internal/misc/Unsafe;"), (8, u "BIG_ENDIAN"), (0, u "Z"), (8, u "LOG2_BYTE_BIT_SIZE"), (4, u "LOG2_ARRAY_INT_INDEX_SCALE"), (54, u "JLA"), (0, u "Ljdk/internal/access/JavaLangAccess;"), (11, u "LOG2_ARRAY_BOOLEAN_INDEX_SCALE"), (9, u "LOG2_ARRAY_BYTE_INDEX_SCALE"), (5, u "LOG2_ARRAY_CHAR_INDEX_SCALE"), (5, u "LOG2_ARRAY_SHORT_INDEX_SCALE"), (18, u "LOG2_ARRAY_FLOAT_INDEX_SCALE"), (24, u "LOG2_ARRAY_DOUBLE_INDEX_SCALE"), (89, u "T_BOOLEAN"), (2, u "T_CHAR"), (1, u "T_FLOAT"), (1, u "T_DOUBLE"), (1, u "T_BYTE"), (1, u "T_SHORT"), (1, u "T_INT"), (1, u "T_LONG"), (1, u "SOFT_MAX_ARRAY_LENGTH")] 83

def k26m0 : Method := { name := "<init>", desc := "()V", sig := { parameters := [], returnType := none }, accessFlags := 2, code := none }
/-- jdk/internal/util/ArraysSupport -/
def k26 : Class := { plain "jdk/internal/util/ArraysSupport" (some 0) with
  accessFlags := 33
  interfaces := #[]
  cf := some (fileOf pool26 21 #[] #[{ accessFlags := 2, nameIndex := 9, descriptorIndex := 19, attributes := #[] }] 33 16 #[] #[{ accessFlags := 24, nameIndex := 28, descriptorIndex := 29, attributes := #[] }, { accessFlags := 26, nameIndex := 38, descriptorIndex := 39, attributes := #[] }, { accessFlags := 25, nameIndex := 121, descriptorIndex := 25, attributes := #[] }, { accessFlags := 25, nameIndex := 131, descriptorIndex := 25, attributes := #[] }, { accessFlags := 25, nameIndex := 137, descriptorIndex := 25, attributes := #[] }, { accessFlags := 25, nameIndex := 143, descriptorIndex := 25, attributes := #[] }, { accessFlags := 25, nameIndex := 53, descriptorIndex := 25, attributes := #[] }, { accessFlags := 25, nameIndex := 24, descriptorIndex := 25, attributes := #[] }, { accessFlags := 25, nameIndex := 162, descriptorIndex := 25, attributes := #[] }, { accessFlags := 25, nameIndex := 187, descriptorIndex := 25, attributes := #[] }, { accessFlags := 26, nameIndex := 48, descriptorIndex := 25, attributes := #[] }, { accessFlags := 25, nameIndex := 277, descriptorIndex := 25, attributes := #[] }, { accessFlags := 25, nameIndex := 280, descriptorIndex := 25, attributes := #[] }, { accessFlags := 25, nameIndex := 282, descriptorIndex := 25, attributes := #[] }, { accessFlags := 25, nameIndex := 284, descriptorIndex := 25, attributes := #[] }, { accessFlags := 25, nameIndex := 286, descriptorIndex := 25, attributes := #[] }, { accessFlags := 25, nameIndex := 288, descriptorIndex := 25, attributes := #[] }, { accessFlags := 25, nameIndex := 290, descriptorIndex := 25, attributes := #[] }, { accessFlags := 25, nameIndex := 292, descriptorIndex := 25, attributes := #[] }, { accessFlags := 26, nameIndex := 108, descriptorIndex := 109, attributes := #[] }, { accessFlags := 25, nameIndex := 294, descriptorIndex := 25, attributes := #[] }])
  fields := #[{ name := "U", type := (.object "jdk/internal/misc/Unsafe"), accessFlags := 24, slot := 0, constantValue := 0 }, { name := "BIG_ENDIAN", type := .boolean, accessFlags := 26, slot := 1, constantValue := 0 }, { name := "LOG2_ARRAY_BOOLEAN_INDEX_SCALE", type := .int, accessFlags := 25, slot := 2, constantValue := 0 }, { name := "LOG2_ARRAY_BYTE_INDEX_SCALE", type := .int, accessFlags := 25, slot := 3, constantValue := 0 }, { name := "LOG2_ARRAY_CHAR_INDEX_SCALE", type := .int, accessFlags := 25, slot := 4, constantValue := 0 }, { name := "LOG2_ARRAY_SHORT_INDEX_SCALE", type := .int, accessFlags := 25, slot := 5, constantValue := 0 }, { name := "LOG2_ARRAY_INT_INDEX_SCALE", type := .int, accessFlags := 25, slot := 6, constantValue := 0 }, { name := "LOG2_ARRAY_LONG_INDEX_SCALE", type := .int, accessFlags := 25, slot := 7, constantValue := 0 }, { name := "LOG2_ARRAY_FLOAT_INDEX_SCALE", type := .int, accessFlags := 25, slot := 8, constantValue := 0 }, { name := "LOG2_ARRAY_DOUBLE_INDEX_SCALE", type := .int, accessFlags := 25, slot := 9, constantValue := 0 }, { name := "LOG2_BYTE_BIT_SIZE", type := .int, accessFlags := 26, slot := 10, constantValue := 0 }, { name := "T_BOOLEAN", type := .int, accessFlags := 25, slot := 11, constantValue := 0 }, { name := "T_CHAR", type := .int, accessFlags := 25, slot := 12, constantValue := 0 }, { name := "T_FLOAT", type := .int, accessFlags := 25, slot := 13, constantValue := 0 }, { name := "T_DOUBLE", type := .int, accessFlags := 25, slot := 14, constantValue := 0 }, { name := "T_BYTE", type := .int, accessFlags := 25, slot := 15, constantValue := 0 }, { name := "T_SHORT", type := .int, accessFlags := 25, slot := 16, constantValue := 0 }, { name := "T_INT", type := .int, accessFlags := 25, slot := 17, constantValue := 0 }, { name := "T_LONG", type := .int, accessFlags := 25, slot := 18, constantValue := 0 }, { name := "JLA", type := (.object "jdk/internal/access/JavaLangAccess"), accessFlags := 26, slot := 19, constantValue := 0 }, { name := "SOFT_MAX_ARRAY_LENGTH", type := .int, accessFlags := 25, slot := 20, constantValue := 0 }]
  methods := #[k26m0]
  instanceTypes := #[]
  staticTypes := #[(.object "jdk/internal/misc/Unsafe"), .boolean, .int, .int, .int, .int, .int, .int, .int, .int, .int, .int, .int, .int, .int, .int, .int, .int, .int, (.object "jdk/internal/access/JavaLangAccess"), .int]
  resolved := Array.replicate 378 none
  statics := none }

/-- the primitive byte -/
def k27 : Class := { plain "byte" none with kind := .primitive 'B', accessFlags := 0x411 }
/-- [B -/
def k28 : Class := { plain "[B" (some 0) with kind := .array 27 .byte, interfaces := #[9, 10], accessFlags := 1041 }

/-- the primitive char -/
def k29 : Class := { plain "char" none with kind := .primitive 'C', accessFlags := 0x411 }
/-- [C -/
def k30 : Class := { plain "[C" (some 0) with kind := .array 29 .char, interfaces := #[9, 10], accessFlags := 1041 }

/-- the primitive int -/
def k31 : Class := { plain "int" none with kind := .primitive 'I', accessFlags := 0x411 }
/-- [I -/
def k32 : Class := { plain "[I" (some 0) with kind := .array 31 .int, interfaces := #[9, 10], accessFlags := 1041 }

/-- [Ljava/lang/Integer; -/
def k33 : Class := { plain "[Ljava/lang/Integer;" (some 0) with kind := .array 18 (.object "java/lang/Integer"), interfaces := #[9, 10], accessFlags := 1041 }

/-- [Ljava/lang/Object; -/
def k34 : Class := { plain "[Ljava/lang/Object;" (some 0) with kind := .array 0 (.object "java/lang/Object"), interfaces := #[9, 10], accessFlags := 1041 }

def heap : Heap := #[{ cls := 11, slots := #[.long 0, .int 0, .ref 261, .ref 262], vm := .statics 11 },
  { cls := 19, slots := #[.int 0, .int 127, .ref 4, .null, .int 0], vm := .statics 19 },
  { cls := 22, slots := #[.long 0, .int 1, .null, .int 0, .null, .int 0, .int 0], vm := .statics 22 },
  { cls := 25, slots := #[.null, .null, .null], vm := .statics 25 },
  { cls := 33, slots := #[.ref 5, .ref 6, .ref 7, .ref 8, .ref 9, .ref 10, .ref 11, .ref 12, .ref 13, .ref 14, .ref 15, .ref 16, .ref 17, .ref 18, .ref 19, .ref 20, .ref 21, .ref 22, .ref 23, .ref 24, .ref 25, .ref 26, .ref 27, .ref 28, .ref 29, .ref 30, .ref 31, .ref 32, .ref 33, .ref 34, .ref 35, .ref 36, .ref 37, .ref 38, .ref 39, .ref 40, .ref 41, .ref 42, .ref 43, .ref 44, .ref 45, .ref 46, .ref 47, .ref 48, .ref 49, .ref 50, .ref 51, .ref 52, .ref 53, .ref 54, .ref 55, .ref 56, .ref 57, .ref 58, .ref 59, .ref 60, .ref 61, .ref 62, .ref 63, .ref 64, .ref 65, .ref 66, .ref 67, .ref 68, .ref 69, .ref 70, .ref 71, .ref 72, .ref 73, .ref 74, .ref 75, .ref 76, .ref 77, .ref 78, .ref 79, .ref 80, .ref 81, .ref 82, .ref 83, .ref 84, .ref 85, .ref 86, .ref 87, .ref 88, .ref 89, .ref 90, .ref 91, .ref 92, .ref 93, .ref 94, .ref 95, .ref 96, .ref 97, .ref 98, .ref 99, .ref 100, .ref 101, .ref 102, .ref 103, .ref 104, .ref 105, .ref 106, .ref 107, .ref 108, .ref 109, .ref 110, .ref 111, .ref 112, .ref 113, .ref 114, .ref 115, .ref 116, .ref 117, .ref 118, .ref 119, .ref 120, .ref 121, .ref 122, .ref 123, .ref 124, .ref 125, .ref 126, .ref 127, .ref 128, .ref 129, .ref 130, .ref 131, .ref 132, .ref 133, .ref 134, .ref 135, .ref 136, .ref 137, .ref 138, .ref 139, .ref 140, .ref 141, .ref 142, .ref 143, .ref 144, .ref 145, .ref 146, .ref 147, .ref 148, .ref 149, .ref 150, .ref 151, .ref 152, .ref 153, .ref 154, .ref 155, .ref 156, .ref 157, .ref 158, .ref 159, .ref 160, .ref 161, .ref 162, .ref 163, .ref 164, .ref 165, .ref 166, .ref 167, .ref 168, .ref 169, .ref 170, .ref 171, .ref 172, .ref 173, .ref 174, .ref 175, .ref 176, .ref 177, .ref 178, .ref 179, .ref 180, .ref 181, .ref 182, .ref 183, .ref 184, .ref 185, .ref 186, .ref 187, .ref 188, .ref 189, .ref 190, .ref 191, .ref 192, .ref 193, .ref 194, .ref 195, .ref 196, .ref 197, .ref 198, .ref 199, .ref 200, .ref 201, .ref 202, .ref 203, .ref 204, .ref 205, .ref 206, .ref 207, .ref 208, .ref 209, .ref 210, .ref 211, .ref 212, .ref 213, .ref 214, .ref 215, .ref 216, .ref 217, .ref 218, .ref 219, .ref 220, .ref 221, .ref 222, .ref 223, .ref 224, .ref 225, .ref 226, .ref 227, .ref 228, .ref 229, .ref 230, .ref 231, .ref 232, .ref 233, .ref 234, .ref 235, .ref 236, .ref 237, .ref 238, .ref 239, .ref 240, .ref 241, .ref 242, .ref 243, .ref 244, .ref 245, .ref 246, .ref 247, .ref 248, .ref 249, .ref 250, .ref 251, .ref 252, .ref 253, .ref 254, .ref 255, .ref 256, .ref 257, .ref 258, .ref 259, .ref 260], vm := .none },
  { cls := 18, slots := #[.int (-128)], vm := .none },
  { cls := 18, slots := #[.int (-127)], vm := .none },
  { cls := 18, slots := #[.int (-126)], vm := .none },
  { cls := 18, slots := #[.int (-125)], vm := .none },
  { cls := 18, slots := #[.int (-124)], vm := .none },
  { cls := 18, slots := #[.int (-123)], vm := .none },
  { cls := 18, slots := #[.int (-122)], vm := .none },
  { cls := 18, slots := #[.int (-121)], vm := .none },
  { cls := 18, slots := #[.int (-120)], vm := .none },
  { cls := 18, slots := #[.int (-119)], vm := .none },
  { cls := 18, slots := #[.int (-118)], vm := .none },
  { cls := 18, slots := #[.int (-117)], vm := .none },
  { cls := 18, slots := #[.int (-116)], vm := .none },
  { cls := 18, slots := #[.int (-115)], vm := .none },
  { cls := 18, slots := #[.int (-114)], vm := .none },
  { cls := 18, slots := #[.int (-113)], vm := .none },
  { cls := 18, slots := #[.int (-112)], vm := .none },
  { cls := 18, slots := #[.int (-111)], vm := .none },
  { cls := 18, slots := #[.int (-110)], vm := .none },
  { cls := 18, slots := #[.int (-109)], vm := .none },
  { cls := 18, slots := #[.int (-108)], vm := .none },
  { cls := 18, slots := #[.int (-107)], vm := .none },
  { cls := 18, slots := #[.int (-106)], vm := .none },
  { cls := 18, slots := #[.int (-105)], vm := .none },
  { cls := 18, slots := #[.int (-104)], vm := .none },
  { cls := 18, slots := #[.int (-103)], vm := .none },
  { cls := 18, slots := #[.int (-102)], vm := .none },
  { cls := 18, slots := #[.int (-101)], vm := .none },
  { cls := 18, slots := #[.int (-100)], vm := .none },
  { cls := 18, slots := #[.int (-99)], vm := .none },
  { cls := 18, slots := #[.int (-98)], vm := .none },
  { cls := 18, slots := #[.int (-97)], vm := .none },
  { cls := 18, slots := #[.int (-96)], vm := .none },
  { cls := 18, slots := #[.int (-95)], vm := .none },
  { cls := 18, slots := #[.int (-94)], vm := .none },
  { cls := 18, slots := #[.int (-93)], vm := .none },
  { cls := 18, slots := #[.int (-92)], vm := .none },
  { cls := 18, slots := #[.int (-91)], vm := .none },
  { cls := 18, slots := #[.int (-90)], vm := .none },
  { cls := 18, slots := #[.int (-89)], vm := .none },
  { cls := 18, slots := #[.int (-88)], vm := .none },
  { cls := 18, slots := #[.int (-87)], vm := .none },
  { cls := 18, slots := #[.int (-86)], vm := .none },
  { cls := 18, slots := #[.int (-85)], vm := .none },
  { cls := 18, slots := #[.int (-84)], vm := .none },
  { cls := 18, slots := #[.int (-83)], vm := .none },
  { cls := 18, slots := #[.int (-82)], vm := .none },
  { cls := 18, slots := #[.int (-81)], vm := .none },
  { cls := 18, slots := #[.int (-80)], vm := .none },
  { cls := 18, slots := #[.int (-79)], vm := .none },
  { cls := 18, slots := #[.int (-78)], vm := .none },
  { cls := 18, slots := #[.int (-77)], vm := .none },
  { cls := 18, slots := #[.int (-76)], vm := .none },
  { cls := 18, slots := #[.int (-75)], vm := .none },
  { cls := 18, slots := #[.int (-74)], vm := .none },
  { cls := 18, slots := #[.int (-73)], vm := .none },
  { cls := 18, slots := #[.int (-72)], vm := .none },
  { cls := 18, slots := #[.int (-71)], vm := .none },
  { cls := 18, slots := #[.int (-70)], vm := .none },
  { cls := 18, slots := #[.int (-69)], vm := .none },
  { cls := 18, slots := #[.int (-68)], vm := .none },
  { cls := 18, slots := #[.int (-67)], vm := .none },
  { cls := 18, slots := #[.int (-66)], vm := .none },
  { cls := 18, slots := #[.int (-65)], vm := .none },
  { cls := 18, slots := #[.int (-64)], vm := .none },
  { cls := 18, slots := #[.int (-63)], vm := .none },
  { cls := 18, slots := #[.int (-62)], vm := .none },
  { cls := 18, slots := #[.int (-61)], vm := .none },
  { cls := 18, slots := #[.int (-60)], vm := .none },
  { cls := 18, slots := #[.int (-59)], vm := .none },
  { cls := 18, slots := #[.int (-58)], vm := .none },
  { cls := 18, slots := #[.int (-57)], vm := .none },
  { cls := 18, slots := #[.int (-56)], vm := .none },
  { cls := 18, slots := #[.int (-55)], vm := .none },
  { cls := 18, slots := #[.int (-54)], vm := .none },
  { cls := 18, slots := #[.int (-53)], vm := .none },
  { cls := 18, slots := #[.int (-52)], vm := .none },
  { cls := 18, slots := #[.int (-51)], vm := .none },
  { cls := 18, slots := #[.int (-50)], vm := .none },
  { cls := 18, slots := #[.int (-49)], vm := .none },
  { cls := 18, slots := #[.int (-48)], vm := .none },
  { cls := 18, slots := #[.int (-47)], vm := .none },
  { cls := 18, slots := #[.int (-46)], vm := .none },
  { cls := 18, slots := #[.int (-45)], vm := .none },
  { cls := 18, slots := #[.int (-44)], vm := .none },
  { cls := 18, slots := #[.int (-43)], vm := .none },
  { cls := 18, slots := #[.int (-42)], vm := .none },
  { cls := 18, slots := #[.int (-41)], vm := .none },
  { cls := 18, slots := #[.int (-40)], vm := .none },
  { cls := 18, slots := #[.int (-39)], vm := .none },
  { cls := 18, slots := #[.int (-38)], vm := .none },
  { cls := 18, slots := #[.int (-37)], vm := .none },
  { cls := 18, slots := #[.int (-36)], vm := .none },
  { cls := 18, slots := #[.int (-35)], vm := .none },
  { cls := 18, slots := #[.int (-34)], vm := .none },
  { cls := 18, slots := #[.int (-33)], vm := .none },
  { cls := 18, slots := #[.int (-32)], vm := .none },
  { cls := 18, slots := #[.int (-31)], vm := .none },
  { cls := 18, slots := #[.int (-30)], vm := .none },
  { cls := 18, slots := #[.int (-29)], vm := .none },
  { cls := 18, slots := #[.int (-28)], vm := .none },
  { cls := 18, slots := #[.int (-27)], vm := .none },
  { cls := 18, slots := #[.int (-26)], vm := .none },
  { cls := 18, slots := #[.int (-25)], vm := .none },
  { cls := 18, slots := #[.int (-24)], vm := .none },
  { cls := 18, slots := #[.int (-23)], vm := .none },
  { cls := 18, slots := #[.int (-22)], vm := .none },
  { cls := 18, slots := #[.int (-21)], vm := .none },
  { cls := 18, slots := #[.int (-20)], vm := .none },
  { cls := 18, slots := #[.int (-19)], vm := .none },
  { cls := 18, slots := #[.int (-18)], vm := .none },
  { cls := 18, slots := #[.int (-17)], vm := .none },
  { cls := 18, slots := #[.int (-16)], vm := .none },
  { cls := 18, slots := #[.int (-15)], vm := .none },
  { cls := 18, slots := #[.int (-14)], vm := .none },
  { cls := 18, slots := #[.int (-13)], vm := .none },
  { cls := 18, slots := #[.int (-12)], vm := .none },
  { cls := 18, slots := #[.int (-11)], vm := .none },
  { cls := 18, slots := #[.int (-10)], vm := .none },
  { cls := 18, slots := #[.int (-9)], vm := .none },
  { cls := 18, slots := #[.int (-8)], vm := .none },
  { cls := 18, slots := #[.int (-7)], vm := .none },
  { cls := 18, slots := #[.int (-6)], vm := .none },
  { cls := 18, slots := #[.int (-5)], vm := .none },
  { cls := 18, slots := #[.int (-4)], vm := .none },
  { cls := 18, slots := #[.int (-3)], vm := .none },
  { cls := 18, slots := #[.int (-2)], vm := .none },
  { cls := 18, slots := #[.int (-1)], vm := .none },
  { cls := 18, slots := #[.int 0], vm := .none },
  { cls := 18, slots := #[.int 1], vm := .none },
  { cls := 18, slots := #[.int 2], vm := .none },
  { cls := 18, slots := #[.int 3], vm := .none },
  { cls := 18, slots := #[.int 4], vm := .none },
  { cls := 18, slots := #[.int 5], vm := .none },
  { cls := 18, slots := #[.int 6], vm := .none },
  { cls := 18, slots := #[.int 7], vm := .none },
  { cls := 18, slots := #[.int 8], vm := .none },
  { cls := 18, slots := #[.int 9], vm := .none },
  { cls := 18, slots := #[.int 10], vm := .none },
  { cls := 18, slots := #[.int 11], vm := .none },
  { cls := 18, slots := #[.int 12], vm := .none },
  { cls := 18, slots := #[.int 13], vm := .none },
  { cls := 18, slots := #[.int 14], vm := .none },
  { cls := 18, slots := #[.int 15], vm := .none },
  { cls := 18, slots := #[.int 16], vm := .none },
  { cls := 18, slots := #[.int 17], vm := .none },
  { cls := 18, slots := #[.int 18], vm := .none },
  { cls := 18, slots := #[.int 19], vm := .none },
  { cls := 18, slots := #[.int 20], vm := .none },
  { cls := 18, slots := #[.int 21], vm := .none },
  { cls := 18, slots := #[.int 22], vm := .none },
  { cls := 18, slots := #[.int 23], vm := .none },
  { cls := 18, slots := #[.int 24], vm := .none },
  { cls := 18, slots := #[.int 25], vm := .none },
  { cls := 18, slots := #[.int 26], vm := .none },
  { cls := 18, slots := #[.int 27], vm := .none },
  { cls := 18, slots := #[.int 28], vm := .none },
  { cls := 18, slots := #[.int 29], vm := .none },
  { cls := 18, slots := #[.int 30], vm := .none },
  { cls := 18, slots := #[.int 31], vm := .none },
  { cls := 18, slots := #[.int 32], vm := .none },
  { cls := 18, slots := #[.int 33], vm := .none },
  { cls := 18, slots := #[.int 34], vm := .none },
  { cls := 18, slots := #[.int 35], vm := .none },
  { cls := 18, slots := #[.int 36], vm := .none },
  { cls := 18, slots := #[.int 37], vm := .none },
  { cls := 18, slots := #[.int 38], vm := .none },
  { cls := 18, slots := #[.int 39], vm := .none },
  { cls := 18, slots := #[.int 40], vm := .none },
  { cls := 18, slots := #[.int 41], vm := .none },
  { cls := 18, slots := #[.int 42], vm := .none },
  { cls := 18, slots := #[.int 43], vm := .none },
  { cls := 18, slots := #[.int 44], vm := .none },
  { cls := 18, slots := #[.int 45], vm := .none },
  { cls := 18, slots := #[.int 46], vm := .none },
  { cls := 18, slots := #[.int 47], vm := .none },
  { cls := 18, slots := #[.int 48], vm := .none },
  { cls := 18, slots := #[.int 49], vm := .none },
  { cls := 18, slots := #[.int 50], vm := .none },
  { cls := 18, slots := #[.int 51], vm := .none },
  { cls := 18, slots := #[.int 52], vm := .none },
  { cls := 18, slots := #[.int 53], vm := .none },
  { cls := 18, slots := #[.int 54], vm := .none },
  { cls := 18, slots := #[.int 55], vm := .none },
  { cls := 18, slots := #[.int 56], vm := .none },
  { cls := 18, slots := #[.int 57], vm := .none },
  { cls := 18, slots := #[.int 58], vm := .none },
  { cls := 18, slots := #[.int 59], vm := .none },
  { cls := 18, slots := #[.int 60], vm := .none },
  { cls := 18, slots := #[.int 61], vm := .none },
  { cls := 18, slots := #[.int 62], vm := .none },
  { cls := 18, slots := #[.int 63], vm := .none },
  { cls := 18, slots := #[.int 64], vm := .none },
  { cls := 18, slots := #[.int 65], vm := .none },
  { cls := 18, slots := #[.int 66], vm := .none },
  { cls := 18, slots := #[.int 67], vm := .none },
  { cls := 18, slots := #[.int 68], vm := .none },
  { cls := 18, slots := #[.int 69], vm := .none },
  { cls := 18, slots := #[.int 70], vm := .none },
  { cls := 18, slots := #[.int 71], vm := .none },
  { cls := 18, slots := #[.int 72], vm := .none },
  { cls := 18, slots := #[.int 73], vm := .none },
  { cls := 18, slots := #[.int 74], vm := .none },
  { cls := 18, slots := #[.int 75], vm := .none },
  { cls := 18, slots := #[.int 76], vm := .none },
  { cls := 18, slots := #[.int 77], vm := .none },
  { cls := 18, slots := #[.int 78], vm := .none },
  { cls := 18, slots := #[.int 79], vm := .none },
  { cls := 18, slots := #[.int 80], vm := .none },
  { cls := 18, slots := #[.int 81], vm := .none },
  { cls := 18, slots := #[.int 82], vm := .none },
  { cls := 18, slots := #[.int 83], vm := .none },
  { cls := 18, slots := #[.int 84], vm := .none },
  { cls := 18, slots := #[.int 85], vm := .none },
  { cls := 18, slots := #[.int 86], vm := .none },
  { cls := 18, slots := #[.int 87], vm := .none },
  { cls := 18, slots := #[.int 88], vm := .none },
  { cls := 18, slots := #[.int 89], vm := .none },
  { cls := 18, slots := #[.int 90], vm := .none },
  { cls := 18, slots := #[.int 91], vm := .none },
  { cls := 18, slots := #[.int 92], vm := .none },
  { cls := 18, slots := #[.int 93], vm := .none },
  { cls := 18, slots := #[.int 94], vm := .none },
  { cls := 18, slots := #[.int 95], vm := .none },
  { cls := 18, slots := #[.int 96], vm := .none },
  { cls := 18, slots := #[.int 97], vm := .none },
  { cls := 18, slots := #[.int 98], vm := .none },
  { cls := 18, slots := #[.int 99], vm := .none },
  { cls := 18, slots := #[.int 100], vm := .none },
  { cls := 18, slots := #[.int 101], vm := .none },
  { cls := 18, slots := #[.int 102], vm := .none },
  { cls := 18, slots := #[.int 103], vm := .none },
  { cls := 18, slots := #[.int 104], vm := .none },
  { cls := 18, slots := #[.int 105], vm := .none },
  { cls := 18, slots := #[.int 106], vm := .none },
  { cls := 18, slots := #[.int 107], vm := .none },
  { cls := 18, slots := #[.int 108], vm := .none },
  { cls := 18, slots := #[.int 109], vm := .none },
  { cls := 18, slots := #[.int 110], vm := .none },
  { cls := 18, slots := #[.int 111], vm := .none },
  { cls := 18, slots := #[.int 112], vm := .none },
  { cls := 18, slots := #[.int 113], vm := .none },
  { cls := 18, slots := #[.int 114], vm := .none },
  { cls := 18, slots := #[.int 115], vm := .none },
  { cls := 18, slots := #[.int 116], vm := .none },
  { cls := 18, slots := #[.int 117], vm := .none },
  { cls := 18, slots := #[.int 118], vm := .none },
  { cls := 18, slots := #[.int 119], vm := .none },
  { cls := 18, slots := #[.int 120], vm := .none },
  { cls := 18, slots := #[.int 121], vm := .none },
  { cls := 18, slots := #[.int 122], vm := .none },
  { cls := 18, slots := #[.int 123], vm := .none },
  { cls := 18, slots := #[.int 124], vm := .none },
  { cls := 18, slots := #[.int 125], vm := .none },
  { cls := 18, slots := #[.int 126], vm := .none },
  { cls := 18, slots := #[.int 127], vm := .none },
  { cls := 34, slots := #[], vm := .none },
  { cls := 34, slots := #[], vm := .none }]
def classes : Array Class := #[k0, k1, k2, k3, k4, k5, k6, k7, k8, k9, k10, k11, k12, k13, k14, k15, k16, k17, k18, k19, k20, k21, k22, k23, k24, k25, k26, k27, k28, k29, k30, k31, k32, k33, k34]
def interned : List (Array UInt16 × Addr) := []
def slotsUsed : Nat := 531
def theMethod : MethodId := ⟨1, 2⟩
def args0 : Array Value := #[.int 5, .int 6, .int 7, .int 8, .int 9, .int 10]
def aboutOver (below : List Frame) : State where
  vm := { classes := classes, interned := interned.toArray }
  heap := heap
  slotsUsed := slotsUsed
  threads := #[{ frames := .invoking theMethod args0 :: below }]
def below0 : List Frame := [.native { method := ⟨0, 0⟩, args := #[] }]
def about1 : State := aboutOver below0
def p0 : Program := .bare "" "" ""
def e0 : Env := launch0.env 0 0 0
theorem w_frames : about1.frames = Frame.invoking theMethod args0 :: below0 := rfl
set_option maxRecDepth 65536 in
theorem w_args : argsFit about1.vm theMethod args0 = true := by decide +kernel
set_option maxRecDepth 65536 in
theorem w_heap : heapFits about1 = true := by decide +kernel
set_option maxRecDepth 65536 in
theorem w_runnable : about1.curStatus? = some .runnable := by decide +kernel
set_option maxRecDepth 65536 in
theorem w_alone : about1.alone = true := by decide +kernel
set_option maxRecDepth 65536 in
theorem w_named : about1.methodNamed? x = some theMethod := by decide +kernel
set_option maxRecDepth 65536 in
theorem w_hears : about1.hears theMethod below0 = true := by decide +kernel
set_option maxRecDepth 65536 in
theorem w_ripe : about1.ripe theMethod args0 below0 = true := by decide +kernel
theorem w_running : about1.status = .running := rfl
set_option maxRecDepth 65536 in
theorem w_room : about1.hasRoom e0.platform room_1 = true :=
  launch0.hasRoom_least _ room_1 (by decide +kernel) (by decide +kernel) (by decide +kernel) (by decide +kernel) (by decide +kernel) (by decide +kernel)
theorem allAtoms_all (ts : List Jvm.Cond) (a : Array Jvm.Value) (st : Jvm.State) : (allAtoms ts).before a st = ts.all (fun c => c.before a st) := by
  induction ts with
  | nil => rfl
  | cons c t ih =>
    show (Jvm.Cond.and c (allAtoms t)).before a st = _
    rw [Jvm.Cond.before_and, ih, List.all_cons]
def words1 : List Jvm.Cond := Jvm.Cond.code x code maxLocals ret :: tables_1
/-- a 'code' word, met by the world's own term for the bytes: nothing is compared byte by byte -/
theorem code_word {y : MethodName} {bytes : ByteArray} {mx : Nat} {rt : Option FieldType} {a : Array Value} {s : State} {m : MethodId} {meth : Method} {c : Code} (h1 : s.methodNamed? y = some m) (h2 : s.vm.method? m = some meth) (h3 : meth.code = some c) (h4 : c.code = bytes)
    (h5 : (c.maxLocals == mx && c.exceptionTable.isEmpty && decide (c.maxStack ≤ mostOperands) && decide (meth.sig.returnType = rt) && !meth.locks && decide (parseMethodDescriptor y.desc = some meth.sig)) = true) : (Jvm.Cond.code y bytes mx rt).before a s = true := by
  simp only [Bool.and_eq_true, beq_iff_eq, Bool.not_eq_true', decide_eq_true_eq] at h5
  obtain ⟨⟨⟨⟨⟨g1, g2⟩, g3⟩, g4⟩, g5⟩, g6⟩ := h5
  simp [Cond.before, Cond.holds, Cond.value, h1, h2, h3, h4, g1, g2, g3, g4, g5, g6]
def isCode : Jvm.Cond → Bool
  | .code _ _ _ _ => true
  | _ => false
theorem all_split {L : List Jvm.Cond} {P : Jvm.Cond → Bool} (h1 : L.all (fun c => isCode c || P c) = true) (h2 : ∀ c ∈ L.filter isCode, P c = true) : L.all P = true := by
  refine List.all_eq_true.mpr fun c hc => ?_
  have h := List.all_eq_true.mp h1 c hc
  rcases Bool.eq_false_or_eq_true (isCode c) with hi | hi
  · exact h2 c (List.mem_filter.mpr ⟨hc, hi⟩)
  · simpa [hi] using h
set_option maxRecDepth 65536 in
theorem w_c0 : (Jvm.Cond.code x code maxLocals ret).before args0 about1 = true := code_word (m := ⟨1, 2⟩) (meth := k1m2) (c := k1c2) (by decide +kernel) rfl rfl rfl (by decide +kernel)
set_option maxRecDepth 65536 in
theorem w_c1 : (Jvm.Cond.code ({ cls := "java/util/ArrayList", name := "<init>", desc := "()V" } : Jvm.MethodName) jdk_38_method_2_code (1 : Nat) (Option.none : Option Jvm.ClassFile.FieldType)).before args0 about1 = true := code_word (m := ⟨11, 0⟩) (meth := k11m0) (c := k11c0) (by decide +kernel) rfl rfl rfl (by decide +kernel)
set_option maxRecDepth 65536 in
theorem w_c2 : (Jvm.Cond.code ({ cls := "java/util/AbstractList", name := "<init>", desc := "()V" } : Jvm.MethodName) jdk_39_method_1_code (1 : Nat) (Option.none : Option Jvm.ClassFile.FieldType)).before args0 about1 = true := code_word (m := ⟨7, 0⟩) (meth := k7m0) (c := k7c0) (by decide +kernel) rfl rfl rfl (by decide +kernel)
set_option maxRecDepth 65536 in
theorem w_c3 : (Jvm.Cond.code ({ cls := "java/util/AbstractCollection", name := "<init>", desc := "()V" } : Jvm.MethodName) jdk_22_method_1_code (1 : Nat) (Option.none : Option Jvm.ClassFile.FieldType)).before args0 about1 = true := code_word (m := ⟨4, 0⟩) (meth := k4m0) (c := k4c0) (by decide +kernel) rfl rfl rfl (by decide +kernel)
set_option maxRecDepth 65536 in
theorem w_c4 : (Jvm.Cond.code ({ cls := "java/lang/Object", name := "<init>", desc := "()V" } : Jvm.MethodName) object_method_1_code (1 : Nat) (Option.none : Option Jvm.ClassFile.FieldType)).before args0 about1 = true := code_word (m := ⟨0, 0⟩) (meth := k0m0) (c := k0c0) (by decide +kernel) rfl rfl rfl (by decide +kernel)
set_option maxRecDepth 65536 in
theorem w_c5 : (Jvm.Cond.code ({ cls := "com/example/tenant/tenant/core/Page", name := "<init>", desc := "(Ljava/util/List;Ljava/lang/String;)V" } : Jvm.MethodName) prog_15_method_1_code (3 : Nat) (Option.none : Option Jvm.ClassFile.FieldType)).before args0 about1 = true := code_word (m := ⟨13, 0⟩) (meth := k13m0) (c := k13c0) (by decide +kernel) rfl rfl rfl (by decide +kernel)
set_option maxRecDepth 65536 in
theorem w_c6 : (Jvm.Cond.code ({ cls := "java/lang/Record", name := "<init>", desc := "()V" } : Jvm.MethodName) jdk_30_method_1_code (1 : Nat) (Option.none : Option Jvm.ClassFile.FieldType)).before args0 about1 = true := code_word (m := ⟨12, 0⟩) (meth := k12m0) (c := k12c0) (by decide +kernel) rfl rfl rfl (by decide +kernel)
set_option maxRecDepth 65536 in
theorem w_c7 : (Jvm.Cond.code ({ cls := "com/example/tenant/tenant/core/Page", name := "isTruncated", desc := "()Z" } : Jvm.MethodName) prog_15_method_2_code (1 : Nat) (Option.some Jvm.ClassFile.FieldType.boolean)).before args0 about1 = true := code_word (m := ⟨13, 1⟩) (meth := k13m1) (c := k13c1) (by decide +kernel) rfl rfl rfl (by decide +kernel)
set_option maxRecDepth 65536 in
theorem w_c8 : (Jvm.Cond.code ({ cls := "com/example/tenant/tenant/core/Page", name := "marker", desc := "()Ljava/lang/String;" } : Jvm.MethodName) prog_15_method_8_code (1 : Nat) (Option.some (Jvm.ClassFile.FieldType.object "java/lang/String"))).before args0 about1 = true := code_word (m := ⟨13, 2⟩) (meth := k13m2) (c := k13c2) (by decide +kernel) rfl rfl rfl (by decide +kernel)
set_option maxRecDepth 65536 in
theorem w_c9 : (Jvm.Cond.code ({ cls := "java/lang/Integer", name := "valueOf", desc := "(I)Ljava/lang/Integer;" } : Jvm.MethodName) jdk_33_method_22_code (1 : Nat) (Option.some (Jvm.ClassFile.FieldType.object "java/lang/Integer"))).before args0 about1 = true := code_word (m := ⟨18, 0⟩) (meth := k18m0) (c := k18c0) (by decide +kernel) rfl rfl rfl (by decide +kernel)
set_option maxRecDepth 65536 in
theorem w_c10 : (Jvm.Cond.code ({ cls := "java/util/ArrayList", name := "add", desc := "(Ljava/lang/Object;)Z" } : Jvm.MethodName) jdk_38_method_25_code (2 : Nat) (Option.some Jvm.ClassFile.FieldType.boolean)).before args0 about1 = true := code_word (m := ⟨11, 4⟩) (meth := k11m4) (c := k11c4) (by decide +kernel) rfl rfl rfl (by decide +kernel)
set_option maxRecDepth 65536 in
theorem w_c11 : (Jvm.Cond.code ({ cls := "java/util/ArrayList", name := "add", desc := "(Ljava/lang/Object;[Ljava/lang/Object;I)V" } : Jvm.MethodName) jdk_38_method_24_code (4 : Nat) (Option.none : Option Jvm.ClassFile.FieldType)).before args0 about1 = true := code_word (m := ⟨11, 3⟩) (meth := k11m3) (c := k11c3) (by decide +kernel) rfl rfl rfl (by decide +kernel)
set_option maxRecDepth 65536 in
theorem w_c12 : (Jvm.Cond.code ({ cls := "java/util/ArrayList", name := "grow", desc := "()[Ljava/lang/Object;" } : Jvm.MethodName) jdk_38_method_7_code (1 : Nat) (Option.some (Jvm.ClassFile.FieldType.array (Jvm.ClassFile.FieldType.object "java/lang/Object")))).before args0 about1 = true := code_word (m := ⟨11, 2⟩) (meth := k11m2) (c := k11c2) (by decide +kernel) rfl rfl rfl (by decide +kernel)
set_option maxRecDepth 65536 in
theorem w_c13 : (Jvm.Cond.code ({ cls := "java/util/ArrayList", name := "grow", desc := "(I)[Ljava/lang/Object;" } : Jvm.MethodName) jdk_38_method_6_code (4 : Nat) (Option.some (Jvm.ClassFile.FieldType.array (Jvm.ClassFile.FieldType.object "java/lang/Object")))).before args0 about1 = true := code_word (m := ⟨11, 1⟩) (meth := k11m1) (c := k11c1) (by decide +kernel) rfl rfl rfl (by decide +kernel)
set_option maxRecDepth 65536 in
theorem w_c14 : (Jvm.Cond.code ({ cls := "java/lang/Math", name := "max", desc := "(II)I" } : Jvm.MethodName) jdk_29_method_65_code (2 : Nat) (Option.some Jvm.ClassFile.FieldType.int)).before args0 about1 = true := code_word (m := ⟨20, 1⟩) (meth := k20m1) (c := k20c1) (by decide +kernel) rfl rfl rfl (by decide +kernel)
set_option maxRecDepth 65536 in
theorem w_c15 : (Jvm.Cond.code ({ cls := "java/lang/Integer", name := "<init>", desc := "(I)V" } : Jvm.MethodName) jdk_33_method_23_code (2 : Nat) (Option.none : Option Jvm.ClassFile.FieldType)).before args0 about1 = true := code_word (m := ⟨18, 1⟩) (meth := k18m1) (c := k18c1) (by decide +kernel) rfl rfl rfl (by decide +kernel)
set_option maxRecDepth 65536 in
theorem w_c16 : (Jvm.Cond.code ({ cls := "java/lang/Number", name := "<init>", desc := "()V" } : Jvm.MethodName) jdk_18_method_1_code (1 : Nat) (Option.none : Option Jvm.ClassFile.FieldType)).before args0 about1 = true := code_word (m := ⟨14, 0⟩) (meth := k14m0) (c := k14c0) (by decide +kernel) rfl rfl rfl (by decide +kernel)
set_option maxRecDepth 65536 in
theorem w_c17 : (Jvm.Cond.code ({ cls := "com/example/tenant/tenant/core/PageIsTruncatedPinLaw", name := "mk", desc := "(IIII)Ljava/lang/String;" } : Jvm.MethodName) method_2_code (8 : Nat) (Option.some (Jvm.ClassFile.FieldType.object "java/lang/String"))).before args0 about1 = true := code_word (m := ⟨1, 1⟩) (meth := k1m1) (c := k1c1) (by decide +kernel) rfl rfl rfl (by decide +kernel)
set_option maxRecDepth 65536 in
theorem w_c18 : (Jvm.Cond.code ({ cls := "java/lang/String", name := "<init>", desc := "([C)V" } : Jvm.MethodName) jdk_42_method_3_code (2 : Nat) (Option.none : Option Jvm.ClassFile.FieldType)).before args0 about1 = true := code_word (m := ⟨22, 1⟩) (meth := k22m1) (c := k22c1) (by decide +kernel) rfl rfl rfl (by decide +kernel)
set_option maxRecDepth 65536 in
theorem w_c19 : (Jvm.Cond.code ({ cls := "java/lang/String", name := "<init>", desc := "([CIILjava/lang/Void;)V" } : Jvm.MethodName) jdk_42_method_149_code (6 : Nat) (Option.none : Option Jvm.ClassFile.FieldType)).before args0 about1 = true := code_word (m := ⟨22, 3⟩) (meth := k22m3) (c := k22c3) (by decide +kernel) rfl rfl rfl (by decide +kernel)
set_option maxRecDepth 65536 in
theorem w_c20 : (Jvm.Cond.code ({ cls := "java/lang/StringUTF16", name := "compress", desc := "([CII)[B" } : Jvm.MethodName) jdk_52_method_16_code (6 : Nat) (Option.some (Jvm.ClassFile.FieldType.array Jvm.ClassFile.FieldType.byte))).before args0 about1 = true := code_word (m := ⟨23, 2⟩) (meth := k23m2) (c := k23c2) (by decide +kernel) rfl rfl rfl (by decide +kernel)
set_option maxRecDepth 65536 in
theorem w_c21 : (Jvm.Cond.code ({ cls := "java/lang/StringUTF16", name := "compress", desc := "([CI[BII)I" } : Jvm.MethodName) jdk_52_method_21_code (7 : Nat) (Option.some Jvm.ClassFile.FieldType.int)).before args0 about1 = true := code_word (m := ⟨23, 3⟩) (meth := k23m3) (c := k23c3) (by decide +kernel) rfl rfl rfl (by decide +kernel)
set_option maxRecDepth 65536 in
theorem w_c22 : (Jvm.Cond.code ({ cls := "java/lang/StringUTF16", name := "coderFromArrayLen", desc := "([BI)B" } : Jvm.MethodName) jdk_52_method_15_code (2 : Nat) (Option.some Jvm.ClassFile.FieldType.byte)).before args0 about1 = true := code_word (m := ⟨23, 1⟩) (meth := k23m1) (c := k23c1) (by decide +kernel) rfl rfl rfl (by decide +kernel)
set_option maxRecDepth 65536 in
theorem w_c23 : (Jvm.Cond.code ({ cls := "java/lang/String", name := "valueOf", desc := "(C)Ljava/lang/String;" } : Jvm.MethodName) jdk_42_method_139_code (1 : Nat) (Option.some (Jvm.ClassFile.FieldType.object "java/lang/String"))).before args0 about1 = true := code_word (m := ⟨22, 2⟩) (meth := k22m2) (c := k22c2) (by decide +kernel) rfl rfl rfl (by decide +kernel)
set_option maxRecDepth 65536 in
theorem w_c24 : (Jvm.Cond.code ({ cls := "java/lang/StringLatin1", name := "canEncode", desc := "(C)Z" } : Jvm.MethodName) jdk_43_method_3_code (1 : Nat) (Option.some Jvm.ClassFile.FieldType.boolean)).before args0 about1 = true := code_word (m := ⟨24, 1⟩) (meth := k24m1) (c := k24c1) (by decide +kernel) rfl rfl rfl (by decide +kernel)
set_option maxRecDepth 65536 in
theorem w_c25 : (Jvm.Cond.code ({ cls := "java/lang/StringLatin1", name := "toBytes", desc := "(C)[B" } : Jvm.MethodName) jdk_43_method_46_code (1 : Nat) (Option.some (Jvm.ClassFile.FieldType.array Jvm.ClassFile.FieldType.byte))).before args0 about1 = true := code_word (m := ⟨24, 2⟩) (meth := k24m2) (c := k24c2) (by decide +kernel) rfl rfl rfl (by decide +kernel)
set_option maxRecDepth 65536 in
theorem w_c26 : (Jvm.Cond.code ({ cls := "java/lang/String", name := "<init>", desc := "([BB)V" } : Jvm.MethodName) jdk_42_method_151_code (3 : Nat) (Option.none : Option Jvm.ClassFile.FieldType)).before args0 about1 = true := code_word (m := ⟨22, 4⟩) (meth := k22m4) (c := k22c4) (by decide +kernel) rfl rfl rfl (by decide +kernel)
def codes1 : List Jvm.Cond := [Jvm.Cond.code x code maxLocals ret, Jvm.Cond.code ({ cls := "java/util/ArrayList", name := "<init>", desc := "()V" } : Jvm.MethodName) jdk_38_method_2_code (1 : Nat) (Option.none : Option Jvm.ClassFile.FieldType), Jvm.Cond.code ({ cls := "java/util/AbstractList", name := "<init>", desc := "()V" } : Jvm.MethodName) jdk_39_method_1_code (1 : Nat) (Option.none : Option Jvm.ClassFile.FieldType), Jvm.Cond.code ({ cls := "java/util/AbstractCollection", name := "<init>", desc := "()V" } : Jvm.MethodName) jdk_22_method_1_code (1 : Nat) (Option.none : Option Jvm.ClassFile.FieldType), Jvm.Cond.code ({ cls := "java/lang/Object", name := "<init>", desc := "()V" } : Jvm.MethodName) object_method_1_code (1 : Nat) (Option.none : Option Jvm.ClassFile.FieldType), Jvm.Cond.code ({ cls := "com/example/tenant/tenant/core/Page", name := "<init>", desc := "(Ljava/util/List;Ljava/lang/String;)V" } : Jvm.MethodName) prog_15_method_1_code (3 : Nat) (Option.none : Option Jvm.ClassFile.FieldType), Jvm.Cond.code ({ cls := "java/lang/Record", name := "<init>", desc := "()V" } : Jvm.MethodName) jdk_30_method_1_code (1 : Nat) (Option.none : Option Jvm.ClassFile.FieldType), Jvm.Cond.code ({ cls := "com/example/tenant/tenant/core/Page", name := "isTruncated", desc := "()Z" } : Jvm.MethodName) prog_15_method_2_code (1 : Nat) (Option.some Jvm.ClassFile.FieldType.boolean), Jvm.Cond.code ({ cls := "com/example/tenant/tenant/core/Page", name := "marker", desc := "()Ljava/lang/String;" } : Jvm.MethodName) prog_15_method_8_code (1 : Nat) (Option.some (Jvm.ClassFile.FieldType.object "java/lang/String")), Jvm.Cond.code ({ cls := "java/lang/Integer", name := "valueOf", desc := "(I)Ljava/lang/Integer;" } : Jvm.MethodName) jdk_33_method_22_code (1 : Nat) (Option.some (Jvm.ClassFile.FieldType.object "java/lang/Integer")), Jvm.Cond.code ({ cls := "java/util/ArrayList", name := "add", desc := "(Ljava/lang/Object;)Z" } : Jvm.MethodName) jdk_38_method_25_code (2 : Nat) (Option.some Jvm.ClassFile.FieldType.boolean), Jvm.Cond.code ({ cls := "java/util/ArrayList", name := "add", desc := "(Ljava/lang/Object;[Ljava/lang/Object;I)V" } : Jvm.MethodName) jdk_38_method_24_code (4 : Nat) (Option.none : Option Jvm.ClassFile.FieldType), Jvm.Cond.code ({ cls := "java/util/ArrayList", name := "grow", desc := "()[Ljava/lang/Object;" } : Jvm.MethodName) jdk_38_method_7_code (1 : Nat) (Option.some (Jvm.ClassFile.FieldType.array (Jvm.ClassFile.FieldType.object "java/lang/Object"))), Jvm.Cond.code ({ cls := "java/util/ArrayList", name := "grow", desc := "(I)[Ljava/lang/Object;" } : Jvm.MethodName) jdk_38_method_6_code (4 : Nat) (Option.some (Jvm.ClassFile.FieldType.array (Jvm.ClassFile.FieldType.object "java/lang/Object"))), Jvm.Cond.code ({ cls := "java/lang/Math", name := "max", desc := "(II)I" } : Jvm.MethodName) jdk_29_method_65_code (2 : Nat) (Option.some Jvm.ClassFile.FieldType.int), Jvm.Cond.code ({ cls := "java/lang/Integer", name := "<init>", desc := "(I)V" } : Jvm.MethodName) jdk_33_method_23_code (2 : Nat) (Option.none : Option Jvm.ClassFile.FieldType), Jvm.Cond.code ({ cls := "java/lang/Number", name := "<init>", desc := "()V" } : Jvm.MethodName) jdk_18_method_1_code (1 : Nat) (Option.none : Option Jvm.ClassFile.FieldType), Jvm.Cond.code ({ cls := "com/example/tenant/tenant/core/PageIsTruncatedPinLaw", name := "mk", desc := "(IIII)Ljava/lang/String;" } : Jvm.MethodName) method_2_code (8 : Nat) (Option.some (Jvm.ClassFile.FieldType.object "java/lang/String")), Jvm.Cond.code ({ cls := "java/lang/String", name := "<init>", desc := "([C)V" } : Jvm.MethodName) jdk_42_method_3_code (2 : Nat) (Option.none : Option Jvm.ClassFile.FieldType), Jvm.Cond.code ({ cls := "java/lang/String", name := "<init>", desc := "([CIILjava/lang/Void;)V" } : Jvm.MethodName) jdk_42_method_149_code (6 : Nat) (Option.none : Option Jvm.ClassFile.FieldType), Jvm.Cond.code ({ cls := "java/lang/StringUTF16", name := "compress", desc := "([CII)[B" } : Jvm.MethodName) jdk_52_method_16_code (6 : Nat) (Option.some (Jvm.ClassFile.FieldType.array Jvm.ClassFile.FieldType.byte)), Jvm.Cond.code ({ cls := "java/lang/StringUTF16", name := "compress", desc := "([CI[BII)I" } : Jvm.MethodName) jdk_52_method_21_code (7 : Nat) (Option.some Jvm.ClassFile.FieldType.int), Jvm.Cond.code ({ cls := "java/lang/StringUTF16", name := "coderFromArrayLen", desc := "([BI)B" } : Jvm.MethodName) jdk_52_method_15_code (2 : Nat) (Option.some Jvm.ClassFile.FieldType.byte), Jvm.Cond.code ({ cls := "java/lang/String", name := "valueOf", desc := "(C)Ljava/lang/String;" } : Jvm.MethodName) jdk_42_method_139_code (1 : Nat) (Option.some (Jvm.ClassFile.FieldType.object "java/lang/String")), Jvm.Cond.code ({ cls := "java/lang/StringLatin1", name := "canEncode", desc := "(C)Z" } : Jvm.MethodName) jdk_43_method_3_code (1 : Nat) (Option.some Jvm.ClassFile.FieldType.boolean), Jvm.Cond.code ({ cls := "java/lang/StringLatin1", name := "toBytes", desc := "(C)[B" } : Jvm.MethodName) jdk_43_method_46_code (1 : Nat) (Option.some (Jvm.ClassFile.FieldType.array Jvm.ClassFile.FieldType.byte)), Jvm.Cond.code ({ cls := "java/lang/String", name := "<init>", desc := "([BB)V" } : Jvm.MethodName) jdk_42_method_151_code (3 : Nat) (Option.none : Option Jvm.ClassFile.FieldType)]
set_option maxRecDepth 65536 in
theorem codes_eq : words1.filter isCode = codes1 := rfl
theorem w_codes : ∀ c ∈ words1.filter isCode, c.before args0 about1 = true := by
  rw [codes_eq]
  intro c hc
  simp only [codes1, List.mem_cons, List.not_mem_nil, or_false] at hc
  rcases hc with rfl | rfl | rfl | rfl | rfl | rfl | rfl | rfl | rfl | rfl | rfl | rfl | rfl | rfl | rfl | rfl | rfl | rfl | rfl | rfl | rfl | rfl | rfl | rfl | rfl | rfl | rfl
  · exact w_c0
  · exact w_c1
  · exact w_c2
  · exact w_c3
  · exact w_c4
  · exact w_c5
  · exact w_c6
  · exact w_c7
  · exact w_c8
  · exact w_c9
  · exact w_c10
  · exact w_c11
  · exact w_c12
  · exact w_c13
  · exact w_c14
  · exact w_c15
  · exact w_c16
  · exact w_c17
  · exact w_c18
  · exact w_c19
  · exact w_c20
  · exact w_c21
  · exact w_c22
  · exact w_c23
  · exact w_c24
  · exact w_c25
  · exact w_c26
set_option maxRecDepth 65536 in
theorem w_t1 : (words1.take 24).all (fun c => isCode c || c.before args0 about1) = true := by decide +kernel
set_option maxRecDepth 65536 in
theorem w_t2 : ((words1.drop 24).take 24).all (fun c => isCode c || c.before args0 about1) = true := by decide +kernel
set_option maxRecDepth 65536 in
theorem w_t3 : (((words1.drop 24).drop 24).take 24).all (fun c => isCode c || c.before args0 about1) = true := by decide +kernel
set_option maxRecDepth 65536 in
theorem w_t4 : ((((words1.drop 24).drop 24).drop 24).take 24).all (fun c => isCode c || c.before args0 about1) = true := by decide +kernel
set_option maxRecDepth 65536 in
theorem w_t5 : (((((words1.drop 24).drop 24).drop 24).drop 24).take 24).all (fun c => isCode c || c.before args0 about1) = true := by decide +kernel
set_option maxRecDepth 65536 in
theorem w_t6 : ((((((words1.drop 24).drop 24).drop 24).drop 24).drop 24).take 24).all (fun c => isCode c || c.before args0 about1) = true := by decide +kernel
set_option maxRecDepth 65536 in
theorem w_t7 : ((((((words1.drop 24).drop 24).drop 24).drop 24).drop 24).drop 24).all (fun c => isCode c || c.before args0 about1) = true := by decide +kernel
theorem w_tables : (allAtoms (Jvm.Cond.code x code maxLocals ret :: tables_1)).before args0 about1 = true := by
  rw [allAtoms_all]
  show words1.all (fun c => c.before args0 about1) = true
  refine all_split ?_ w_codes
  rw [← List.take_append_drop 24 words1, List.all_append, w_t1, ← List.take_append_drop 24 (words1.drop 24), List.all_append, w_t2, ← List.take_append_drop 24 ((words1.drop 24).drop 24), List.all_append, w_t3, ← List.take_append_drop 24 (((words1.drop 24).drop 24).drop 24), List.all_append, w_t4, ← List.take_append_drop 24 ((((words1.drop 24).drop 24).drop 24).drop 24), List.all_append, w_t5, ← List.take_append_drop 24 (((((words1.drop 24).drop 24).drop 24).drop 24).drop 24), List.all_append, w_t6, w_t7]
  rfl
set_option maxRecDepth 65536 in
theorem w_rest : rest_1_c.before args0 about1 = true := by decide +kernel
set_option maxRecDepth 65536 in
theorem w_case : (Jvm.Cond.and given_1 narrow_1).before args0 about1 = true := by decide +kernel
set_option maxRecDepth 65536 in
theorem w_consts : constsHeld consts_1 about1 := Jvm.Lit.constsHeldB_iff.mp (by decide +kernel)
theorem w_applies : (headSpec (Jvm.Cond.code x code maxLocals ret :: tables_1) room_1).applies x e0.platform about1 = true :=
  (Spec.applies_iff w_frames).mpr ⟨w_running, w_runnable, w_alone, w_named, w_hears, w_ripe, w_room, w_tables⟩
theorem atStart : AtStart classFile x code maxLocals ret World_1 tables_1 room_1 Calls_1 rest_1 Pre_1 launch0 p0 e0 about1 theMethod args0 below0 :=
  ⟨lists_1, trivial, launch0.admits_env _ _ _, launch0.least_env, fairChoices_fair.cas, fairChoices_fair.clock, w_frames, w_args, w_heap, w_applies, ⟨w_consts, trivial⟩, w_rest, w_case⟩
end start1
theorem witness_1 : WitnessClaimed_1 := ⟨start1.p0, start1.e0, start1.about1, start1.theMethod, start1.args0, start1.below0, start1.atStart⟩
end Jvm.Pilot.@@N@@
