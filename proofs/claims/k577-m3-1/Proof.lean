import JvmDerived
import JvmDerived.Pilot.@@N@@Statement
import JvmDerived.Pilot.@@N@@Code
set_option linter.unusedVariables false
set_option linter.unusedSimpArgs false
namespace Jvm.Pilot.@@N@@
open Jvm Jvm.ClassFile Sem Op Lib Jvm.Free Jvm.Stand Jvm.LawKit Jvm.RoadKit Bundle Jvm.Pilot.@@N@@.Jvm.D
theorem own_retI {p : Program} {l : Launch} {e : Env} {R : Room} {s : State} {m : MethodId} {args : Array Value} {below : List Frame} {meth : Method} {c : Code} {T : State} {locs : List Loc} {cells slots : Nat} (X : Stand p l e R s m args below meth c T locs cells slots) (hx : p.tables.exec = Jvm.exec) {pc : Nat} {Ls : Array Slot} {z : Int32} {rest : List Value} (hret : meth.sig.returnType = some .int) (hd : decode c.code pc = .ok (.ireturn, 1)) {fs : List Frame}
    (hl : ∀ (f : JFrame) (acts : List Action), f.method = m → f.locked = none → f.entered = [] → (doReturn e (T.setTop f) acts (some (.int z))).1 = T.setFrames fs) : Steps p.tables e below (T.setTop (mkF m pc Ls (.int z :: rest))) (T.setFrames fs) :=
  retOut X hx hret rfl (Or.inl ⟨rfl, Or.inl rfl, z, rfl⟩) hd hl
theorem own_retJ {p : Program} {l : Launch} {e : Env} {R : Room} {s : State} {m : MethodId} {args : Array Value} {below : List Frame} {meth : Method} {c : Code} {T : State} {locs : List Loc} {cells slots : Nat} (X : Stand p l e R s m args below meth c T locs cells slots) (hx : p.tables.exec = Jvm.exec) {pc : Nat} {Ls : Array Slot} {z : Int64} {rest : List Value} (hret : meth.sig.returnType = some .long) (hd : decode c.code pc = .ok (.lreturn, 1)) {fs : List Frame}
    (hl : ∀ (f : JFrame) (acts : List Action), f.method = m → f.locked = none → f.entered = [] → (doReturn e (T.setTop f) acts (some (.long z))).1 = T.setFrames fs) : Steps p.tables e below (T.setTop (mkF m pc Ls (.long z :: rest))) (T.setFrames fs) :=
  retOut X hx hret rfl (Or.inr (Or.inl ⟨rfl, rfl, z, rfl⟩)) hd hl
theorem own_retA {p : Program} {l : Launch} {e : Env} {R : Room} {s : State} {m : MethodId} {args : Array Value} {below : List Frame} {meth : Method} {c : Code} {T : State} {locs : List Loc} {cells slots : Nat} (X : Stand p l e R s m args below meth c T locs cells slots) (hx : p.tables.exec = Jvm.exec) {pc : Nat} {Ls : Array Slot} {w : Value} {rest : List Value} {t : FieldType} (hret : meth.sig.returnType = some t) (ht : t.isReference = true) (hn : narrow t w = w) (hw : w.isRef = true) (hd : decode c.code pc = .ok (.areturn, 1)) {fs : List Frame}
    (hl : ∀ (f : JFrame) (acts : List Action), f.method = m → f.locked = none → f.entered = [] → (doReturn e (T.setTop f) acts (some w)).1 = T.setFrames fs) : Steps p.tables e below (T.setTop (mkF m pc Ls (w :: rest))) (T.setFrames fs) :=
  retOut X hx hret hn (Or.inr (Or.inr (Or.inr (Or.inr ⟨rfl, ht, hw⟩)))) hd hl
theorem own_go {tb : Tables} {e : Env} {below : List Frame} {A B : State} {R : State → Outcome → Prop} (st : ∀ t, Steps tb e below A t → Steps tb e below B t) (h : ∃ U o, Steps tb e below A U ∧ R U o) : ∃ U o, Steps tb e below B U ∧ R U o := by
  obtain ⟨U, o, h1, h2⟩ := h
  exact ⟨U, o, st U h1, h2⟩
theorem own_via {tb : Tables} {e : Env} {below : List Frame} {A B : State} {R : State → Outcome → Prop} (st : Steps tb e below B A) (h : ∃ U o, Steps tb e below A U ∧ R U o) : ∃ U o, Steps tb e below B U ∧ R U o := by
  obtain ⟨U, o, h1, h2⟩ := h
  exact ⟨U, o, st.trans h1, h2⟩
theorem own_eqInt {t : Term} {k : Int32} {args : Array Value} {s : State} (h : (Jvm.Cond.eq t (.int k)).value args s none s [] = some true) : t.eval args s none [] s = some (.int k) := by
  cases ha : t.eval args s none [] s with
  | none => simp [Cond.value, ha] at h
  | some x => cases x <;> simp_all [Cond.value, Term.eval, Value.isRef]
theorem own_selP {s : State} {args : Array Value} {y : MethodName} {n : Nat} (hinst : (Jvm.Cond.instanceMethod y).before args s = true) (hp : (Jvm.Cond.privateMethod y).before args s = true) (hi : (Jvm.Cond.instantiable y.cls n).before args s = true) (hy : y.cls ≠ "java/lang/invoke/MethodHandle" ∧ y.cls ≠ "java/lang/invoke/VarHandle") : (Jvm.Cond.selects y.cls y y).before args s = true := by
  obtain ⟨c, k, h1, h2, -, h4, -, -⟩ := Cond.instantiable_spec hi
  simp only [Bool.or_eq_false_iff] at h4
  exact selects_self_of_private h1 h2 h4.1 (Cond.privateMethod_at hp) hinst hy
theorem own_mvMN {Z s : State} {a0 args : Array Value} {own host : String} {y : MethodName} {index : Nat} (hZ : Z.Warmed39 s.vm) (w : (Jvm.Cond.methodLinkNest own index y host).before a0 Z = true) : (Jvm.Cond.methodLinkNest own index y host).before args s = true := (Cond.methodLinkNest_wide hZ w :)
theorem own_stoV {Z : State} {h : Heap} {a y : Addr} {k : ClassId} {ty : FieldType} {n : Int32} {vs : List Value} {d : Value} {C : String} (F : Arv Z h a k ty n vs d) (O : Ovr Z k C) (I : Ins Z h y C true) : Sto Z h a (.ref y) := by
  obtain ⟨c, A, q, -⟩ := F
  exact Sto.ofV A q O I
theorem own_cat1 {v : Value} (h : v.isRef = true) : v.category = 1 := by cases v <;> simp_all [Value.isRef, Value.category]
theorem own_nref {t : FieldType} {v : Value} (h : v.isRef = true) : narrow t v = v := by cases v <;> simp_all [Value.isRef, narrow]
theorem own_narb (x : Int32) : nar .byte x.toInt8.toInt32 = x.toInt8.toInt32 := by simp [nar]
theorem own_w {Z : State} {a0 : Array Value} (hw : ∀ d ∈ tables_1, d.before a0 Z = true) (i : Nat) {d : Jvm.Cond} (h : tables_1[i]? = some d) : d.before a0 Z = true := hw _ (List.mem_of_getElem? h)
theorem own_bT {P : Prop} [Decidable P] (h : P) : (if P then (1 : Int32) else 0) = 1 := if_pos h
theorem own_bF {P : Prop} [Decidable P] (h : ¬ P) : (if P then (1 : Int32) else 0) = 0 := if_neg h
theorem own_narB {P : Prop} [Decidable P] : nar .boolean (if P then (1 : Int32) else 0) = (if P then (1 : Int32) else 0) := by split <;> rfl
theorem own_strA {Z : State} {a0 : Array Value} (hw : ∀ d ∈ tables_1, d.before a0 Z = true) : ∀ a ∈ Bundle.stringAtoms, a.before a0 Z = true := by
  intro a ha
  simp only [Bundle.stringAtoms, List.mem_cons, List.not_mem_nil, or_false] at ha
  rcases ha with rfl | rfl | rfl | rfl | rfl | rfl | rfl
  · exact (own_w hw 6 rfl)
  · exact (own_w hw 5 rfl)
  · exact (own_w hw 19 rfl)
  · exact (own_w hw 20 rfl)
  · exact (own_w hw 21 rfl)
  · exact (own_w hw 22 rfl)
  · exact (own_w hw 23 rfl)
def own_EL : List (String × Nat) := [("java/lang/String", 7)]
theorem own_EW {Z : State} {a0 : Array Value} (hw : ∀ d ∈ tables_1, d.before a0 Z = true) : EW Z a0 own_EL := (EW.cons (own_w hw 18 rfl) (by decide +kernel) EW.nil)
theorem own_safeA {Z : State} {EL : List (String × Nat)} {vm : Vm} {h : Heap} {a : Addr} {k : ClassId} {ty : FieldType} {n : Int32} {vs : List Value} {d : Value} (hal : Z.vm.Alike vm) (F : Arv Z h a k ty n vs d) (ht : ty ≠ .byte) : Safe Z EL vm h a := by
  obtain ⟨c, A, -⟩ := F
  exact Safe.arr hal A ht
theorem own_shr0 (n : Int32) : (n >>> ((0 : Int32) &&& 31)) = n := by
  apply Int32.toInt_inj.mp; rw [c_ishr n 0 0 (by decide)]; simp
theorem own_ch (x : Int32) : nar .char (x &&& 255).toUInt32.toUInt16.toUInt32.toInt32 = x &&& 255 := by
  show ((x &&& 255).toUInt32.toUInt16.toUInt32.toInt32).toUInt32.toUInt16.toUInt32.toInt32 = _
  rw [i2c_mask, i2c_mask]
theorem own_ch1 (x : Int32) : nar .char (x &&& 255) = x &&& 255 := i2c_mask x
theorem d13_0 : decode jdk_43_method_3_code 0 = .ok (.iload_n 0, 1) := by decide +kernel
theorem d13_1 : decode jdk_43_method_3_code 1 = .ok (.sipush 255, 3) := by decide +kernel
theorem d13_4 : decode jdk_43_method_3_code 4 = .ok (.if_icmp .gt 7, 3) := by decide +kernel
theorem d13_7 : decode jdk_43_method_3_code 7 = .ok (.iconst 1, 1) := by decide +kernel
theorem d13_8 : decode jdk_43_method_3_code 8 = .ok (.goto 4, 3) := by decide +kernel
theorem d13_12 : decode jdk_43_method_3_code 12 = .ok (.ireturn, 1) := by decide +kernel
abbrev own_y0 : MethodName := ⟨"java/lang/StringLatin1", "canEncode", "(C)Z"⟩
theorem ef_rmCan (m : MethodId) (ch : Int32) : entryFrame m #[(.int ch)] 1 = mkF m 0 #[.val (.int ch)] [] := by first | (simp [entryFrame, mkF, argsToLocals, Value.category]; done) | rfl
def Q_rmCan (Z : State) (ch : Int32) (h0 : Heap) (n0 : Nat) (v_ : Option Value) (h_ : Heap) (L_ : List Loc) : Prop := v_ = some (.int (1 : Int32)) ∧ Fr n0 L_ ∧ h_ = h0
theorem pn_0 : plainName "java/lang/StringLatin1" = true := by first | (simp [plainName, overriddenIn]; done) | decide +kernel
set_option maxRecDepth 65536 in
set_option maxHeartbeats 40000000 in
theorem rmCan (l : Launch) (Z : State) (a0 : Array Value) (hw : ∀ d ∈ tables_1, d.before a0 Z = true) (ws : List Jvm.Cond) (ch : Int32) (h0 : Heap) (n0 : Nat) (Z0 : n0 ≤ h0.size) (hch : ¬ ((255 : Int32) < ch)) :
    MetFree l own_y0 (head1 (Jvm.Cond.code own_y0 jdk_43_method_3_code 1 (some .boolean) :: ws) ({ frames := 0, cells := 0, slots := 0, locals := 0 } : Room)) (fun a_ U_ => a_ = #[(.int ch)] ∧ Z.Warmed39 U_.vm ∧ U_.heap = h0) (fun _ _ _ _ _ => True) (fun _ U_ o_ U2_ => ∃ v_ L_, o_ = .returned v_ ∧ Q_rmCan Z ch h0 n0 v_ U2_.heap L_ ∧ FrameEnd U_ o_ U2_ L_ ({ frames := 0, cells := 0, slots := 0, locals := 0 } : Room).cells ({ frames := 0, cells := 0, slots := 0, locals := 0 } : Room).slots) := by
  refine MetFree.of_bodySF (plainFor_of_name pn_0) hisR ?_
  intro p e s m args below meth c s₁ Bd hml0 hP hK
  obtain ⟨rfl, hZ, hh⟩ := hP
  have hx := Bd.exec
  have hby := Bd.bytes
  have hml : c.maxLocals = 1 := hml0
  have hown : s.vm.findClass "java/lang/StringLatin1" = some m.cls := findClass_of_methodNamed Bd.named
  have hnm := (name_of_methodNamed Bd.named Bd.method).1
  have X0 : Stand p l e ({ frames := 0, cells := 0, slots := 0, locals := 0 } : Room) s m #[(.int ch)] below meth c s₁ [] 0 0 := Stand.of_body Bd
  have e0 : s₁.heap = h0 := by rw [← hh, Bd.state]; rfl
  have N0 := Fr.nil n0
  refine own_go (A := s₁.setTop (mkF m 0 #[.val (.int ch)] [])) (fun t_ k_ => castTop (ef_rmCan m ch) k_) ?_
  refine own_go (A := s₁.setTop (mkF m 12 #[.val (.int ch)] [(.int (1 : Int32))])) (fun t_ k_ => ?_) ?_
  · show Steps p.tables e below (s₁.setTop (mkF m 0 #[.val (.int ch)] [])) t_
    refine XS.iloadN X0.here hx rfl (hb hby d13_0) rfl ?_
    show Steps p.tables e below (s₁.setTop (mkF m 1 #[.val (.int ch)] [(.int ch)])) t_
    refine XS.sipush X0.here hx rfl (hb hby d13_1) ?_
    show Steps p.tables e below (s₁.setTop (mkF m 4 #[.val (.int ch)] [(.int (255 : Int32)), (.int ch)])) t_
    refine XS.icmpNo X0.here hx rfl (hb hby d13_4) rfl (flt hch).2.2.1 ?_
    show Steps p.tables e below (s₁.setTop (mkF m 7 #[.val (.int ch)] [])) t_
    refine XS.iconst X0.here hx rfl (hb hby d13_7) ?_
    show Steps p.tables e below (s₁.setTop (mkF m 8 #[.val (.int ch)] [(.int (1 : Int32))])) t_
    refine XS.goto X0.here hx rfl (pc0 := 8) (pc' := 12) rfl (hb hby d13_8) (by decide) (by decide) ?_
    exact k_
  obtain ⟨fs1, hr1, hrun1, hended1, hW1, hsame1⟩ := X0.leave (v := some (.int (1 : Int32))) (fun h => by rw [Bd.returns] at h; cases h)
  refine ⟨_, _, ?_, hrun1, hended1, _, _, rfl, ?_, ⟨_, rfl⟩, hW1, hsame1.mono (by decide) (by decide)⟩
  · exact retN X0 hx (t := .boolean) Bd.returns (by simp) (hb hby d13_12) hr1
  · show Q_rmCan Z ch h0 n0 _ s₁.heap _
    rw [e0]
    exact ⟨rfl, N0, rfl⟩
theorem d14_0 : decode jdk_43_method_46_code 0 = .ok (.iconst 1, 1) := by decide +kernel
theorem d14_1 : decode jdk_43_method_46_code 1 = .ok (.newarray .byte, 2) := by decide +kernel
theorem d14_3 : decode jdk_43_method_46_code 3 = .ok (.dup, 1) := by decide +kernel
theorem d14_4 : decode jdk_43_method_46_code 4 = .ok (.iconst 0, 1) := by decide +kernel
theorem d14_5 : decode jdk_43_method_46_code 5 = .ok (.iload_n 0, 1) := by decide +kernel
theorem d14_6 : decode jdk_43_method_46_code 6 = .ok (.i2b, 1) := by decide +kernel
theorem d14_7 : decode jdk_43_method_46_code 7 = .ok (.bastore, 1) := by decide +kernel
theorem d14_8 : decode jdk_43_method_46_code 8 = .ok (.areturn, 1) := by decide +kernel
abbrev own_y1 : MethodName := ⟨"java/lang/StringLatin1", "toBytes", "(C)[B"⟩
theorem ef_rmToB (m : MethodId) (ch : Int32) : entryFrame m #[(.int ch)] 1 = mkF m 0 #[.val (.int ch)] [] := by first | (simp [entryFrame, mkF, argsToLocals, Value.category]; done) | rfl
def Q_rmToB (Z : State) (ch : Int32) (h0 : Heap) (n0 : Nat) (v_ : Option Value) (h_ : Heap) (L_ : List Loc) : Prop := ∃ d : Addr, ∃ k : ClassId, v_ = some (.ref d) ∧ Fr n0 L_ ∧ Keep h0 h_ [] ∧ h0.size ≤ d ∧ Arv Z h_ d k .byte (1 : Int32) [(.int (ch).toInt8.toInt32)] (.int (0 : Int32))
set_option maxRecDepth 65536 in
set_option maxHeartbeats 40000000 in
theorem rmToB (l : Launch) (Z : State) (a0 : Array Value) (hw : ∀ d ∈ tables_1, d.before a0 Z = true) (ws : List Jvm.Cond) (ch : Int32) (h0 : Heap) (n0 : Nat) (Z0 : n0 ≤ h0.size)  :
    MetFree l own_y1 (head1 (Jvm.Cond.code own_y1 jdk_43_method_46_code 1 (some (.array .byte)) :: ws) ({ frames := 0, cells := 1, slots := 1, locals := 0 } : Room)) (fun a_ U_ => a_ = #[(.int ch)] ∧ Z.Warmed39 U_.vm ∧ U_.heap = h0) (fun _ _ _ _ _ => True) (fun _ U_ o_ U2_ => ∃ v_ L_, o_ = .returned v_ ∧ Q_rmToB Z ch h0 n0 v_ U2_.heap L_ ∧ FrameEnd U_ o_ U2_ L_ ({ frames := 0, cells := 1, slots := 1, locals := 0 } : Room).cells ({ frames := 0, cells := 1, slots := 1, locals := 0 } : Room).slots) := by
  refine MetFree.of_bodySF (plainFor_of_name pn_0) hisR ?_
  intro p e s m args below meth c s₁ Bd hml0 hP hK
  obtain ⟨rfl, hZ, hh⟩ := hP
  have hx := Bd.exec
  have hby := Bd.bytes
  have hml : c.maxLocals = 1 := hml0
  have hown : s.vm.findClass "java/lang/StringLatin1" = some m.cls := findClass_of_methodNamed Bd.named
  have hnm := (name_of_methodNamed Bd.named Bd.method).1
  have X0 : Stand p l e ({ frames := 0, cells := 1, slots := 1, locals := 0 } : Room) s m #[(.int ch)] below meth c s₁ [] 0 0 := Stand.of_body Bd
  have e0 : s₁.heap = h0 := by rw [← hh, Bd.state]; rfl
  have N0 := Fr.nil n0
  refine own_go (A := s₁.setTop (mkF m 0 #[.val (.int ch)] [])) (fun t_ k_ => castTop (ef_rmToB m ch) k_) ?_
  refine own_go (A := s₁.setTop (mkF m 1 #[.val (.int ch)] [(.int (1 : Int32))])) (fun t_ k_ => ?_) ?_
  · show Steps p.tables e below (s₁.setTop (mkF m 0 #[.val (.int ch)] [])) t_
    refine XS.iconst X0.here hx rfl (hb hby d14_0) ?_
    exact k_
  obtain ⟨T1, h1, k1, X1, e1, E1, A1, st1⟩ := newP X0 hx hZ (own_w hw 19 rfl) e0 (g := (mkF m 1 #[.val (.int ch)] [(.int (1 : Int32))])) rfl (hb hby d14_1) rfl (by decide) (cap := 1) (by decide) (by decide) (by decide) (by decide)
  obtain ⟨b1, g1⟩ : ∃ z, z = h0.size := ⟨_, rfl⟩
  rw [← g1] at A1 st1
  refine own_go st1 ?_
  have K1 : Keep h0 h1 [] := (Keep.refl h0 []).ext E1
  have B1 : Arv Z h1 b1 k1 .byte (1 : Int32) [(.int (0 : Int32))] (.int (0 : Int32)) := (Arv.new A1 (by decide)).pad (pad_rep [] (.int (0 : Int32)) 1)
  refine own_go (A := T1.setTop (mkF m 7 #[.val (.int ch)] [(.int (ch).toInt8.toInt32), (.int (0 : Int32)), (.ref b1), (.ref b1)])) (fun t_ k_ => ?_) ?_
  · show Steps p.tables e below (T1.setTop (mkF m 3 #[.val (.int ch)] [(.ref b1)])) t_
    refine XS.dup X1.here hx rfl (hb hby d14_3) rfl rfl ?_
    show Steps p.tables e below (T1.setTop (mkF m 4 #[.val (.int ch)] [(.ref b1), (.ref b1)])) t_
    refine XS.iconst X1.here hx rfl (hb hby d14_4) ?_
    show Steps p.tables e below (T1.setTop (mkF m 5 #[.val (.int ch)] [(.int (0 : Int32)), (.ref b1), (.ref b1)])) t_
    refine XS.iloadN X1.here hx rfl (hb hby d14_5) rfl ?_
    show Steps p.tables e below (T1.setTop (mkF m 6 #[.val (.int ch)] [(.int ch), (.int (0 : Int32)), (.ref b1), (.ref b1)])) t_
    refine XS.i2b X1.here hx rfl (hb hby d14_6) rfl ?_
    exact k_
  obtain ⟨cl2, Ar2, q2, S2, M2, H2, G2⟩ := id B1
  have hin2 : ¬ ((0 : Int32) < 0 ∨ cl2.slots.size ≤ ((0 : Int32)).toNatClampNeg) := inb_of S2 ⟨by decide, by decide⟩
  obtain ⟨T3, h3, X3, e3, W3, st3⟩ := stB X1 hx hZ e1 Ar2 (j := (0 : Int32)) hin2 (g := (mkF m 7 #[.val (.int ch)] [(.int (ch).toInt8.toInt32), (.int (0 : Int32)), (.ref b1), (.ref b1)])) rfl rfl (hb hby d14_7)
  rw [own_narb] at W3
  have B3 : Arv Z h3 b1 k1 .byte (1 : Int32) [(.int (ch).toInt8.toInt32)] (.int (0 : Int32)) := Arv.set Ar2 q2 S2 M2 H2 G2 (fits_nar_byte _) W3 0 rfl (Nat.le_of_ble_eq_true rfl)
  refine own_go st3 ?_
  have K3 : Keep h0 h3 [] := K1.wr W3 (Or.inr (Nat.le_of_eq g1.symm))
  have N3 := Fr.snoc X3 N0 (Nat.le_trans Z0 (Nat.le_of_eq g1.symm))
  obtain ⟨fs4, hr4, hrun4, hended4, hW4, hsame4⟩ := X3.leave (v := some (.ref b1)) (fun h => by rw [Bd.returns] at h; cases h)
  refine ⟨_, _, ?_, hrun4, hended4, _, _, rfl, ?_, ⟨_, rfl⟩, hW4, hsame4.mono (by decide) (by decide)⟩
  · exact own_retA X3 hx Bd.returns rfl rfl rfl (hb hby d14_8) hr4
  · show Q_rmToB Z ch h0 n0 _ T3.heap _
    rw [e3]
    exact ⟨b1, k1, rfl, N3, K3, (Nat.le_of_eq g1.symm), B3⟩
theorem d15_0 : decode jdk_42_method_151_code 0 = .ok (.aload_n 0, 1) := by decide +kernel
theorem d15_1 : decode jdk_42_method_151_code 1 = .ok (.invokespecial 1, 3) := by decide +kernel
theorem d15_4 : decode jdk_42_method_151_code 4 = .ok (.aload_n 0, 1) := by decide +kernel
theorem d15_5 : decode jdk_42_method_151_code 5 = .ok (.aload_n 1, 1) := by decide +kernel
theorem d15_6 : decode jdk_42_method_151_code 6 = .ok (.putfield 9, 3) := by decide +kernel
theorem d15_9 : decode jdk_42_method_151_code 9 = .ok (.aload_n 0, 1) := by decide +kernel
theorem d15_10 : decode jdk_42_method_151_code 10 = .ok (.iload_n 2, 1) := by decide +kernel
theorem d15_11 : decode jdk_42_method_151_code 11 = .ok (.putfield 15, 3) := by decide +kernel
theorem d15_14 : decode jdk_42_method_151_code 14 = .ok (.return_, 1) := by decide +kernel
abbrev own_y2 : MethodName := ⟨"java/lang/String", "<init>", "([BB)V"⟩
theorem ef_rmSBB (m : MethodId) (a : Addr) (d : Addr) : entryFrame m #[(.ref a), (.ref d), (.int (0 : Int32))] 3 = mkF m 0 #[.val (.ref a), .val (.ref d), .val (.int (0 : Int32))] [] := by first | (simp [entryFrame, mkF, argsToLocals, Value.category]; done) | rfl
def Q_rmSBB (Z : State) (a : Addr) (d : Addr) (h0 : Heap) (n0 : Nat) (v_ : Option Value) (h_ : Heap) (L_ : List Loc) : Prop := v_ = none ∧ Fr n0 L_ ∧ Keep h0 h_ [a] ∧ Fld Z h_ a "java/lang/String" "value" "[B" (.ref d) ∧ Fld Z h_ a "java/lang/String" "coder" "B" (.int (0 : Int32))
theorem pn_1 : plainName "java/lang/String" = true := by first | (simp [plainName, overriddenIn]; done) | decide +kernel
set_option maxRecDepth 65536 in
set_option maxHeartbeats 40000000 in
theorem rmSBB (l : Launch) (Z : State) (a0 : Array Value) (hw : ∀ d ∈ tables_1, d.before a0 Z = true) (ws : List Jvm.Cond) (a : Addr) (d : Addr) (h0 : Heap) (n0 : Nat) (Z0 : n0 ≤ h0.size) (u0 : Exa Z h0 a "java/lang/String") (u1 : Fld Z h0 a "java/lang/String" "value" "[B" .null) (u2 : Fld Z h0 a "java/lang/String" "coder" "B" (.int (0 : Int32))) (u3 : n0 ≤ a) :
    MetFree l own_y2 (head1 (Jvm.Cond.code own_y2 jdk_42_method_151_code 3 none :: ws) ({ frames := 1, cells := 0, slots := 0, locals := 12 } : Room)) (fun a_ U_ => a_ = #[(.ref a), (.ref d), (.int (0 : Int32))] ∧ Z.Warmed39 U_.vm ∧ U_.heap = h0) (fun _ _ _ _ _ => True) (fun _ U_ o_ U2_ => ∃ v_ L_, o_ = .returned v_ ∧ Q_rmSBB Z a d h0 n0 v_ U2_.heap L_ ∧ FrameEnd U_ o_ U2_ L_ ({ frames := 1, cells := 0, slots := 0, locals := 12 } : Room).cells ({ frames := 1, cells := 0, slots := 0, locals := 12 } : Room).slots) := by
  refine MetFree.of_bodySF (plainFor_of_name pn_1) hisR ?_
  intro p e s m args below meth c s₁ Bd hml0 hP hK
  obtain ⟨rfl, hZ, hh⟩ := hP
  have hx := Bd.exec
  have hby := Bd.bytes
  have hml : c.maxLocals = 3 := hml0
  have hown : s.vm.findClass "java/lang/String" = some m.cls := findClass_of_methodNamed Bd.named
  have hnm := (name_of_methodNamed Bd.named Bd.method).1
  have X0 : Stand p l e ({ frames := 1, cells := 0, slots := 0, locals := 12 } : Room) s m #[(.ref a), (.ref d), (.int (0 : Int32))] below meth c s₁ [] 0 0 := Stand.of_body Bd
  have e0 : s₁.heap = h0 := by rw [← hh, Bd.state]; rfl
  have N0 := Fr.nil n0
  refine own_go (A := s₁.setTop (mkF m 0 #[.val (.ref a), .val (.ref d), .val (.int (0 : Int32))] [])) (fun t_ k_ => castTop (ef_rmSBB m a d) k_) ?_
  refine own_go (A := s₁.setTop (mkF m 1 #[.val (.ref a), .val (.ref d), .val (.int (0 : Int32))] [(.ref a)])) (fun t_ k_ => ?_) ?_
  · show Steps p.tables e below (s₁.setTop (mkF m 0 #[.val (.ref a), .val (.ref d), .val (.int (0 : Int32))] [])) t_
    refine XS.aloadN X0.here hx rfl (hb hby d15_0) rfl rfl ?_
    exact k_
  obtain ⟨T1, X1, e1, st1⟩ := initO X0 hx hZ hown (own_w hw 15 rfl) (own_w hw 16 rfl) (own_w hw 17 rfl) e0 (g := (mkF m 1 #[.val (.ref a), .val (.ref d), .val (.int (0 : Int32))] [(.ref a)])) rfl (by rw [hml]; rfl) rfl (hb hby d15_1) (by decide) (W := 0) (by show 2 * 0 + _ ≤ _; exact Nat.le_of_eq rfl) (by decide)
  refine own_go st1 ?_
  refine own_go (A := T1.setTop (mkF m 6 #[.val (.ref a), .val (.ref d), .val (.int (0 : Int32))] [(.ref d), (.ref a)])) (fun t_ k_ => ?_) ?_
  · show Steps p.tables e below (T1.setTop (mkF m 4 #[.val (.ref a), .val (.ref d), .val (.int (0 : Int32))] [])) t_
    refine XS.aloadN X1.here hx rfl (hb hby d15_4) rfl rfl ?_
    show Steps p.tables e below (T1.setTop (mkF m 5 #[.val (.ref a), .val (.ref d), .val (.int (0 : Int32))] [(.ref a)])) t_
    refine XS.aloadN X1.here hx rfl (hb hby d15_5) rfl rfl ?_
    exact k_
  obtain ⟨T2, h2, X2, e2, W2, st2⟩ := putF X1 hx hZ hown (host := "") (Or.inl (own_w hw 24 rfl)) Via.refl e1 u1 u0 (Or.inr ⟨(own_w hw 20 rfl), rfl, hnm⟩) (own_w hw 5 rfl) (ty := (.array .byte)) (by decide) rfl rfl (g := (mkF m 6 #[.val (.ref a), .val (.ref d), .val (.int (0 : Int32))] [(.ref d), (.ref a)])) rfl rfl (hb hby d15_6)
  have Fw2 : Fld Z h2 a "java/lang/String" "value" "[B" (.ref d) := u1.same W2
  refine own_go st2 ?_
  have K2 : Keep h0 h2 [a] := (Keep.refl h0 [a]).wr W2 (Or.inl (List.mem_of_getElem? (i := 0) rfl))
  have N2 := Fr.snoc X2 N0 u3
  refine own_go (A := T2.setTop (mkF m 11 #[.val (.ref a), .val (.ref d), .val (.int (0 : Int32))] [(.int (0 : Int32)), (.ref a)])) (fun t_ k_ => ?_) ?_
  · show Steps p.tables e below (T2.setTop (mkF m 9 #[.val (.ref a), .val (.ref d), .val (.int (0 : Int32))] [])) t_
    refine XS.aloadN X2.here hx rfl (hb hby d15_9) rfl rfl ?_
    show Steps p.tables e below (T2.setTop (mkF m 10 #[.val (.ref a), .val (.ref d), .val (.int (0 : Int32))] [(.ref a)])) t_
    refine XS.iloadN X2.here hx rfl (hb hby d15_10) rfl ?_
    exact k_
  obtain ⟨T3, h3, X3, e3, W3, st3⟩ := putFN X2 hx hZ hown (own_w hw 25 rfl) Via.refl e2 (u2.other W2 (Or.inr (slot_ne (Or.inr (own_w hw 21 rfl)) (Or.inr (own_w hw 20 rfl)) (by decide) (t := .byte) (t' := (.array .byte)) (by decide) (by decide)))) (u0.wr W2) (Or.inr ⟨(own_w hw 21 rfl), rfl, hnm⟩) (own_w hw 5 rfl) (ty := .byte) (v' := (.int (0 : Int32))) (by decide) rfl rfl (g := (mkF m 11 #[.val (.ref a), .val (.ref d), .val (.int (0 : Int32))] [(.int (0 : Int32)), (.ref a)])) rfl rfl (hb hby d15_11)
  have Fw3 : Fld Z h3 a "java/lang/String" "coder" "B" (.int (0 : Int32)) := (u2.other W2 (Or.inr (slot_ne (Or.inr (own_w hw 21 rfl)) (Or.inr (own_w hw 20 rfl)) (by decide) (t := .byte) (t' := (.array .byte)) (by decide) (by decide)))).same W3
  refine own_go st3 ?_
  have K3 : Keep h0 h3 [a] := K2.wr W3 (Or.inl (List.mem_of_getElem? (i := 0) rfl))
  have N3 := Fr.snoc X3 N2 u3
  obtain ⟨fs4, hr4, hrun4, hended4, hW4, hsame4⟩ := X3.leave (v := none) (fun _ => rfl)
  refine ⟨_, _, ?_, hrun4, hended4, _, _, rfl, ?_, ⟨_, rfl⟩, hW4, hsame4.mono (by decide) (by decide)⟩
  · exact X3.returnOut hx Bd.returns (hb hby d15_14) hr4
  · show Q_rmSBB Z a d h0 n0 _ T3.heap _
    rw [e3]
    exact ⟨rfl, N3, K3, (Fw2.other W3 (Or.inr (slot_ne (Or.inr (own_w hw 20 rfl)) (Or.inr (own_w hw 21 rfl)) (by decide) (t := (.array .byte)) (t' := .byte) (by decide) (by decide)))), Fw3⟩
theorem d12_0 : decode jdk_42_method_139_code 0 = .ok (.getstatic 38, 3) := by decide +kernel
theorem d12_3 : decode jdk_42_method_139_code 3 = .ok (.ifCond .eq 23, 3) := by decide +kernel
theorem d12_6 : decode jdk_42_method_139_code 6 = .ok (.iload_n 0, 1) := by decide +kernel
theorem pd_0 : parseMethodDescriptor "(C)Z" = some ⟨[.char], some .boolean⟩ := by decide +kernel
theorem d12_7 : decode jdk_42_method_139_code 7 = .ok (.invokestatic 1015, 3) := by decide +kernel
theorem d12_10 : decode jdk_42_method_139_code 10 = .ok (.ifCond .eq 16, 3) := by decide +kernel
theorem d12_13 : decode jdk_42_method_139_code 13 = .ok (.new 10, 3) := by decide +kernel
theorem d12_16 : decode jdk_42_method_139_code 16 = .ok (.dup, 1) := by decide +kernel
theorem d12_17 : decode jdk_42_method_139_code 17 = .ok (.iload_n 0, 1) := by decide +kernel
theorem pd_1 : parseMethodDescriptor "(C)[B" = some ⟨[.char], some (.array .byte)⟩ := by decide +kernel
theorem d12_18 : decode jdk_42_method_139_code 18 = .ok (.invokestatic 1018, 3) := by decide +kernel
theorem d12_21 : decode jdk_42_method_139_code 21 = .ok (.iconst 0, 1) := by decide +kernel
theorem pd_2 : parseMethodDescriptor "([BB)V" = some ⟨[(.array .byte), .byte], none⟩ := by decide +kernel
theorem d12_22 : decode jdk_42_method_139_code 22 = .ok (.invokespecial 209, 3) := by decide +kernel
theorem d12_25 : decode jdk_42_method_139_code 25 = .ok (.areturn, 1) := by decide +kernel
abbrev own_y3 : MethodName := ⟨"java/lang/String", "valueOf", "(C)Ljava/lang/String;"⟩
theorem ef_rmValOf (m : MethodId) (ch : Int32) : entryFrame m #[(.int ch)] 1 = mkF m 0 #[.val (.int ch)] [] := by first | (simp [entryFrame, mkF, argsToLocals, Value.category]; done) | rfl
def Q_rmValOf (Z : State) (ch : Int32) (cs : Int32) (h0 : Heap) (n0 : Nat) (v_ : Option Value) (h_ : Heap) (L_ : List Loc) : Prop := ∃ b : Addr, ∃ d : Addr, ∃ k : ClassId, v_ = some (.ref b) ∧ Fr n0 L_ ∧ Keep h0 h_ [] ∧ h0.size ≤ b ∧ h0.size ≤ d ∧ Exa Z h_ b "java/lang/String" ∧ Fld Z h_ b "java/lang/String" "value" "[B" (.ref d) ∧ Fld Z h_ b "java/lang/String" "coder" "B" (.int (0 : Int32)) ∧ Arv Z h_ d k .byte (1 : Int32) [(.int (ch).toInt8.toInt32)] (.int (0 : Int32))
set_option maxRecDepth 65536 in
set_option maxHeartbeats 40000000 in
theorem rmValOf (l : Launch) (Z : State) (a0 : Array Value) (hw : ∀ d ∈ tables_1, d.before a0 Z = true) (ws : List Jvm.Cond) (ch : Int32) (cs : Int32) (h0 : Heap) (n0 : Nat) (Z0 : n0 ≤ h0.size) (O0 : Old Z n0 h0) (u1 : Sta Z Z.heap "java/lang/String" "COMPACT_STRINGS" "Z" (.int cs)) (hcs : ¬ (cs = (0 : Int32))) (hch : ¬ ((255 : Int32) < ch)) :
    MetFree l own_y3 (head1 (Jvm.Cond.code own_y3 jdk_42_method_139_code 1 (some (.object "java/lang/String")) :: ws) ({ frames := 2, cells := 2, slots := 5, locals := 27 } : Room)) (fun a_ U_ => a_ = #[(.int ch)] ∧ Z.Warmed39 U_.vm ∧ U_.heap = h0) (fun _ _ _ _ _ => True) (fun _ U_ o_ U2_ => ∃ v_ L_, o_ = .returned v_ ∧ Q_rmValOf Z ch cs h0 n0 v_ U2_.heap L_ ∧ FrameEnd U_ o_ U2_ L_ ({ frames := 2, cells := 2, slots := 5, locals := 27 } : Room).cells ({ frames := 2, cells := 2, slots := 5, locals := 27 } : Room).slots) := by
  refine MetFree.of_bodySF (plainFor_of_name pn_1) hisR ?_
  intro p e s m args below meth c s₁ Bd hml0 hP hK
  obtain ⟨rfl, hZ, hh⟩ := hP
  have hx := Bd.exec
  have hby := Bd.bytes
  have hml : c.maxLocals = 1 := hml0
  have hown : s.vm.findClass "java/lang/String" = some m.cls := findClass_of_methodNamed Bd.named
  have hnm := (name_of_methodNamed Bd.named Bd.method).1
  have X0 : Stand p l e ({ frames := 2, cells := 2, slots := 5, locals := 27 } : Room) s m #[(.int ch)] below meth c s₁ [] 0 0 := Stand.of_body Bd
  have e0 : s₁.heap = h0 := by rw [← hh, Bd.state]; rfl
  have N0 := Fr.nil n0
  refine own_go (A := s₁.setTop (mkF m 0 #[.val (.int ch)] [])) (fun t_ k_ => castTop (ef_rmValOf m ch) k_) ?_
  obtain ⟨T1, X1, e1, st1⟩ := getS2 X0 hx hZ hown (host := "") (Or.inl (own_w hw 27 rfl)) Via.refl e0 (u1.ext O0.2) (g := (mkF m 0 #[.val (.int ch)] [])) rfl (hb hby d12_0)
  refine own_go st1 ?_
  refine own_go (A := T1.setTop (mkF m 7 #[.val (.int ch)] [(.int ch)])) (fun t_ k_ => ?_) ?_
  · show Steps p.tables e below (T1.setTop (mkF m 3 #[.val (.int ch)] [(.int cs)])) t_
    refine XS.ifNo X1.here hx rfl (hb hby d12_3) rfl ((if0 _ _).trans (feq hcs).1) ?_
    show Steps p.tables e below (T1.setTop (mkF m 6 #[.val (.int ch)] [])) t_
    refine XS.iloadN X1.here hx rfl (hb hby d12_6) rfl ?_
    exact k_
  obtain ⟨_, _, ⟨T2, L2, k2, n2⟩, -, X2, ⟨Lc2, hQ2, l2, y2, z2⟩, st2⟩ := Jvm.LawKit.callS X1 hx (y := own_y0) hown (mvT hZ (own_w hw 73 rfl)) (mvT hZ (own_w hw 74 rfl)) (mvT hZ (own_w hw 75 rfl)) (mvT hZ (own_w hw 76 rfl)) (by decide) (backOf (W := 0) (rmCan l Z a0 hw [] ch h0 n0 Z0 hch) hZ (own_w hw 76 rfl) (own_w hw 75 rfl) (by decide) (by decide)) (g := (mkF m 7 #[.val (.int ch)] [(.int ch)])) rfl (by rw [hml]; rfl) (argsL := [(.int ch)]) (rest := []) (lenOf pd_0 rfl) rfl (by show 2 * 0 + _ ≤ _; exact Nat.le_of_eq rfl) (hb hby d12_7) (fun _ _ => ⟨rfl, e1, (by decide : 0 + 0 ≤ _), (by decide : 0 + 0 ≤ _)⟩)
  dsimp only [Pt.U, Pt.locs, Pt.cells, Pt.slots] at X2 l2 y2 z2 st2 hQ2
  subst l2 y2 z2
  obtain ⟨rfl, N2q, eh2⟩ := hQ2
  have N2 := Fr.app N0 N2q
  refine own_go st2 ?_
  refine own_go (A := T2.setTop (mkF m 13 #[.val (.int ch)] [])) (fun t_ k_ => ?_) ?_
  · show Steps p.tables e below (T2.setTop (mkF m 10 #[.val (.int ch)] [(.int (1 : Int32))])) t_
    refine XS.ifNo X2.here hx rfl (hb hby d12_10) rfl ((if0 _ _).trans (feq (by decide : ¬ ((1 : Int32) = (0 : Int32)))).1) ?_
    exact k_
  obtain ⟨T3, h3, X3, e3, E3, A3, D3, -, st3⟩ := newO X2 hx hZ hown (own_w hw 77 rfl) (own_w hw 5 rfl) (own_w hw 6 rfl) eh2 (g := (mkF m 13 #[.val (.int ch)] [])) rfl (hb hby d12_13) (by decide) (by decide)
  obtain ⟨b3, g3⟩ : ∃ z, z = h0.size := ⟨_, rfl⟩
  rw [← g3] at A3 D3 st3
  refine own_go st3 ?_
  have K3 : Keep h0 h3 [] := (Keep.refl h0 []).ext E3
  have O3 := O0.ext E3
  have F3_value : Fld Z h3 b3 "java/lang/String" "value" "[B" .null := D3 (Or.inr (own_w hw 20 rfl)) (ty := (.array .byte)) (by decide)
  have F3_coder : Fld Z h3 b3 "java/lang/String" "coder" "B" (.int (0 : Int32)) := D3 (Or.inr (own_w hw 21 rfl)) (ty := .byte) (by decide)
  refine own_go (A := T3.setTop (mkF m 18 #[.val (.int ch)] [(.int ch), (.ref b3), (.ref b3)])) (fun t_ k_ => ?_) ?_
  · show Steps p.tables e below (T3.setTop (mkF m 16 #[.val (.int ch)] [(.ref b3)])) t_
    refine XS.dup X3.here hx rfl (hb hby d12_16) rfl rfl ?_
    show Steps p.tables e below (T3.setTop (mkF m 17 #[.val (.int ch)] [(.ref b3), (.ref b3)])) t_
    refine XS.iloadN X3.here hx rfl (hb hby d12_17) rfl ?_
    exact k_
  obtain ⟨_, _, ⟨T4, L4, k4, n4⟩, -, X4, ⟨Lc4, hQ4, l4, y4, z4⟩, st4⟩ := Jvm.LawKit.callS X3 hx (y := own_y1) hown (mvT hZ (own_w hw 78 rfl)) (mvT hZ (own_w hw 79 rfl)) (mvT hZ (own_w hw 75 rfl)) (mvT hZ (own_w hw 80 rfl)) (by decide) (backOf (W := 2) (rmToB l Z a0 hw [] ch h3 n0 (Nat.le_trans Z0 K3.1)) hZ (own_w hw 80 rfl) (own_w hw 75 rfl) (by decide) (by decide)) (g := (mkF m 18 #[.val (.int ch)] [(.int ch), (.ref b3), (.ref b3)])) rfl (by rw [hml]; rfl) (argsL := [(.int ch)]) (rest := [(.ref b3), (.ref b3)]) (lenOf pd_1 rfl) rfl (by show 2 * 0 + _ ≤ _; exact Nat.le_of_eq rfl) (hb hby d12_18) (fun _ _ => ⟨rfl, e3, (by decide : 1 + 1 ≤ _), (by decide : 4 + 1 ≤ _)⟩)
  dsimp only [Pt.U, Pt.locs, Pt.cells, Pt.slots] at X4 l4 y4 z4 st4 hQ4
  subst l4 y4 z4
  obtain ⟨d_4, k_4, rfl, N4q, Kc4, r4_0, r4_1⟩ := hQ4
  have N4 := Fr.app N2 N4q
  refine own_go st4 ?_
  have K4 : Keep h0 T4.heap [] := K3.trans Kc4 all0
  have O4 := O3.keep Kc4 all0
  refine own_go (A := T4.setTop (mkF m 22 #[.val (.int ch)] [(.int (0 : Int32)), (.ref d_4), (.ref b3), (.ref b3)])) (fun t_ k_ => ?_) ?_
  · show Steps p.tables e below (T4.setTop (mkF m 21 #[.val (.int ch)] [(.ref d_4), (.ref b3), (.ref b3)])) t_
    refine XS.iconst X4.here hx rfl (hb hby d12_21) ?_
    exact k_
  obtain ⟨_, _, ⟨T5, L5, k5, n5⟩, -, X5, ⟨Lc5, hQ5, l5, y5, z5⟩, st5⟩ := X4.specialBack hx (y := own_y2) rfl hown (mvT hZ (own_w hw 81 rfl)) (mvT hZ (own_w hw 82 rfl)) (mvT hZ (own_w hw 83 rfl)) (by decide) (backOf (W := 1) (rmSBB l Z a0 hw [] b3 d_4 T4.heap n0 (Nat.le_trans Z0 K4.1) (A3.keep Kc4) (F3_value.keep Kc4 nin0) (F3_coder.keep Kc4 nin0) (Nat.le_trans Z0 (Nat.le_of_eq g3.symm))) hZ (own_w hw 83 rfl) (own_w hw 6 rfl) (by decide) (by decide)) (g := (mkF m 22 #[.val (.int ch)] [(.int (0 : Int32)), (.ref d_4), (.ref b3), (.ref b3)])) rfl (by rw [hml]; rfl) (Steps.refl _) (a := b3) (argsL := [(.ref d_4), (.int (0 : Int32))]) (rest := [(.ref b3)]) (lenOf pd_2 rfl) rfl (by show 2 * 0 + _ ≤ _; exact Nat.le_of_eq rfl) (hb hby d12_22) (fun _ _ => ⟨rfl, rfl, (by decide : 2 + 0 ≤ _), (by decide : 5 + 0 ≤ _)⟩)
  dsimp only [Pt.U, Pt.locs, Pt.cells, Pt.slots] at X5 l5 y5 z5 st5 hQ5
  subst l5 y5 z5
  obtain ⟨rfl, N5q, Kc5, r5_0, r5_1⟩ := hQ5
  have N5 := Fr.app N4 N5q
  refine own_via st5 ?_
  have K5 : Keep h0 T5.heap [] := K4.trans Kc5 (allS (P := fun x => x ∈ _ ∨ _ ≤ x) (Or.inr (Nat.le_of_eq g3.symm)) all0)
  have O5 := O4.keep Kc5 (allS (P := fun x => n0 ≤ x) (Nat.le_trans Z0 (Nat.le_of_eq g3.symm)) all0)
  obtain ⟨fs6, hr6, hrun6, hended6, hW6, hsame6⟩ := X5.leave (v := some (.ref b3)) (fun h => by rw [Bd.returns] at h; cases h)
  refine ⟨_, _, ?_, hrun6, hended6, _, _, rfl, ?_, ⟨_, rfl⟩, hW6, hsame6.mono (by decide) (by decide)⟩
  · exact own_retA X5 hx Bd.returns rfl rfl rfl (hb hby d12_25) hr6
  · show Q_rmValOf Z ch cs h0 n0 _ T5.heap _
    exact ⟨b3, d_4, k_4, rfl, N5, K5, (Nat.le_of_eq g3.symm), (Nat.le_trans K3.1 r4_0), ((A3.keep Kc4).keep Kc5), r5_0, r5_1, (r4_1.keep Kc5 (ninS (Ne.symm (Nat.ne_of_lt (Nat.lt_of_lt_of_le A3.lt r4_0))) nin0))⟩
theorem d6_0 : decode jdk_52_method_21_code 0 = .ok (.iconst 0, 1) := by decide +kernel
theorem d6_1 : decode jdk_52_method_21_code 1 = .ok (.istore 5, 2) := by decide +kernel
theorem d6_3 : decode jdk_52_method_21_code 3 = .ok (.iload 5, 2) := by decide +kernel
theorem d6_5 : decode jdk_52_method_21_code 5 = .ok (.iload 4, 2) := by decide +kernel
theorem d6_7 : decode jdk_52_method_21_code 7 = .ok (.if_icmp .ge 37, 3) := by decide +kernel
theorem d6_10 : decode jdk_52_method_21_code 10 = .ok (.aload_n 0, 1) := by decide +kernel
theorem d6_11 : decode jdk_52_method_21_code 11 = .ok (.iload_n 1, 1) := by decide +kernel
theorem d6_12 : decode jdk_52_method_21_code 12 = .ok (.caload, 1) := by decide +kernel
theorem d6_13 : decode jdk_52_method_21_code 13 = .ok (.istore 6, 2) := by decide +kernel
theorem d6_15 : decode jdk_52_method_21_code 15 = .ok (.iload 6, 2) := by decide +kernel
theorem d6_17 : decode jdk_52_method_21_code 17 = .ok (.sipush 255, 3) := by decide +kernel
theorem d6_20 : decode jdk_52_method_21_code 20 = .ok (.if_icmp .le 6, 3) := by decide +kernel
theorem d6_26 : decode jdk_52_method_21_code 26 = .ok (.aload_n 2, 1) := by decide +kernel
theorem d6_27 : decode jdk_52_method_21_code 27 = .ok (.iload_n 3, 1) := by decide +kernel
theorem d6_28 : decode jdk_52_method_21_code 28 = .ok (.iload 6, 2) := by decide +kernel
theorem d6_30 : decode jdk_52_method_21_code 30 = .ok (.i2b, 1) := by decide +kernel
theorem d6_31 : decode jdk_52_method_21_code 31 = .ok (.bastore, 1) := by decide +kernel
theorem d6_32 : decode jdk_52_method_21_code 32 = .ok (.iinc 1 1, 3) := by decide +kernel
theorem d6_35 : decode jdk_52_method_21_code 35 = .ok (.iinc 3 1, 3) := by decide +kernel
theorem d6_38 : decode jdk_52_method_21_code 38 = .ok (.iinc 5 1, 3) := by decide +kernel
theorem d6_41 : decode jdk_52_method_21_code 41 = .ok (.goto (-38), 3) := by decide +kernel
theorem d6_44 : decode jdk_52_method_21_code 44 = .ok (.iload 4, 2) := by decide +kernel
theorem d6_46 : decode jdk_52_method_21_code 46 = .ok (.ireturn, 1) := by decide +kernel
abbrev own_y4 : MethodName := ⟨"java/lang/StringUTF16", "compress", "([CI[BII)I"⟩
theorem ef_rmCmpL2 (m : MethodId) (sr : Addr) (ds : Addr) : entryFrame m #[(.ref sr), (.int (0 : Int32)), (.ref ds), (.int (0 : Int32)), (.int (2 : Int32))] 7 = mkF m 0 #[.val (.ref sr), .val (.int (0 : Int32)), .val (.ref ds), .val (.int (0 : Int32)), .val (.int (2 : Int32)), .unset, .unset] [] := by first | (simp [entryFrame, mkF, argsToLocals, Value.category]; done) | rfl
def Q_rmCmpL2 (Z : State) (sr : Addr) (ds : Addr) (kc : ClassId) (kb : ClassId) (ch0 : Int32) (ch1 : Int32) (h0 : Heap) (n0 : Nat) (v_ : Option Value) (h_ : Heap) (L_ : List Loc) : Prop := v_ = some (.int (2 : Int32)) ∧ Fr n0 L_ ∧ Keep h0 h_ [ds] ∧ Arv Z h_ ds kb .byte (2 : Int32) [(.int (ch0).toInt8.toInt32), (.int (ch1).toInt8.toInt32)] (.int (0 : Int32))
theorem pn_2 : plainName "java/lang/StringUTF16" = true := by first | (simp [plainName, overriddenIn]; done) | decide +kernel
set_option maxRecDepth 65536 in
set_option maxHeartbeats 40000000 in
theorem rmCmpL2 (l : Launch) (Z : State) (a0 : Array Value) (hw : ∀ d ∈ tables_1, d.before a0 Z = true) (ws : List Jvm.Cond) (sr : Addr) (ds : Addr) (kc : ClassId) (kb : ClassId) (ch0 : Int32) (ch1 : Int32) (h0 : Heap) (n0 : Nat) (Z0 : n0 ≤ h0.size) (u0 : Arv Z h0 sr kc .char (2 : Int32) [(.int ch0), (.int ch1)] (.int (0 : Int32))) (u1 : Arv Z h0 ds kb .byte (2 : Int32) [(.int (0 : Int32)), (.int (0 : Int32))] (.int (0 : Int32))) (u2 : n0 ≤ ds) (u3 : sr ≠ ds) (hch0 : ¬ ((255 : Int32) < ch0)) (hch1 : ¬ ((255 : Int32) < ch1)) :
    MetFree l own_y4 (head1 (Jvm.Cond.code own_y4 jdk_52_method_21_code 7 (some .int) :: ws) ({ frames := 0, cells := 0, slots := 0, locals := 0 } : Room)) (fun a_ U_ => a_ = #[(.ref sr), (.int (0 : Int32)), (.ref ds), (.int (0 : Int32)), (.int (2 : Int32))] ∧ Z.Warmed39 U_.vm ∧ U_.heap = h0) (fun _ _ _ _ _ => True) (fun _ U_ o_ U2_ => ∃ v_ L_, o_ = .returned v_ ∧ Q_rmCmpL2 Z sr ds kc kb ch0 ch1 h0 n0 v_ U2_.heap L_ ∧ FrameEnd U_ o_ U2_ L_ ({ frames := 0, cells := 0, slots := 0, locals := 0 } : Room).cells ({ frames := 0, cells := 0, slots := 0, locals := 0 } : Room).slots) := by
  refine MetFree.of_bodySF (plainFor_of_name pn_2) hisR ?_
  intro p e s m args below meth c s₁ Bd hml0 hP hK
  obtain ⟨rfl, hZ, hh⟩ := hP
  have hx := Bd.exec
  have hby := Bd.bytes
  have hml : c.maxLocals = 7 := hml0
  have hown : s.vm.findClass "java/lang/StringUTF16" = some m.cls := findClass_of_methodNamed Bd.named
  have hnm := (name_of_methodNamed Bd.named Bd.method).1
  have X0 : Stand p l e ({ frames := 0, cells := 0, slots := 0, locals := 0 } : Room) s m #[(.ref sr), (.int (0 : Int32)), (.ref ds), (.int (0 : Int32)), (.int (2 : Int32))] below meth c s₁ [] 0 0 := Stand.of_body Bd
  have e0 : s₁.heap = h0 := by rw [← hh, Bd.state]; rfl
  have N0 := Fr.nil n0
  refine own_go (A := s₁.setTop (mkF m 0 #[.val (.ref sr), .val (.int (0 : Int32)), .val (.ref ds), .val (.int (0 : Int32)), .val (.int (2 : Int32)), .unset, .unset] [])) (fun t_ k_ => castTop (ef_rmCmpL2 m sr ds) k_) ?_
  obtain ⟨cl1, Ar1, q1, S1, M1, H1, G1⟩ := id u0
  have hin1 : ¬ ((0 : Int32) < 0 ∨ cl1.slots.size ≤ ((0 : Int32)).toNatClampNeg) := inb_of S1 ⟨by decide, by decide⟩
  have hat1 : cl1.slots[((0 : Int32)).toNatClampNeg]? = some (.int ch0) := Has.at H1 hin1 rfl
  refine own_go (A := s₁.setTop (mkF m 31 #[.val (.ref sr), .val (.int (0 : Int32)), .val (.ref ds), .val (.int (0 : Int32)), .val (.int (2 : Int32)), .val (.int (0 : Int32)), .val (.int ch0)] [(.int (ch0).toInt8.toInt32), (.int (0 : Int32)), (.ref ds)])) (fun t_ k_ => ?_) ?_
  · show Steps p.tables e below (s₁.setTop (mkF m 0 #[.val (.ref sr), .val (.int (0 : Int32)), .val (.ref ds), .val (.int (0 : Int32)), .val (.int (2 : Int32)), .unset, .unset] [])) t_
    refine XS.iconst X0.here hx rfl (hb hby d6_0) ?_
    show Steps p.tables e below (s₁.setTop (mkF m 1 #[.val (.ref sr), .val (.int (0 : Int32)), .val (.ref ds), .val (.int (0 : Int32)), .val (.int (2 : Int32)), .unset, .unset] [(.int (0 : Int32))])) t_
    refine XS.istore X0.here hx rfl (hb hby d6_1) rfl (l' := #[.val (.ref sr), .val (.int (0 : Int32)), .val (.ref ds), .val (.int (0 : Int32)), .val (.int (2 : Int32)), .val (.int (0 : Int32)), .unset]) rfl ?_
    show Steps p.tables e below (s₁.setTop (mkF m 3 #[.val (.ref sr), .val (.int (0 : Int32)), .val (.ref ds), .val (.int (0 : Int32)), .val (.int (2 : Int32)), .val (.int (0 : Int32)), .unset] [])) t_
    refine XS.iload X0.here hx rfl (hb hby d6_3) rfl ?_
    show Steps p.tables e below (s₁.setTop (mkF m 5 #[.val (.ref sr), .val (.int (0 : Int32)), .val (.ref ds), .val (.int (0 : Int32)), .val (.int (2 : Int32)), .val (.int (0 : Int32)), .unset] [(.int (0 : Int32))])) t_
    refine XS.iload X0.here hx rfl (hb hby d6_5) rfl ?_
    show Steps p.tables e below (s₁.setTop (mkF m 7 #[.val (.ref sr), .val (.int (0 : Int32)), .val (.ref ds), .val (.int (0 : Int32)), .val (.int (2 : Int32)), .val (.int (0 : Int32)), .unset] [(.int (2 : Int32)), (.int (0 : Int32))])) t_
    refine XS.icmpNo X0.here hx rfl (hb hby d6_7) rfl (tlt (by decide : (0 : Int32) < (2 : Int32))).2.1 ?_
    show Steps p.tables e below (s₁.setTop (mkF m 10 #[.val (.ref sr), .val (.int (0 : Int32)), .val (.ref ds), .val (.int (0 : Int32)), .val (.int (2 : Int32)), .val (.int (0 : Int32)), .unset] [])) t_
    refine XS.aloadN X0.here hx rfl (hb hby d6_10) rfl rfl ?_
    show Steps p.tables e below (s₁.setTop (mkF m 11 #[.val (.ref sr), .val (.int (0 : Int32)), .val (.ref ds), .val (.int (0 : Int32)), .val (.int (2 : Int32)), .val (.int (0 : Int32)), .unset] [(.ref sr)])) t_
    refine XS.iloadN X0.here hx rfl (hb hby d6_11) rfl ?_
    show Steps p.tables e below (s₁.setTop (mkF m 12 #[.val (.ref sr), .val (.int (0 : Int32)), .val (.ref ds), .val (.int (0 : Int32)), .val (.int (2 : Int32)), .val (.int (0 : Int32)), .unset] [(.int (0 : Int32)), (.ref sr)])) t_
    refine X0.caload hx (j := (0 : Int32)) (v := (.int ch0)) (by rw [e0]; exact Ar1.1) (State.isArrayOf_alike hZ.alike Ar1.2.1) Ar1.2.2 hin1 hat1 (g := (mkF m 12 #[.val (.ref sr), .val (.int (0 : Int32)), .val (.ref ds), .val (.int (0 : Int32)), .val (.int (2 : Int32)), .val (.int (0 : Int32)), .unset] [(.int (0 : Int32)), (.ref sr)])) rfl rfl (hb hby d6_12) _ ?_
    show Steps p.tables e below (s₁.setTop (mkF m 13 #[.val (.ref sr), .val (.int (0 : Int32)), .val (.ref ds), .val (.int (0 : Int32)), .val (.int (2 : Int32)), .val (.int (0 : Int32)), .unset] [(.int ch0)])) t_
    refine XS.istore X0.here hx rfl (hb hby d6_13) rfl (l' := #[.val (.ref sr), .val (.int (0 : Int32)), .val (.ref ds), .val (.int (0 : Int32)), .val (.int (2 : Int32)), .val (.int (0 : Int32)), .val (.int ch0)]) rfl ?_
    show Steps p.tables e below (s₁.setTop (mkF m 15 #[.val (.ref sr), .val (.int (0 : Int32)), .val (.ref ds), .val (.int (0 : Int32)), .val (.int (2 : Int32)), .val (.int (0 : Int32)), .val (.int ch0)] [])) t_
    refine XS.iload X0.here hx rfl (hb hby d6_15) rfl ?_
    show Steps p.tables e below (s₁.setTop (mkF m 17 #[.val (.ref sr), .val (.int (0 : Int32)), .val (.ref ds), .val (.int (0 : Int32)), .val (.int (2 : Int32)), .val (.int (0 : Int32)), .val (.int ch0)] [(.int ch0)])) t_
    refine XS.sipush X0.here hx rfl (hb hby d6_17) ?_
    show Steps p.tables e below (s₁.setTop (mkF m 20 #[.val (.ref sr), .val (.int (0 : Int32)), .val (.ref ds), .val (.int (0 : Int32)), .val (.int (2 : Int32)), .val (.int (0 : Int32)), .val (.int ch0)] [(.int (255 : Int32)), (.int ch0)])) t_
    refine XS.icmpYes X0.here hx rfl (pc0 := 20) (pc' := 26) rfl (hb hby d6_20) rfl (flt hch0).2.2.2 (by decide) (by decide) ?_
    show Steps p.tables e below (s₁.setTop (mkF m 26 #[.val (.ref sr), .val (.int (0 : Int32)), .val (.ref ds), .val (.int (0 : Int32)), .val (.int (2 : Int32)), .val (.int (0 : Int32)), .val (.int ch0)] [])) t_
    refine XS.aloadN X0.here hx rfl (hb hby d6_26) rfl rfl ?_
    show Steps p.tables e below (s₁.setTop (mkF m 27 #[.val (.ref sr), .val (.int (0 : Int32)), .val (.ref ds), .val (.int (0 : Int32)), .val (.int (2 : Int32)), .val (.int (0 : Int32)), .val (.int ch0)] [(.ref ds)])) t_
    refine XS.iloadN X0.here hx rfl (hb hby d6_27) rfl ?_
    show Steps p.tables e below (s₁.setTop (mkF m 28 #[.val (.ref sr), .val (.int (0 : Int32)), .val (.ref ds), .val (.int (0 : Int32)), .val (.int (2 : Int32)), .val (.int (0 : Int32)), .val (.int ch0)] [(.int (0 : Int32)), (.ref ds)])) t_
    refine XS.iload X0.here hx rfl (hb hby d6_28) rfl ?_
    show Steps p.tables e below (s₁.setTop (mkF m 30 #[.val (.ref sr), .val (.int (0 : Int32)), .val (.ref ds), .val (.int (0 : Int32)), .val (.int (2 : Int32)), .val (.int (0 : Int32)), .val (.int ch0)] [(.int ch0), (.int (0 : Int32)), (.ref ds)])) t_
    refine XS.i2b X0.here hx rfl (hb hby d6_30) rfl ?_
    exact k_
  obtain ⟨cl2, Ar2, q2, S2, M2, H2, G2⟩ := id u1
  have hin2 : ¬ ((0 : Int32) < 0 ∨ cl2.slots.size ≤ ((0 : Int32)).toNatClampNeg) := inb_of S2 ⟨by decide, by decide⟩
  obtain ⟨T3, h3, X3, e3, W3, st3⟩ := stB X0 hx hZ e0 Ar2 (j := (0 : Int32)) hin2 (g := (mkF m 31 #[.val (.ref sr), .val (.int (0 : Int32)), .val (.ref ds), .val (.int (0 : Int32)), .val (.int (2 : Int32)), .val (.int (0 : Int32)), .val (.int ch0)] [(.int (ch0).toInt8.toInt32), (.int (0 : Int32)), (.ref ds)])) rfl rfl (hb hby d6_31)
  rw [own_narb] at W3
  have B3 : Arv Z h3 ds kb .byte (2 : Int32) [(.int (ch0).toInt8.toInt32), (.int (0 : Int32))] (.int (0 : Int32)) := Arv.set Ar2 q2 S2 M2 H2 G2 (fits_nar_byte _) W3 0 rfl (Nat.le_of_ble_eq_true rfl)
  refine own_go st3 ?_
  have K3 : Keep h0 h3 [ds] := (Keep.refl h0 [ds]).wr W3 (Or.inl (List.mem_of_getElem? (i := 0) rfl))
  have N3 := Fr.snoc X3 N0 u2
  obtain ⟨cl4, Ar4, q4, S4, M4, H4, G4⟩ := id (u0.other W3 u3)
  have hin4 : ¬ ((1 : Int32) < 0 ∨ cl4.slots.size ≤ ((1 : Int32)).toNatClampNeg) := inb_of S4 ⟨by decide, by decide⟩
  have hat4 : cl4.slots[((1 : Int32)).toNatClampNeg]? = some (.int ch1) := Has.at H4 hin4 rfl
  refine own_go (A := T3.setTop (mkF m 31 #[.val (.ref sr), .val (.int (1 : Int32)), .val (.ref ds), .val (.int (1 : Int32)), .val (.int (2 : Int32)), .val (.int (1 : Int32)), .val (.int ch1)] [(.int (ch1).toInt8.toInt32), (.int (1 : Int32)), (.ref ds)])) (fun t_ k_ => ?_) ?_
  · show Steps p.tables e below (T3.setTop (mkF m 32 #[.val (.ref sr), .val (.int (0 : Int32)), .val (.ref ds), .val (.int (0 : Int32)), .val (.int (2 : Int32)), .val (.int (0 : Int32)), .val (.int ch0)] [])) t_
    refine XS.iinc X3.here hx rfl (hb hby d6_32) rfl (l' := #[.val (.ref sr), .val (.int (1 : Int32)), .val (.ref ds), .val (.int (0 : Int32)), .val (.int (2 : Int32)), .val (.int (0 : Int32)), .val (.int ch0)]) rfl ?_
    show Steps p.tables e below (T3.setTop (mkF m 35 #[.val (.ref sr), .val (.int (1 : Int32)), .val (.ref ds), .val (.int (0 : Int32)), .val (.int (2 : Int32)), .val (.int (0 : Int32)), .val (.int ch0)] [])) t_
    refine XS.iinc X3.here hx rfl (hb hby d6_35) rfl (l' := #[.val (.ref sr), .val (.int (1 : Int32)), .val (.ref ds), .val (.int (1 : Int32)), .val (.int (2 : Int32)), .val (.int (0 : Int32)), .val (.int ch0)]) rfl ?_
    show Steps p.tables e below (T3.setTop (mkF m 38 #[.val (.ref sr), .val (.int (1 : Int32)), .val (.ref ds), .val (.int (1 : Int32)), .val (.int (2 : Int32)), .val (.int (0 : Int32)), .val (.int ch0)] [])) t_
    refine XS.iinc X3.here hx rfl (hb hby d6_38) rfl (l' := #[.val (.ref sr), .val (.int (1 : Int32)), .val (.ref ds), .val (.int (1 : Int32)), .val (.int (2 : Int32)), .val (.int (1 : Int32)), .val (.int ch0)]) rfl ?_
    show Steps p.tables e below (T3.setTop (mkF m 41 #[.val (.ref sr), .val (.int (1 : Int32)), .val (.ref ds), .val (.int (1 : Int32)), .val (.int (2 : Int32)), .val (.int (1 : Int32)), .val (.int ch0)] [])) t_
    refine XS.goto X3.here hx rfl (pc0 := 41) (pc' := 3) rfl (hb hby d6_41) (by decide) (by decide) ?_
    show Steps p.tables e below (T3.setTop (mkF m 3 #[.val (.ref sr), .val (.int (1 : Int32)), .val (.ref ds), .val (.int (1 : Int32)), .val (.int (2 : Int32)), .val (.int (1 : Int32)), .val (.int ch0)] [])) t_
    refine XS.iload X3.here hx rfl (hb hby d6_3) rfl ?_
    show Steps p.tables e below (T3.setTop (mkF m 5 #[.val (.ref sr), .val (.int (1 : Int32)), .val (.ref ds), .val (.int (1 : Int32)), .val (.int (2 : Int32)), .val (.int (1 : Int32)), .val (.int ch0)] [(.int (1 : Int32))])) t_
    refine XS.iload X3.here hx rfl (hb hby d6_5) rfl ?_
    show Steps p.tables e below (T3.setTop (mkF m 7 #[.val (.ref sr), .val (.int (1 : Int32)), .val (.ref ds), .val (.int (1 : Int32)), .val (.int (2 : Int32)), .val (.int (1 : Int32)), .val (.int ch0)] [(.int (2 : Int32)), (.int (1 : Int32))])) t_
    refine XS.icmpNo X3.here hx rfl (hb hby d6_7) rfl (tlt (by decide : (1 : Int32) < (2 : Int32))).2.1 ?_
    show Steps p.tables e below (T3.setTop (mkF m 10 #[.val (.ref sr), .val (.int (1 : Int32)), .val (.ref ds), .val (.int (1 : Int32)), .val (.int (2 : Int32)), .val (.int (1 : Int32)), .val (.int ch0)] [])) t_
    refine XS.aloadN X3.here hx rfl (hb hby d6_10) rfl rfl ?_
    show Steps p.tables e below (T3.setTop (mkF m 11 #[.val (.ref sr), .val (.int (1 : Int32)), .val (.ref ds), .val (.int (1 : Int32)), .val (.int (2 : Int32)), .val (.int (1 : Int32)), .val (.int ch0)] [(.ref sr)])) t_
    refine XS.iloadN X3.here hx rfl (hb hby d6_11) rfl ?_
    show Steps p.tables e below (T3.setTop (mkF m 12 #[.val (.ref sr), .val (.int (1 : Int32)), .val (.ref ds), .val (.int (1 : Int32)), .val (.int (2 : Int32)), .val (.int (1 : Int32)), .val (.int ch0)] [(.int (1 : Int32)), (.ref sr)])) t_
    refine X3.caload hx (j := (1 : Int32)) (v := (.int ch1)) (by rw [e3]; exact Ar4.1) (State.isArrayOf_alike hZ.alike Ar4.2.1) Ar4.2.2 hin4 hat4 (g := (mkF m 12 #[.val (.ref sr), .val (.int (1 : Int32)), .val (.ref ds), .val (.int (1 : Int32)), .val (.int (2 : Int32)), .val (.int (1 : Int32)), .val (.int ch0)] [(.int (1 : Int32)), (.ref sr)])) rfl rfl (hb hby d6_12) _ ?_
    show Steps p.tables e below (T3.setTop (mkF m 13 #[.val (.ref sr), .val (.int (1 : Int32)), .val (.ref ds), .val (.int (1 : Int32)), .val (.int (2 : Int32)), .val (.int (1 : Int32)), .val (.int ch0)] [(.int ch1)])) t_
    refine XS.istore X3.here hx rfl (hb hby d6_13) rfl (l' := #[.val (.ref sr), .val (.int (1 : Int32)), .val (.ref ds), .val (.int (1 : Int32)), .val (.int (2 : Int32)), .val (.int (1 : Int32)), .val (.int ch1)]) rfl ?_
    show Steps p.tables e below (T3.setTop (mkF m 15 #[.val (.ref sr), .val (.int (1 : Int32)), .val (.ref ds), .val (.int (1 : Int32)), .val (.int (2 : Int32)), .val (.int (1 : Int32)), .val (.int ch1)] [])) t_
    refine XS.iload X3.here hx rfl (hb hby d6_15) rfl ?_
    show Steps p.tables e below (T3.setTop (mkF m 17 #[.val (.ref sr), .val (.int (1 : Int32)), .val (.ref ds), .val (.int (1 : Int32)), .val (.int (2 : Int32)), .val (.int (1 : Int32)), .val (.int ch1)] [(.int ch1)])) t_
    refine XS.sipush X3.here hx rfl (hb hby d6_17) ?_
    show Steps p.tables e below (T3.setTop (mkF m 20 #[.val (.ref sr), .val (.int (1 : Int32)), .val (.ref ds), .val (.int (1 : Int32)), .val (.int (2 : Int32)), .val (.int (1 : Int32)), .val (.int ch1)] [(.int (255 : Int32)), (.int ch1)])) t_
    refine XS.icmpYes X3.here hx rfl (pc0 := 20) (pc' := 26) rfl (hb hby d6_20) rfl (flt hch1).2.2.2 (by decide) (by decide) ?_
    show Steps p.tables e below (T3.setTop (mkF m 26 #[.val (.ref sr), .val (.int (1 : Int32)), .val (.ref ds), .val (.int (1 : Int32)), .val (.int (2 : Int32)), .val (.int (1 : Int32)), .val (.int ch1)] [])) t_
    refine XS.aloadN X3.here hx rfl (hb hby d6_26) rfl rfl ?_
    show Steps p.tables e below (T3.setTop (mkF m 27 #[.val (.ref sr), .val (.int (1 : Int32)), .val (.ref ds), .val (.int (1 : Int32)), .val (.int (2 : Int32)), .val (.int (1 : Int32)), .val (.int ch1)] [(.ref ds)])) t_
    refine XS.iloadN X3.here hx rfl (hb hby d6_27) rfl ?_
    show Steps p.tables e below (T3.setTop (mkF m 28 #[.val (.ref sr), .val (.int (1 : Int32)), .val (.ref ds), .val (.int (1 : Int32)), .val (.int (2 : Int32)), .val (.int (1 : Int32)), .val (.int ch1)] [(.int (1 : Int32)), (.ref ds)])) t_
    refine XS.iload X3.here hx rfl (hb hby d6_28) rfl ?_
    show Steps p.tables e below (T3.setTop (mkF m 30 #[.val (.ref sr), .val (.int (1 : Int32)), .val (.ref ds), .val (.int (1 : Int32)), .val (.int (2 : Int32)), .val (.int (1 : Int32)), .val (.int ch1)] [(.int ch1), (.int (1 : Int32)), (.ref ds)])) t_
    refine XS.i2b X3.here hx rfl (hb hby d6_30) rfl ?_
    exact k_
  obtain ⟨cl5, Ar5, q5, S5, M5, H5, G5⟩ := id B3
  have hin5 : ¬ ((1 : Int32) < 0 ∨ cl5.slots.size ≤ ((1 : Int32)).toNatClampNeg) := inb_of S5 ⟨by decide, by decide⟩
  obtain ⟨T6, h6, X6, e6, W6, st6⟩ := stB X3 hx hZ e3 Ar5 (j := (1 : Int32)) hin5 (g := (mkF m 31 #[.val (.ref sr), .val (.int (1 : Int32)), .val (.ref ds), .val (.int (1 : Int32)), .val (.int (2 : Int32)), .val (.int (1 : Int32)), .val (.int ch1)] [(.int (ch1).toInt8.toInt32), (.int (1 : Int32)), (.ref ds)])) rfl rfl (hb hby d6_31)
  rw [own_narb] at W6
  have B6 : Arv Z h6 ds kb .byte (2 : Int32) [(.int (ch0).toInt8.toInt32), (.int (ch1).toInt8.toInt32)] (.int (0 : Int32)) := Arv.set Ar5 q5 S5 M5 H5 G5 (fits_nar_byte _) W6 1 rfl (Nat.le_of_ble_eq_true rfl)
  refine own_go st6 ?_
  have K6 : Keep h0 h6 [ds] := K3.wr W6 (Or.inl (List.mem_of_getElem? (i := 0) rfl))
  have N6 := Fr.snoc X6 N3 u2
  refine own_go (A := T6.setTop (mkF m 46 #[.val (.ref sr), .val (.int (2 : Int32)), .val (.ref ds), .val (.int (2 : Int32)), .val (.int (2 : Int32)), .val (.int (2 : Int32)), .val (.int ch1)] [(.int (2 : Int32))])) (fun t_ k_ => ?_) ?_
  · show Steps p.tables e below (T6.setTop (mkF m 32 #[.val (.ref sr), .val (.int (1 : Int32)), .val (.ref ds), .val (.int (1 : Int32)), .val (.int (2 : Int32)), .val (.int (1 : Int32)), .val (.int ch1)] [])) t_
    refine XS.iinc X6.here hx rfl (hb hby d6_32) rfl (l' := #[.val (.ref sr), .val (.int (2 : Int32)), .val (.ref ds), .val (.int (1 : Int32)), .val (.int (2 : Int32)), .val (.int (1 : Int32)), .val (.int ch1)]) rfl ?_
    show Steps p.tables e below (T6.setTop (mkF m 35 #[.val (.ref sr), .val (.int (2 : Int32)), .val (.ref ds), .val (.int (1 : Int32)), .val (.int (2 : Int32)), .val (.int (1 : Int32)), .val (.int ch1)] [])) t_
    refine XS.iinc X6.here hx rfl (hb hby d6_35) rfl (l' := #[.val (.ref sr), .val (.int (2 : Int32)), .val (.ref ds), .val (.int (2 : Int32)), .val (.int (2 : Int32)), .val (.int (1 : Int32)), .val (.int ch1)]) rfl ?_
    show Steps p.tables e below (T6.setTop (mkF m 38 #[.val (.ref sr), .val (.int (2 : Int32)), .val (.ref ds), .val (.int (2 : Int32)), .val (.int (2 : Int32)), .val (.int (1 : Int32)), .val (.int ch1)] [])) t_
    refine XS.iinc X6.here hx rfl (hb hby d6_38) rfl (l' := #[.val (.ref sr), .val (.int (2 : Int32)), .val (.ref ds), .val (.int (2 : Int32)), .val (.int (2 : Int32)), .val (.int (2 : Int32)), .val (.int ch1)]) rfl ?_
    show Steps p.tables e below (T6.setTop (mkF m 41 #[.val (.ref sr), .val (.int (2 : Int32)), .val (.ref ds), .val (.int (2 : Int32)), .val (.int (2 : Int32)), .val (.int (2 : Int32)), .val (.int ch1)] [])) t_
    refine XS.goto X6.here hx rfl (pc0 := 41) (pc' := 3) rfl (hb hby d6_41) (by decide) (by decide) ?_
    show Steps p.tables e below (T6.setTop (mkF m 3 #[.val (.ref sr), .val (.int (2 : Int32)), .val (.ref ds), .val (.int (2 : Int32)), .val (.int (2 : Int32)), .val (.int (2 : Int32)), .val (.int ch1)] [])) t_
    refine XS.iload X6.here hx rfl (hb hby d6_3) rfl ?_
    show Steps p.tables e below (T6.setTop (mkF m 5 #[.val (.ref sr), .val (.int (2 : Int32)), .val (.ref ds), .val (.int (2 : Int32)), .val (.int (2 : Int32)), .val (.int (2 : Int32)), .val (.int ch1)] [(.int (2 : Int32))])) t_
    refine XS.iload X6.here hx rfl (hb hby d6_5) rfl ?_
    show Steps p.tables e below (T6.setTop (mkF m 7 #[.val (.ref sr), .val (.int (2 : Int32)), .val (.ref ds), .val (.int (2 : Int32)), .val (.int (2 : Int32)), .val (.int (2 : Int32)), .val (.int ch1)] [(.int (2 : Int32)), (.int (2 : Int32))])) t_
    refine XS.icmpYes X6.here hx rfl (pc0 := 7) (pc' := 44) rfl (hb hby d6_7) rfl (flt (by decide : ¬ ((2 : Int32) < (2 : Int32)))).2.1 (by decide) (by decide) ?_
    show Steps p.tables e below (T6.setTop (mkF m 44 #[.val (.ref sr), .val (.int (2 : Int32)), .val (.ref ds), .val (.int (2 : Int32)), .val (.int (2 : Int32)), .val (.int (2 : Int32)), .val (.int ch1)] [])) t_
    refine XS.iload X6.here hx rfl (hb hby d6_44) rfl ?_
    exact k_
  obtain ⟨fs7, hr7, hrun7, hended7, hW7, hsame7⟩ := X6.leave (v := some (.int (2 : Int32))) (fun h => by rw [Bd.returns] at h; cases h)
  refine ⟨_, _, ?_, hrun7, hended7, _, _, rfl, ?_, ⟨_, rfl⟩, hW7, hsame7.mono (by decide) (by decide)⟩
  · exact own_retI X6 hx Bd.returns (hb hby d6_46) hr7
  · show Q_rmCmpL2 Z sr ds kc kb ch0 ch1 h0 n0 _ T6.heap _
    rw [e6]
    exact ⟨rfl, N6, K6, B6⟩
theorem d5_0 : decode jdk_52_method_16_code 0 = .ok (.iload_n 2, 1) := by decide +kernel
theorem d5_1 : decode jdk_52_method_16_code 1 = .ok (.newarray .byte, 2) := by decide +kernel
theorem d5_3 : decode jdk_52_method_16_code 3 = .ok (.astore_n 3, 1) := by decide +kernel
theorem d5_4 : decode jdk_52_method_16_code 4 = .ok (.aload_n 0, 1) := by decide +kernel
theorem d5_5 : decode jdk_52_method_16_code 5 = .ok (.iload_n 1, 1) := by decide +kernel
theorem d5_6 : decode jdk_52_method_16_code 6 = .ok (.aload_n 3, 1) := by decide +kernel
theorem d5_7 : decode jdk_52_method_16_code 7 = .ok (.iconst 0, 1) := by decide +kernel
theorem d5_8 : decode jdk_52_method_16_code 8 = .ok (.iload_n 2, 1) := by decide +kernel
theorem pd_3 : parseMethodDescriptor "([CI[BII)I" = some ⟨[(.array .char), .int, (.array .byte), .int, .int], some .int⟩ := by decide +kernel
theorem d5_9 : decode jdk_52_method_16_code 9 = .ok (.invokestatic 115, 3) := by decide +kernel
theorem d5_12 : decode jdk_52_method_16_code 12 = .ok (.istore 4, 2) := by decide +kernel
theorem d5_14 : decode jdk_52_method_16_code 14 = .ok (.iload 4, 2) := by decide +kernel
theorem d5_16 : decode jdk_52_method_16_code 16 = .ok (.iload_n 2, 1) := by decide +kernel
theorem d5_17 : decode jdk_52_method_16_code 17 = .ok (.if_icmp .eq 40, 3) := by decide +kernel
theorem d5_57 : decode jdk_52_method_16_code 57 = .ok (.aload_n 3, 1) := by decide +kernel
theorem d5_58 : decode jdk_52_method_16_code 58 = .ok (.areturn, 1) := by decide +kernel
abbrev own_y5 : MethodName := ⟨"java/lang/StringUTF16", "compress", "([CII)[B"⟩
theorem ef_rmCmp2 (m : MethodId) (sr : Addr) : entryFrame m #[(.ref sr), (.int (0 : Int32)), (.int (2 : Int32))] 6 = mkF m 0 #[.val (.ref sr), .val (.int (0 : Int32)), .val (.int (2 : Int32)), .unset, .unset, .unset] [] := by first | (simp [entryFrame, mkF, argsToLocals, Value.category]; done) | rfl
def Q_rmCmp2 (Z : State) (sr : Addr) (kc : ClassId) (ch0 : Int32) (ch1 : Int32) (h0 : Heap) (n0 : Nat) (v_ : Option Value) (h_ : Heap) (L_ : List Loc) : Prop := ∃ d : Addr, ∃ k : ClassId, v_ = some (.ref d) ∧ Fr n0 L_ ∧ Keep h0 h_ [] ∧ h0.size ≤ d ∧ Arv Z h_ d k .byte (2 : Int32) [(.int (ch0).toInt8.toInt32), (.int (ch1).toInt8.toInt32)] (.int (0 : Int32))
set_option maxRecDepth 65536 in
set_option maxHeartbeats 40000000 in
theorem rmCmp2 (l : Launch) (Z : State) (a0 : Array Value) (hw : ∀ d ∈ tables_1, d.before a0 Z = true) (ws : List Jvm.Cond) (sr : Addr) (kc : ClassId) (ch0 : Int32) (ch1 : Int32) (h0 : Heap) (n0 : Nat) (Z0 : n0 ≤ h0.size) (u0 : Arv Z h0 sr kc .char (2 : Int32) [(.int ch0), (.int ch1)] (.int (0 : Int32))) (hch0 : ¬ ((255 : Int32) < ch0)) (hch1 : ¬ ((255 : Int32) < ch1)) :
    MetFree l own_y5 (head1 (Jvm.Cond.code own_y5 jdk_52_method_16_code 6 (some (.array .byte)) :: ws) ({ frames := 1, cells := 1, slots := 2, locals := 18 } : Room)) (fun a_ U_ => a_ = #[(.ref sr), (.int (0 : Int32)), (.int (2 : Int32))] ∧ Z.Warmed39 U_.vm ∧ U_.heap = h0) (fun _ _ _ _ _ => True) (fun _ U_ o_ U2_ => ∃ v_ L_, o_ = .returned v_ ∧ Q_rmCmp2 Z sr kc ch0 ch1 h0 n0 v_ U2_.heap L_ ∧ FrameEnd U_ o_ U2_ L_ ({ frames := 1, cells := 1, slots := 2, locals := 18 } : Room).cells ({ frames := 1, cells := 1, slots := 2, locals := 18 } : Room).slots) := by
  refine MetFree.of_bodySF (plainFor_of_name pn_2) hisR ?_
  intro p e s m args below meth c s₁ Bd hml0 hP hK
  obtain ⟨rfl, hZ, hh⟩ := hP
  have hx := Bd.exec
  have hby := Bd.bytes
  have hml : c.maxLocals = 6 := hml0
  have hown : s.vm.findClass "java/lang/StringUTF16" = some m.cls := findClass_of_methodNamed Bd.named
  have hnm := (name_of_methodNamed Bd.named Bd.method).1
  have X0 : Stand p l e ({ frames := 1, cells := 1, slots := 2, locals := 18 } : Room) s m #[(.ref sr), (.int (0 : Int32)), (.int (2 : Int32))] below meth c s₁ [] 0 0 := Stand.of_body Bd
  have e0 : s₁.heap = h0 := by rw [← hh, Bd.state]; rfl
  have N0 := Fr.nil n0
  refine own_go (A := s₁.setTop (mkF m 0 #[.val (.ref sr), .val (.int (0 : Int32)), .val (.int (2 : Int32)), .unset, .unset, .unset] [])) (fun t_ k_ => castTop (ef_rmCmp2 m sr) k_) ?_
  refine own_go (A := s₁.setTop (mkF m 1 #[.val (.ref sr), .val (.int (0 : Int32)), .val (.int (2 : Int32)), .unset, .unset, .unset] [(.int (2 : Int32))])) (fun t_ k_ => ?_) ?_
  · show Steps p.tables e below (s₁.setTop (mkF m 0 #[.val (.ref sr), .val (.int (0 : Int32)), .val (.int (2 : Int32)), .unset, .unset, .unset] [])) t_
    refine XS.iloadN X0.here hx rfl (hb hby d5_0) rfl ?_
    exact k_
  obtain ⟨T1, h1, k1, X1, e1, E1, A1, st1⟩ := newP X0 hx hZ (own_w hw 19 rfl) e0 (g := (mkF m 1 #[.val (.ref sr), .val (.int (0 : Int32)), .val (.int (2 : Int32)), .unset, .unset, .unset] [(.int (2 : Int32))])) rfl (hb hby d5_1) rfl (by decide) (cap := 2) (by decide) (by decide) (by decide) (by decide)
  obtain ⟨b1, g1⟩ : ∃ z, z = h0.size := ⟨_, rfl⟩
  rw [← g1] at A1 st1
  refine own_go st1 ?_
  have K1 : Keep h0 h1 [] := (Keep.refl h0 []).ext E1
  have B1 : Arv Z h1 b1 k1 .byte (2 : Int32) [(.int (0 : Int32)), (.int (0 : Int32))] (.int (0 : Int32)) := (Arv.new A1 (by decide)).pad (pad_rep [] (.int (0 : Int32)) 2)
  refine own_go (A := T1.setTop (mkF m 9 #[.val (.ref sr), .val (.int (0 : Int32)), .val (.int (2 : Int32)), .val (.ref b1), .unset, .unset] [(.int (2 : Int32)), (.int (0 : Int32)), (.ref b1), (.int (0 : Int32)), (.ref sr)])) (fun t_ k_ => ?_) ?_
  · show Steps p.tables e below (T1.setTop (mkF m 3 #[.val (.ref sr), .val (.int (0 : Int32)), .val (.int (2 : Int32)), .unset, .unset, .unset] [(.ref b1)])) t_
    refine XS.astoreN X1.here hx rfl (hb hby d5_3) rfl rfl (l' := #[.val (.ref sr), .val (.int (0 : Int32)), .val (.int (2 : Int32)), .val (.ref b1), .unset, .unset]) rfl ?_
    show Steps p.tables e below (T1.setTop (mkF m 4 #[.val (.ref sr), .val (.int (0 : Int32)), .val (.int (2 : Int32)), .val (.ref b1), .unset, .unset] [])) t_
    refine XS.aloadN X1.here hx rfl (hb hby d5_4) rfl rfl ?_
    show Steps p.tables e below (T1.setTop (mkF m 5 #[.val (.ref sr), .val (.int (0 : Int32)), .val (.int (2 : Int32)), .val (.ref b1), .unset, .unset] [(.ref sr)])) t_
    refine XS.iloadN X1.here hx rfl (hb hby d5_5) rfl ?_
    show Steps p.tables e below (T1.setTop (mkF m 6 #[.val (.ref sr), .val (.int (0 : Int32)), .val (.int (2 : Int32)), .val (.ref b1), .unset, .unset] [(.int (0 : Int32)), (.ref sr)])) t_
    refine XS.aloadN X1.here hx rfl (hb hby d5_6) rfl rfl ?_
    show Steps p.tables e below (T1.setTop (mkF m 7 #[.val (.ref sr), .val (.int (0 : Int32)), .val (.int (2 : Int32)), .val (.ref b1), .unset, .unset] [(.ref b1), (.int (0 : Int32)), (.ref sr)])) t_
    refine XS.iconst X1.here hx rfl (hb hby d5_7) ?_
    show Steps p.tables e below (T1.setTop (mkF m 8 #[.val (.ref sr), .val (.int (0 : Int32)), .val (.int (2 : Int32)), .val (.ref b1), .unset, .unset] [(.int (0 : Int32)), (.ref b1), (.int (0 : Int32)), (.ref sr)])) t_
    refine XS.iloadN X1.here hx rfl (hb hby d5_8) rfl ?_
    exact k_
  obtain ⟨_, _, ⟨T2, L2, k2, n2⟩, -, X2, ⟨Lc2, hQ2, l2, y2, z2⟩, st2⟩ := Jvm.LawKit.callS X1 hx (y := own_y4) hown (mvT hZ (own_w hw 32 rfl)) (mvT hZ (own_w hw 33 rfl)) (mvT hZ (own_w hw 30 rfl)) (mvT hZ (own_w hw 34 rfl)) (by decide) (backOf (W := 0) (rmCmpL2 l Z a0 hw [] sr b1 kc k1 ch0 ch1 h1 n0 (Nat.le_trans Z0 K1.1) (u0.ext E1) B1 (Nat.le_trans Z0 (Nat.le_of_eq g1.symm)) (Nat.ne_of_lt (Nat.lt_of_lt_of_le u0.lt (Nat.le_of_eq g1.symm))) hch0 hch1) hZ (own_w hw 34 rfl) (own_w hw 30 rfl) (by decide) (by decide)) (g := (mkF m 9 #[.val (.ref sr), .val (.int (0 : Int32)), .val (.int (2 : Int32)), .val (.ref b1), .unset, .unset] [(.int (2 : Int32)), (.int (0 : Int32)), (.ref b1), (.int (0 : Int32)), (.ref sr)])) rfl (by rw [hml]; rfl) (argsL := [(.ref sr), (.int (0 : Int32)), (.ref b1), (.int (0 : Int32)), (.int (2 : Int32))]) (rest := []) (lenOf pd_3 rfl) rfl (by show 2 * 0 + _ ≤ _; exact Nat.le_of_eq rfl) (hb hby d5_9) (fun _ _ => ⟨rfl, e1, (by decide : 1 + 0 ≤ _), (by decide : 2 + 0 ≤ _)⟩)
  dsimp only [Pt.U, Pt.locs, Pt.cells, Pt.slots] at X2 l2 y2 z2 st2 hQ2
  subst l2 y2 z2
  obtain ⟨rfl, N2q, Kc2, r2_0⟩ := hQ2
  have N2 := Fr.app N0 N2q
  refine own_go st2 ?_
  have K2 : Keep h0 T2.heap [] := K1.trans Kc2 (allS (P := fun x => x ∈ _ ∨ _ ≤ x) (Or.inr (Nat.le_of_eq g1.symm)) all0)
  refine own_go (A := T2.setTop (mkF m 58 #[.val (.ref sr), .val (.int (0 : Int32)), .val (.int (2 : Int32)), .val (.ref b1), .val (.int (2 : Int32)), .unset] [(.ref b1)])) (fun t_ k_ => ?_) ?_
  · show Steps p.tables e below (T2.setTop (mkF m 12 #[.val (.ref sr), .val (.int (0 : Int32)), .val (.int (2 : Int32)), .val (.ref b1), .unset, .unset] [(.int (2 : Int32))])) t_
    refine XS.istore X2.here hx rfl (hb hby d5_12) rfl (l' := #[.val (.ref sr), .val (.int (0 : Int32)), .val (.int (2 : Int32)), .val (.ref b1), .val (.int (2 : Int32)), .unset]) rfl ?_
    show Steps p.tables e below (T2.setTop (mkF m 14 #[.val (.ref sr), .val (.int (0 : Int32)), .val (.int (2 : Int32)), .val (.ref b1), .val (.int (2 : Int32)), .unset] [])) t_
    refine XS.iload X2.here hx rfl (hb hby d5_14) rfl ?_
    show Steps p.tables e below (T2.setTop (mkF m 16 #[.val (.ref sr), .val (.int (0 : Int32)), .val (.int (2 : Int32)), .val (.ref b1), .val (.int (2 : Int32)), .unset] [(.int (2 : Int32))])) t_
    refine XS.iloadN X2.here hx rfl (hb hby d5_16) rfl ?_
    show Steps p.tables e below (T2.setTop (mkF m 17 #[.val (.ref sr), .val (.int (0 : Int32)), .val (.int (2 : Int32)), .val (.ref b1), .val (.int (2 : Int32)), .unset] [(.int (2 : Int32)), (.int (2 : Int32))])) t_
    refine XS.icmpYes X2.here hx rfl (pc0 := 17) (pc' := 57) rfl (hb hby d5_17) rfl (teq (by decide : (2 : Int32) = (2 : Int32))).1 (by decide) (by decide) ?_
    show Steps p.tables e below (T2.setTop (mkF m 57 #[.val (.ref sr), .val (.int (0 : Int32)), .val (.int (2 : Int32)), .val (.ref b1), .val (.int (2 : Int32)), .unset] [])) t_
    refine XS.aloadN X2.here hx rfl (hb hby d5_57) rfl rfl ?_
    exact k_
  obtain ⟨fs3, hr3, hrun3, hended3, hW3, hsame3⟩ := X2.leave (v := some (.ref b1)) (fun h => by rw [Bd.returns] at h; cases h)
  refine ⟨_, _, ?_, hrun3, hended3, _, _, rfl, ?_, ⟨_, rfl⟩, hW3, hsame3.mono (by decide) (by decide)⟩
  · exact own_retA X2 hx Bd.returns rfl rfl rfl (hb hby d5_58) hr3
  · show Q_rmCmp2 Z sr kc ch0 ch1 h0 n0 _ T2.heap _
    exact ⟨b1, k1, rfl, N2, K2, (Nat.le_of_eq g1.symm), r2_0⟩
theorem d7_0 : decode jdk_52_method_15_code 0 = .ok (.iload_n 1, 1) := by decide +kernel
theorem d7_1 : decode jdk_52_method_15_code 1 = .ok (.aload_n 0, 1) := by decide +kernel
theorem d7_2 : decode jdk_52_method_15_code 2 = .ok (.arraylength, 1) := by decide +kernel
theorem d7_3 : decode jdk_52_method_15_code 3 = .ok (.isub, 1) := by decide +kernel
theorem d7_4 : decode jdk_52_method_15_code 4 = .ok (.bipush 31, 2) := by decide +kernel
theorem d7_6 : decode jdk_52_method_15_code 6 = .ok (.iushr, 1) := by decide +kernel
theorem d7_7 : decode jdk_52_method_15_code 7 = .ok (.i2b, 1) := by decide +kernel
theorem d7_8 : decode jdk_52_method_15_code 8 = .ok (.ireturn, 1) := by decide +kernel
abbrev own_y6 : MethodName := ⟨"java/lang/StringUTF16", "coderFromArrayLen", "([BI)B"⟩
theorem ef_rmCfa2 (m : MethodId) (d : Addr) : entryFrame m #[(.ref d), (.int (2 : Int32))] 2 = mkF m 0 #[.val (.ref d), .val (.int (2 : Int32))] [] := by first | (simp [entryFrame, mkF, argsToLocals, Value.category]; done) | rfl
def Q_rmCfa2 (Z : State) (d : Addr) (k : ClassId) (vs : List Value) (h0 : Heap) (n0 : Nat) (v_ : Option Value) (h_ : Heap) (L_ : List Loc) : Prop := v_ = some (.int (0 : Int32)) ∧ Fr n0 L_ ∧ h_ = h0
set_option maxRecDepth 65536 in
set_option maxHeartbeats 40000000 in
theorem rmCfa2 (l : Launch) (Z : State) (a0 : Array Value) (hw : ∀ d ∈ tables_1, d.before a0 Z = true) (ws : List Jvm.Cond) (d : Addr) (k : ClassId) (vs : List Value) (h0 : Heap) (n0 : Nat) (Z0 : n0 ≤ h0.size) (u0 : Arv Z h0 d k .byte (2 : Int32) vs (.int (0 : Int32))) :
    MetFree l own_y6 (head1 (Jvm.Cond.code own_y6 jdk_52_method_15_code 2 (some .byte) :: ws) ({ frames := 0, cells := 0, slots := 0, locals := 0 } : Room)) (fun a_ U_ => a_ = #[(.ref d), (.int (2 : Int32))] ∧ Z.Warmed39 U_.vm ∧ U_.heap = h0) (fun _ _ _ _ _ => True) (fun _ U_ o_ U2_ => ∃ v_ L_, o_ = .returned v_ ∧ Q_rmCfa2 Z d k vs h0 n0 v_ U2_.heap L_ ∧ FrameEnd U_ o_ U2_ L_ ({ frames := 0, cells := 0, slots := 0, locals := 0 } : Room).cells ({ frames := 0, cells := 0, slots := 0, locals := 0 } : Room).slots) := by
  refine MetFree.of_bodySF (plainFor_of_name pn_2) hisR ?_
  intro p e s m args below meth c s₁ Bd hml0 hP hK
  obtain ⟨rfl, hZ, hh⟩ := hP
  have hx := Bd.exec
  have hby := Bd.bytes
  have hml : c.maxLocals = 2 := hml0
  have hown : s.vm.findClass "java/lang/StringUTF16" = some m.cls := findClass_of_methodNamed Bd.named
  have hnm := (name_of_methodNamed Bd.named Bd.method).1
  have X0 : Stand p l e ({ frames := 0, cells := 0, slots := 0, locals := 0 } : Room) s m #[(.ref d), (.int (2 : Int32))] below meth c s₁ [] 0 0 := Stand.of_body Bd
  have e0 : s₁.heap = h0 := by rw [← hh, Bd.state]; rfl
  have N0 := Fr.nil n0
  refine own_go (A := s₁.setTop (mkF m 0 #[.val (.ref d), .val (.int (2 : Int32))] [])) (fun t_ k_ => castTop (ef_rmCfa2 m d) k_) ?_
  obtain ⟨cl1, Ar1, q1, S1, M1, H1, G1⟩ := id u0
  refine own_go (A := s₁.setTop (mkF m 8 #[.val (.ref d), .val (.int (2 : Int32))] [(.int ((((0 : Int32)).toUInt32 >>> ((31 : Int32) &&& 31).toUInt32).toInt32).toInt8.toInt32)])) (fun t_ k_ => ?_) ?_
  · show Steps p.tables e below (s₁.setTop (mkF m 0 #[.val (.ref d), .val (.int (2 : Int32))] [])) t_
    refine XS.iloadN X0.here hx rfl (hb hby d7_0) rfl ?_
    show Steps p.tables e below (s₁.setTop (mkF m 1 #[.val (.ref d), .val (.int (2 : Int32))] [(.int (2 : Int32))])) t_
    refine XS.aloadN X0.here hx rfl (hb hby d7_1) rfl rfl ?_
    show Steps p.tables e below (s₁.setTop (mkF m 2 #[.val (.ref d), .val (.int (2 : Int32))] [(.ref d), (.int (2 : Int32))])) t_
    refine X0.arraylength hx (by rw [e0]; exact Ar1.1) (State.isArrayOf_alike hZ.alike Ar1.2.1) (g := (mkF m 2 #[.val (.ref d), .val (.int (2 : Int32))] [(.ref d), (.int (2 : Int32))])) rfl rfl (hb hby d7_2) _ ?_
    rw [len_of S1 M1]
    show Steps p.tables e below (s₁.setTop (mkF m 3 #[.val (.ref d), .val (.int (2 : Int32))] [(.int (2 : Int32)), (.int (2 : Int32))])) t_
    refine XS.isub X0.here hx rfl (hb hby d7_3) rfl ?_
    show Steps p.tables e below (s₁.setTop (mkF m 4 #[.val (.ref d), .val (.int (2 : Int32))] [(.int (0 : Int32))])) t_
    refine XS.bipush X0.here hx rfl (hb hby d7_4) ?_
    show Steps p.tables e below (s₁.setTop (mkF m 6 #[.val (.ref d), .val (.int (2 : Int32))] [(.int (31 : Int32)), (.int (0 : Int32))])) t_
    refine XS.iushr X0.here hx rfl (hb hby d7_6) rfl ?_
    show Steps p.tables e below (s₁.setTop (mkF m 7 #[.val (.ref d), .val (.int (2 : Int32))] [(.int (((0 : Int32)).toUInt32 >>> ((31 : Int32) &&& 31).toUInt32).toInt32)])) t_
    refine XS.i2b X0.here hx rfl (hb hby d7_7) rfl ?_
    exact k_
  obtain ⟨fs2, hr2, hrun2, hended2, hW2, hsame2⟩ := X0.leave (v := some (.int (nar .byte ((((0 : Int32)).toUInt32 >>> ((31 : Int32) &&& 31).toUInt32).toInt32).toInt8.toInt32))) (fun h => by rw [Bd.returns] at h; cases h)
  refine ⟨_, _, ?_, hrun2, hended2, _, _, rfl, ?_, ⟨_, rfl⟩, hW2, hsame2.mono (by decide) (by decide)⟩
  · exact retN X0 hx (t := .byte) Bd.returns (by simp) (hb hby d7_8) hr2
  · show Q_rmCfa2 Z d k vs h0 n0 _ s₁.heap _
    rw [e0]
    exact ⟨rfl, N0, rfl⟩
theorem d3_0 : decode jdk_42_method_149_code 0 = .ok (.aload_n 0, 1) := by decide +kernel
theorem d3_1 : decode jdk_42_method_149_code 1 = .ok (.invokespecial 1, 3) := by decide +kernel
theorem d3_4 : decode jdk_42_method_149_code 4 = .ok (.iload_n 3, 1) := by decide +kernel
theorem d3_5 : decode jdk_42_method_149_code 5 = .ok (.ifCond .ne 22, 3) := by decide +kernel
theorem d3_27 : decode jdk_42_method_149_code 27 = .ok (.getstatic 38, 3) := by decide +kernel
theorem d3_30 : decode jdk_42_method_149_code 30 = .ok (.ifCond .eq 28, 3) := by decide +kernel
theorem d3_33 : decode jdk_42_method_149_code 33 = .ok (.aload_n 1, 1) := by decide +kernel
theorem d3_34 : decode jdk_42_method_149_code 34 = .ok (.iload_n 2, 1) := by decide +kernel
theorem d3_35 : decode jdk_42_method_149_code 35 = .ok (.iload_n 3, 1) := by decide +kernel
theorem pd_4 : parseMethodDescriptor "([CII)[B" = some ⟨[(.array .char), .int, .int], some (.array .byte)⟩ := by decide +kernel
theorem d3_36 : decode jdk_42_method_149_code 36 = .ok (.invokestatic 177, 3) := by decide +kernel
theorem d3_39 : decode jdk_42_method_149_code 39 = .ok (.astore 5, 2) := by decide +kernel
theorem d3_41 : decode jdk_42_method_149_code 41 = .ok (.aload_n 0, 1) := by decide +kernel
theorem d3_42 : decode jdk_42_method_149_code 42 = .ok (.aload 5, 2) := by decide +kernel
theorem d3_44 : decode jdk_42_method_149_code 44 = .ok (.iload_n 3, 1) := by decide +kernel
theorem pd_5 : parseMethodDescriptor "([BI)B" = some ⟨[(.array .byte), .int], some .byte⟩ := by decide +kernel
theorem d3_45 : decode jdk_42_method_149_code 45 = .ok (.invokestatic 47, 3) := by decide +kernel
theorem d3_48 : decode jdk_42_method_149_code 48 = .ok (.putfield 15, 3) := by decide +kernel
theorem d3_51 : decode jdk_42_method_149_code 51 = .ok (.aload_n 0, 1) := by decide +kernel
theorem d3_52 : decode jdk_42_method_149_code 52 = .ok (.aload 5, 2) := by decide +kernel
theorem d3_54 : decode jdk_42_method_149_code 54 = .ok (.putfield 9, 3) := by decide +kernel
theorem d3_57 : decode jdk_42_method_149_code 57 = .ok (.return_, 1) := by decide +kernel
abbrev own_y7 : MethodName := ⟨"java/lang/String", "<init>", "([CIILjava/lang/Void;)V"⟩
theorem ef_rmSCV2 (m : MethodId) (a : Addr) (sr : Addr) : entryFrame m #[(.ref a), (.ref sr), (.int (0 : Int32)), (.int (2 : Int32)), .null] 6 = mkF m 0 #[.val (.ref a), .val (.ref sr), .val (.int (0 : Int32)), .val (.int (2 : Int32)), .val .null, .unset] [] := by first | (simp [entryFrame, mkF, argsToLocals, Value.category]; done) | rfl
def Q_rmSCV2 (Z : State) (a : Addr) (sr : Addr) (cs : Int32) (kc : ClassId) (ch0 : Int32) (ch1 : Int32) (h0 : Heap) (n0 : Nat) (v_ : Option Value) (h_ : Heap) (L_ : List Loc) : Prop := ∃ d : Addr, ∃ k : ClassId, v_ = none ∧ Fr n0 L_ ∧ Keep h0 h_ [a] ∧ h0.size ≤ d ∧ Fld Z h_ a "java/lang/String" "value" "[B" (.ref d) ∧ Fld Z h_ a "java/lang/String" "coder" "B" (.int (0 : Int32)) ∧ Arv Z h_ d k .byte (2 : Int32) [(.int (ch0).toInt8.toInt32), (.int (ch1).toInt8.toInt32)] (.int (0 : Int32))
set_option maxRecDepth 65536 in
set_option maxHeartbeats 40000000 in
theorem rmSCV2 (l : Launch) (Z : State) (a0 : Array Value) (hw : ∀ d ∈ tables_1, d.before a0 Z = true) (ws : List Jvm.Cond) (a : Addr) (sr : Addr) (cs : Int32) (kc : ClassId) (ch0 : Int32) (ch1 : Int32) (h0 : Heap) (n0 : Nat) (Z0 : n0 ≤ h0.size) (O0 : Old Z n0 h0) (u1 : Sta Z Z.heap "java/lang/String" "COMPACT_STRINGS" "Z" (.int cs)) (hcs : ¬ (cs = (0 : Int32))) (u3 : Exa Z h0 a "java/lang/String") (u4 : Fld Z h0 a "java/lang/String" "value" "[B" .null) (u5 : Fld Z h0 a "java/lang/String" "coder" "B" (.int (0 : Int32))) (u6 : n0 ≤ a) (u7 : Arv Z h0 sr kc .char (2 : Int32) [(.int ch0), (.int ch1)] (.int (0 : Int32))) (hch0 : ¬ ((255 : Int32) < ch0)) (hch1 : ¬ ((255 : Int32) < ch1)) :
    MetFree l own_y7 (head1 (Jvm.Cond.code own_y7 jdk_42_method_149_code 6 none :: ws) ({ frames := 2, cells := 1, slots := 2, locals := 35 } : Room)) (fun a_ U_ => a_ = #[(.ref a), (.ref sr), (.int (0 : Int32)), (.int (2 : Int32)), .null] ∧ Z.Warmed39 U_.vm ∧ U_.heap = h0) (fun _ _ _ _ _ => True) (fun _ U_ o_ U2_ => ∃ v_ L_, o_ = .returned v_ ∧ Q_rmSCV2 Z a sr cs kc ch0 ch1 h0 n0 v_ U2_.heap L_ ∧ FrameEnd U_ o_ U2_ L_ ({ frames := 2, cells := 1, slots := 2, locals := 35 } : Room).cells ({ frames := 2, cells := 1, slots := 2, locals := 35 } : Room).slots) := by
  refine MetFree.of_bodySF (plainFor_of_name pn_1) hisR ?_
  intro p e s m args below meth c s₁ Bd hml0 hP hK
  obtain ⟨rfl, hZ, hh⟩ := hP
  have hx := Bd.exec
  have hby := Bd.bytes
  have hml : c.maxLocals = 6 := hml0
  have hown : s.vm.findClass "java/lang/String" = some m.cls := findClass_of_methodNamed Bd.named
  have hnm := (name_of_methodNamed Bd.named Bd.method).1
  have X0 : Stand p l e ({ frames := 2, cells := 1, slots := 2, locals := 35 } : Room) s m #[(.ref a), (.ref sr), (.int (0 : Int32)), (.int (2 : Int32)), .null] below meth c s₁ [] 0 0 := Stand.of_body Bd
  have e0 : s₁.heap = h0 := by rw [← hh, Bd.state]; rfl
  have N0 := Fr.nil n0
  refine own_go (A := s₁.setTop (mkF m 0 #[.val (.ref a), .val (.ref sr), .val (.int (0 : Int32)), .val (.int (2 : Int32)), .val .null, .unset] [])) (fun t_ k_ => castTop (ef_rmSCV2 m a sr) k_) ?_
  refine own_go (A := s₁.setTop (mkF m 1 #[.val (.ref a), .val (.ref sr), .val (.int (0 : Int32)), .val (.int (2 : Int32)), .val .null, .unset] [(.ref a)])) (fun t_ k_ => ?_) ?_
  · show Steps p.tables e below (s₁.setTop (mkF m 0 #[.val (.ref a), .val (.ref sr), .val (.int (0 : Int32)), .val (.int (2 : Int32)), .val .null, .unset] [])) t_
    refine XS.aloadN X0.here hx rfl (hb hby d3_0) rfl rfl ?_
    exact k_
  obtain ⟨T1, X1, e1, st1⟩ := initO X0 hx hZ hown (own_w hw 15 rfl) (own_w hw 16 rfl) (own_w hw 17 rfl) e0 (g := (mkF m 1 #[.val (.ref a), .val (.ref sr), .val (.int (0 : Int32)), .val (.int (2 : Int32)), .val .null, .unset] [(.ref a)])) rfl (by rw [hml]; rfl) rfl (hb hby d3_1) (by decide) (W := 0) (by show 2 * 0 + _ ≤ _; exact Nat.le_of_eq rfl) (by decide)
  refine own_go st1 ?_
  refine own_go (A := T1.setTop (mkF m 27 #[.val (.ref a), .val (.ref sr), .val (.int (0 : Int32)), .val (.int (2 : Int32)), .val .null, .unset] [])) (fun t_ k_ => ?_) ?_
  · show Steps p.tables e below (T1.setTop (mkF m 4 #[.val (.ref a), .val (.ref sr), .val (.int (0 : Int32)), .val (.int (2 : Int32)), .val .null, .unset] [])) t_
    refine XS.iloadN X1.here hx rfl (hb hby d3_4) rfl ?_
    show Steps p.tables e below (T1.setTop (mkF m 5 #[.val (.ref a), .val (.ref sr), .val (.int (0 : Int32)), .val (.int (2 : Int32)), .val .null, .unset] [(.int (2 : Int32))])) t_
    refine XS.ifYes X1.here hx rfl (pc0 := 5) (pc' := 27) rfl (hb hby d3_5) rfl ((if0 _ _).trans (feq (by decide : ¬ ((2 : Int32) = (0 : Int32)))).2) (by decide) (by decide) ?_
    exact k_
  obtain ⟨T2, X2, e2, st2⟩ := getS2 X1 hx hZ hown (host := "") (Or.inl (own_w hw 27 rfl)) Via.refl e1 (u1.ext O0.2) (g := (mkF m 27 #[.val (.ref a), .val (.ref sr), .val (.int (0 : Int32)), .val (.int (2 : Int32)), .val .null, .unset] [])) rfl (hb hby d3_27)
  refine own_go st2 ?_
  refine own_go (A := T2.setTop (mkF m 36 #[.val (.ref a), .val (.ref sr), .val (.int (0 : Int32)), .val (.int (2 : Int32)), .val .null, .unset] [(.int (2 : Int32)), (.int (0 : Int32)), (.ref sr)])) (fun t_ k_ => ?_) ?_
  · show Steps p.tables e below (T2.setTop (mkF m 30 #[.val (.ref a), .val (.ref sr), .val (.int (0 : Int32)), .val (.int (2 : Int32)), .val .null, .unset] [(.int cs)])) t_
    refine XS.ifNo X2.here hx rfl (hb hby d3_30) rfl ((if0 _ _).trans (feq hcs).1) ?_
    show Steps p.tables e below (T2.setTop (mkF m 33 #[.val (.ref a), .val (.ref sr), .val (.int (0 : Int32)), .val (.int (2 : Int32)), .val .null, .unset] [])) t_
    refine XS.aloadN X2.here hx rfl (hb hby d3_33) rfl rfl ?_
    show Steps p.tables e below (T2.setTop (mkF m 34 #[.val (.ref a), .val (.ref sr), .val (.int (0 : Int32)), .val (.int (2 : Int32)), .val .null, .unset] [(.ref sr)])) t_
    refine XS.iloadN X2.here hx rfl (hb hby d3_34) rfl ?_
    show Steps p.tables e below (T2.setTop (mkF m 35 #[.val (.ref a), .val (.ref sr), .val (.int (0 : Int32)), .val (.int (2 : Int32)), .val .null, .unset] [(.int (0 : Int32)), (.ref sr)])) t_
    refine XS.iloadN X2.here hx rfl (hb hby d3_35) rfl ?_
    exact k_
  obtain ⟨_, _, ⟨T3, L3, k3, n3⟩, -, X3, ⟨Lc3, hQ3, l3, y3, z3⟩, st3⟩ := Jvm.LawKit.callS X2 hx (y := own_y5) hown (mvT hZ (own_w hw 28 rfl)) (mvT hZ (own_w hw 29 rfl)) (mvT hZ (own_w hw 30 rfl)) (mvT hZ (own_w hw 31 rfl)) (by decide) (backOf (W := 0) (rmCmp2 l Z a0 hw [] sr kc ch0 ch1 h0 n0 Z0 u7 hch0 hch1) hZ (own_w hw 31 rfl) (own_w hw 30 rfl) (by decide) (by decide)) (g := (mkF m 36 #[.val (.ref a), .val (.ref sr), .val (.int (0 : Int32)), .val (.int (2 : Int32)), .val .null, .unset] [(.int (2 : Int32)), (.int (0 : Int32)), (.ref sr)])) rfl (by rw [hml]; rfl) (argsL := [(.ref sr), (.int (0 : Int32)), (.int (2 : Int32))]) (rest := []) (lenOf pd_4 rfl) rfl (by show 2 * 0 + _ ≤ _; exact Nat.le_of_eq rfl) (hb hby d3_36) (fun _ _ => ⟨rfl, e2, (by decide : 0 + 1 ≤ _), (by decide : 0 + 2 ≤ _)⟩)
  dsimp only [Pt.U, Pt.locs, Pt.cells, Pt.slots] at X3 l3 y3 z3 st3 hQ3
  subst l3 y3 z3
  obtain ⟨d_3, k_3, rfl, N3q, Kc3, r3_0, r3_1⟩ := hQ3
  have N3 := Fr.app N0 N3q
  refine own_go st3 ?_
  have K3 : Keep h0 T3.heap [a] := (Keep.refl h0 [a]).trans Kc3 all0
  have O3 := O0.keep Kc3 all0
  refine own_go (A := T3.setTop (mkF m 45 #[.val (.ref a), .val (.ref sr), .val (.int (0 : Int32)), .val (.int (2 : Int32)), .val .null, .val (.ref d_3)] [(.int (2 : Int32)), (.ref d_3), (.ref a)])) (fun t_ k_ => ?_) ?_
  · show Steps p.tables e below (T3.setTop (mkF m 39 #[.val (.ref a), .val (.ref sr), .val (.int (0 : Int32)), .val (.int (2 : Int32)), .val .null, .unset] [(.ref d_3)])) t_
    refine XS.astore X3.here hx rfl (hb hby d3_39) rfl rfl (l' := #[.val (.ref a), .val (.ref sr), .val (.int (0 : Int32)), .val (.int (2 : Int32)), .val .null, .val (.ref d_3)]) rfl ?_
    show Steps p.tables e below (T3.setTop (mkF m 41 #[.val (.ref a), .val (.ref sr), .val (.int (0 : Int32)), .val (.int (2 : Int32)), .val .null, .val (.ref d_3)] [])) t_
    refine XS.aloadN X3.here hx rfl (hb hby d3_41) rfl rfl ?_
    show Steps p.tables e below (T3.setTop (mkF m 42 #[.val (.ref a), .val (.ref sr), .val (.int (0 : Int32)), .val (.int (2 : Int32)), .val .null, .val (.ref d_3)] [(.ref a)])) t_
    refine XS.aload X3.here hx rfl (hb hby d3_42) rfl rfl ?_
    show Steps p.tables e below (T3.setTop (mkF m 44 #[.val (.ref a), .val (.ref sr), .val (.int (0 : Int32)), .val (.int (2 : Int32)), .val .null, .val (.ref d_3)] [(.ref d_3), (.ref a)])) t_
    refine XS.iloadN X3.here hx rfl (hb hby d3_44) rfl ?_
    exact k_
  obtain ⟨_, _, ⟨T4, L4, k4, n4⟩, -, X4, ⟨Lc4, hQ4, l4, y4, z4⟩, st4⟩ := Jvm.LawKit.callS X3 hx (y := own_y6) hown (mvT hZ (own_w hw 35 rfl)) (mvT hZ (own_w hw 36 rfl)) (mvT hZ (own_w hw 30 rfl)) (mvT hZ (own_w hw 37 rfl)) (by decide) (backOf (W := 1) (rmCfa2 l Z a0 hw [] d_3 k_3 [(.int (ch0).toInt8.toInt32), (.int (ch1).toInt8.toInt32)] T3.heap n0 (Nat.le_trans Z0 K3.1) r3_1) hZ (own_w hw 37 rfl) (own_w hw 30 rfl) (by decide) (by decide)) (g := (mkF m 45 #[.val (.ref a), .val (.ref sr), .val (.int (0 : Int32)), .val (.int (2 : Int32)), .val .null, .val (.ref d_3)] [(.int (2 : Int32)), (.ref d_3), (.ref a)])) rfl (by rw [hml]; rfl) (argsL := [(.ref d_3), (.int (2 : Int32))]) (rest := [(.ref a)]) (lenOf pd_5 rfl) rfl (by show 2 * 0 + _ ≤ _; exact Nat.le_of_eq rfl) (hb hby d3_45) (fun _ _ => ⟨rfl, rfl, (by decide : 1 + 0 ≤ _), (by decide : 2 + 0 ≤ _)⟩)
  dsimp only [Pt.U, Pt.locs, Pt.cells, Pt.slots] at X4 l4 y4 z4 st4 hQ4
  subst l4 y4 z4
  obtain ⟨rfl, N4q, eh4⟩ := hQ4
  have N4 := Fr.app N3 N4q
  refine own_go st4 ?_
  obtain ⟨T5, h5, X5, e5, W5, st5⟩ := putFN X4 hx hZ hown (own_w hw 25 rfl) Via.refl eh4 (u5.keep Kc3 nin0) (u3.keep Kc3) (Or.inr ⟨(own_w hw 21 rfl), rfl, hnm⟩) (own_w hw 5 rfl) (ty := .byte) (v' := (.int (0 : Int32))) (by decide) rfl rfl (g := (mkF m 48 #[.val (.ref a), .val (.ref sr), .val (.int (0 : Int32)), .val (.int (2 : Int32)), .val .null, .val (.ref d_3)] [(.int (0 : Int32)), (.ref a)])) rfl rfl (hb hby d3_48)
  have Fw5 : Fld Z h5 a "java/lang/String" "coder" "B" (.int (0 : Int32)) := (u5.keep Kc3 nin0).same W5
  refine own_go st5 ?_
  have K5 : Keep h0 h5 [a] := K3.wr W5 (Or.inl (List.mem_of_getElem? (i := 0) rfl))
  have O5 := O3.wr W5 u6
  have N5 := Fr.snoc X5 N4 u6
  refine own_go (A := T5.setTop (mkF m 54 #[.val (.ref a), .val (.ref sr), .val (.int (0 : Int32)), .val (.int (2 : Int32)), .val .null, .val (.ref d_3)] [(.ref d_3), (.ref a)])) (fun t_ k_ => ?_) ?_
  · show Steps p.tables e below (T5.setTop (mkF m 51 #[.val (.ref a), .val (.ref sr), .val (.int (0 : Int32)), .val (.int (2 : Int32)), .val .null, .val (.ref d_3)] [])) t_
    refine XS.aloadN X5.here hx rfl (hb hby d3_51) rfl rfl ?_
    show Steps p.tables e below (T5.setTop (mkF m 52 #[.val (.ref a), .val (.ref sr), .val (.int (0 : Int32)), .val (.int (2 : Int32)), .val .null, .val (.ref d_3)] [(.ref a)])) t_
    refine XS.aload X5.here hx rfl (hb hby d3_52) rfl rfl ?_
    exact k_
  obtain ⟨T6, h6, X6, e6, W6, st6⟩ := putF X5 hx hZ hown (host := "") (Or.inl (own_w hw 24 rfl)) Via.refl e5 ((u4.keep Kc3 nin0).other W5 (Or.inr (slot_ne (Or.inr (own_w hw 20 rfl)) (Or.inr (own_w hw 21 rfl)) (by decide) (t := (.array .byte)) (t' := .byte) (by decide) (by decide)))) ((u3.keep Kc3).wr W5) (Or.inr ⟨(own_w hw 20 rfl), rfl, hnm⟩) (own_w hw 5 rfl) (ty := (.array .byte)) (by decide) rfl rfl (g := (mkF m 54 #[.val (.ref a), .val (.ref sr), .val (.int (0 : Int32)), .val (.int (2 : Int32)), .val .null, .val (.ref d_3)] [(.ref d_3), (.ref a)])) rfl rfl (hb hby d3_54)
  have Fw6 : Fld Z h6 a "java/lang/String" "value" "[B" (.ref d_3) := ((u4.keep Kc3 nin0).other W5 (Or.inr (slot_ne (Or.inr (own_w hw 20 rfl)) (Or.inr (own_w hw 21 rfl)) (by decide) (t := (.array .byte)) (t' := .byte) (by decide) (by decide)))).same W6
  refine own_go st6 ?_
  have K6 : Keep h0 h6 [a] := K5.wr W6 (Or.inl (List.mem_of_getElem? (i := 0) rfl))
  have O6 := O5.wr W6 u6
  have N6 := Fr.snoc X6 N5 u6
  obtain ⟨fs7, hr7, hrun7, hended7, hW7, hsame7⟩ := X6.leave (v := none) (fun _ => rfl)
  refine ⟨_, _, ?_, hrun7, hended7, _, _, rfl, ?_, ⟨_, rfl⟩, hW7, hsame7.mono (by decide) (by decide)⟩
  · exact X6.returnOut hx Bd.returns (hb hby d3_57) hr7
  · show Q_rmSCV2 Z a sr cs kc ch0 ch1 h0 n0 _ T6.heap _
    rw [e6]
    exact ⟨d_3, k_3, rfl, N6, K6, r3_0, Fw6, (Fw5.other W6 (Or.inr (slot_ne (Or.inr (own_w hw 21 rfl)) (Or.inr (own_w hw 20 rfl)) (by decide) (t := .byte) (t' := (.array .byte)) (by decide) (by decide)))), ((r3_1.other W5 (Ne.symm (Nat.ne_of_lt (Nat.lt_of_lt_of_le u3.lt r3_0)))).other W6 (Ne.symm (Nat.ne_of_lt (Nat.lt_of_lt_of_le u3.lt r3_0))))⟩
theorem d2_0 : decode jdk_42_method_3_code 0 = .ok (.aload_n 0, 1) := by decide +kernel
theorem d2_1 : decode jdk_42_method_3_code 1 = .ok (.aload_n 1, 1) := by decide +kernel
theorem d2_2 : decode jdk_42_method_3_code 2 = .ok (.iconst 0, 1) := by decide +kernel
theorem d2_3 : decode jdk_42_method_3_code 3 = .ok (.aload_n 1, 1) := by decide +kernel
theorem d2_4 : decode jdk_42_method_3_code 4 = .ok (.arraylength, 1) := by decide +kernel
theorem d2_5 : decode jdk_42_method_3_code 5 = .ok (.aconst_null, 1) := by decide +kernel
theorem pd_6 : parseMethodDescriptor "([CIILjava/lang/Void;)V" = some ⟨[(.array .char), .int, .int, (.object "java/lang/Void")], none⟩ := by decide +kernel
theorem d2_6 : decode jdk_42_method_3_code 6 = .ok (.invokespecial 27, 3) := by decide +kernel
theorem d2_9 : decode jdk_42_method_3_code 9 = .ok (.return_, 1) := by decide +kernel
abbrev own_y8 : MethodName := ⟨"java/lang/String", "<init>", "([C)V"⟩
theorem ef_rmSC2 (m : MethodId) (a : Addr) (sr : Addr) : entryFrame m #[(.ref a), (.ref sr)] 2 = mkF m 0 #[.val (.ref a), .val (.ref sr)] [] := by first | (simp [entryFrame, mkF, argsToLocals, Value.category]; done) | rfl
def Q_rmSC2 (Z : State) (a : Addr) (sr : Addr) (cs : Int32) (kc : ClassId) (ch0 : Int32) (ch1 : Int32) (h0 : Heap) (n0 : Nat) (v_ : Option Value) (h_ : Heap) (L_ : List Loc) : Prop := ∃ d : Addr, ∃ k : ClassId, v_ = none ∧ Fr n0 L_ ∧ Keep h0 h_ [a] ∧ h0.size ≤ d ∧ Fld Z h_ a "java/lang/String" "value" "[B" (.ref d) ∧ Fld Z h_ a "java/lang/String" "coder" "B" (.int (0 : Int32)) ∧ Arv Z h_ d k .byte (2 : Int32) [(.int (ch0).toInt8.toInt32), (.int (ch1).toInt8.toInt32)] (.int (0 : Int32))
set_option maxRecDepth 65536 in
set_option maxHeartbeats 40000000 in
theorem rmSC2 (l : Launch) (Z : State) (a0 : Array Value) (hw : ∀ d ∈ tables_1, d.before a0 Z = true) (ws : List Jvm.Cond) (a : Addr) (sr : Addr) (cs : Int32) (kc : ClassId) (ch0 : Int32) (ch1 : Int32) (h0 : Heap) (n0 : Nat) (Z0 : n0 ≤ h0.size) (O0 : Old Z n0 h0) (u1 : Sta Z Z.heap "java/lang/String" "COMPACT_STRINGS" "Z" (.int cs)) (hcs : ¬ (cs = (0 : Int32))) (u3 : Exa Z h0 a "java/lang/String") (u4 : Fld Z h0 a "java/lang/String" "value" "[B" .null) (u5 : Fld Z h0 a "java/lang/String" "coder" "B" (.int (0 : Int32))) (u6 : n0 ≤ a) (u7 : Arv Z h0 sr kc .char (2 : Int32) [(.int ch0), (.int ch1)] (.int (0 : Int32))) (hch0 : ¬ ((255 : Int32) < ch0)) (hch1 : ¬ ((255 : Int32) < ch1)) :
    MetFree l own_y8 (head1 (Jvm.Cond.code own_y8 jdk_42_method_3_code 2 none :: ws) ({ frames := 3, cells := 1, slots := 2, locals := 52 } : Room)) (fun a_ U_ => a_ = #[(.ref a), (.ref sr)] ∧ Z.Warmed39 U_.vm ∧ U_.heap = h0) (fun _ _ _ _ _ => True) (fun _ U_ o_ U2_ => ∃ v_ L_, o_ = .returned v_ ∧ Q_rmSC2 Z a sr cs kc ch0 ch1 h0 n0 v_ U2_.heap L_ ∧ FrameEnd U_ o_ U2_ L_ ({ frames := 3, cells := 1, slots := 2, locals := 52 } : Room).cells ({ frames := 3, cells := 1, slots := 2, locals := 52 } : Room).slots) := by
  refine MetFree.of_bodySF (plainFor_of_name pn_1) hisR ?_
  intro p e s m args below meth c s₁ Bd hml0 hP hK
  obtain ⟨rfl, hZ, hh⟩ := hP
  have hx := Bd.exec
  have hby := Bd.bytes
  have hml : c.maxLocals = 2 := hml0
  have hown : s.vm.findClass "java/lang/String" = some m.cls := findClass_of_methodNamed Bd.named
  have hnm := (name_of_methodNamed Bd.named Bd.method).1
  have X0 : Stand p l e ({ frames := 3, cells := 1, slots := 2, locals := 52 } : Room) s m #[(.ref a), (.ref sr)] below meth c s₁ [] 0 0 := Stand.of_body Bd
  have e0 : s₁.heap = h0 := by rw [← hh, Bd.state]; rfl
  have N0 := Fr.nil n0
  refine own_go (A := s₁.setTop (mkF m 0 #[.val (.ref a), .val (.ref sr)] [])) (fun t_ k_ => castTop (ef_rmSC2 m a sr) k_) ?_
  obtain ⟨cl1, Ar1, q1, S1, M1, H1, G1⟩ := id u7
  refine own_go (A := s₁.setTop (mkF m 6 #[.val (.ref a), .val (.ref sr)] [.null, (.int (2 : Int32)), (.int (0 : Int32)), (.ref sr), (.ref a)])) (fun t_ k_ => ?_) ?_
  · show Steps p.tables e below (s₁.setTop (mkF m 0 #[.val (.ref a), .val (.ref sr)] [])) t_
    refine XS.aloadN X0.here hx rfl (hb hby d2_0) rfl rfl ?_
    show Steps p.tables e below (s₁.setTop (mkF m 1 #[.val (.ref a), .val (.ref sr)] [(.ref a)])) t_
    refine XS.aloadN X0.here hx rfl (hb hby d2_1) rfl rfl ?_
    show Steps p.tables e below (s₁.setTop (mkF m 2 #[.val (.ref a), .val (.ref sr)] [(.ref sr), (.ref a)])) t_
    refine XS.iconst X0.here hx rfl (hb hby d2_2) ?_
    show Steps p.tables e below (s₁.setTop (mkF m 3 #[.val (.ref a), .val (.ref sr)] [(.int (0 : Int32)), (.ref sr), (.ref a)])) t_
    refine XS.aloadN X0.here hx rfl (hb hby d2_3) rfl rfl ?_
    show Steps p.tables e below (s₁.setTop (mkF m 4 #[.val (.ref a), .val (.ref sr)] [(.ref sr), (.int (0 : Int32)), (.ref sr), (.ref a)])) t_
    refine X0.arraylength hx (by rw [e0]; exact Ar1.1) (State.isArrayOf_alike hZ.alike Ar1.2.1) (g := (mkF m 4 #[.val (.ref a), .val (.ref sr)] [(.ref sr), (.int (0 : Int32)), (.ref sr), (.ref a)])) rfl rfl (hb hby d2_4) _ ?_
    rw [len_of S1 M1]
    show Steps p.tables e below (s₁.setTop (mkF m 5 #[.val (.ref a), .val (.ref sr)] [(.int (2 : Int32)), (.int (0 : Int32)), (.ref sr), (.ref a)])) t_
    refine XS.aconstNull X0.here hx rfl (hb hby d2_5) ?_
    exact k_
  obtain ⟨_, _, ⟨T2, L2, k2, n2⟩, -, X2, ⟨Lc2, hQ2, l2, y2, z2⟩, st2⟩ := X0.specialBack hx (y := own_y7) rfl hown (mvT hZ (own_w hw 11 rfl)) (mvT hZ (own_w hw 12 rfl)) (mvT hZ (own_w hw 14 rfl)) (by decide) (backOf (W := 0) (rmSCV2 l Z a0 hw [] a sr cs kc ch0 ch1 h0 n0 Z0 O0 u1 hcs u3 u4 u5 u6 u7 hch0 hch1) hZ (own_w hw 14 rfl) (own_w hw 6 rfl) (by decide) (by decide)) (g := (mkF m 6 #[.val (.ref a), .val (.ref sr)] [.null, (.int (2 : Int32)), (.int (0 : Int32)), (.ref sr), (.ref a)])) rfl (by rw [hml]; rfl) (Steps.refl _) (a := a) (argsL := [(.ref sr), (.int (0 : Int32)), (.int (2 : Int32)), .null]) (rest := []) (lenOf pd_6 rfl) rfl (by show 2 * 0 + _ ≤ _; exact Nat.le_of_eq rfl) (hb hby d2_6) (fun _ _ => ⟨rfl, e0, (by decide : 0 + 1 ≤ _), (by decide : 0 + 2 ≤ _)⟩)
  dsimp only [Pt.U, Pt.locs, Pt.cells, Pt.slots] at X2 l2 y2 z2 st2 hQ2
  subst l2 y2 z2
  obtain ⟨d_2, k_2, rfl, N2q, Kc2, r2_0, r2_1, r2_2, r2_3⟩ := hQ2
  have N2 := Fr.app N0 N2q
  refine own_via st2 ?_
  have K2 : Keep h0 T2.heap [a] := (Keep.refl h0 [a]).trans Kc2 (allS (P := fun x => x ∈ _ ∨ _ ≤ x) (Or.inl (List.mem_of_getElem? (i := 0) rfl)) all0)
  have O2 := O0.keep Kc2 (allS (P := fun x => n0 ≤ x) u6 all0)
  obtain ⟨fs3, hr3, hrun3, hended3, hW3, hsame3⟩ := X2.leave (v := none) (fun _ => rfl)
  refine ⟨_, _, ?_, hrun3, hended3, _, _, rfl, ?_, ⟨_, rfl⟩, hW3, hsame3.mono (by decide) (by decide)⟩
  · exact X2.returnOut hx Bd.returns (hb hby d2_9) hr3
  · show Q_rmSC2 Z a sr cs kc ch0 ch1 h0 n0 _ T2.heap _
    exact ⟨d_2, k_2, rfl, N2, K2, r2_0, r2_1, r2_2, r2_3⟩
theorem ef_rmCmpL3 (m : MethodId) (sr : Addr) (ds : Addr) : entryFrame m #[(.ref sr), (.int (0 : Int32)), (.ref ds), (.int (0 : Int32)), (.int (3 : Int32))] 7 = mkF m 0 #[.val (.ref sr), .val (.int (0 : Int32)), .val (.ref ds), .val (.int (0 : Int32)), .val (.int (3 : Int32)), .unset, .unset] [] := by first | (simp [entryFrame, mkF, argsToLocals, Value.category]; done) | rfl
def Q_rmCmpL3 (Z : State) (sr : Addr) (ds : Addr) (kc : ClassId) (kb : ClassId) (ch0 : Int32) (ch1 : Int32) (ch2 : Int32) (h0 : Heap) (n0 : Nat) (v_ : Option Value) (h_ : Heap) (L_ : List Loc) : Prop := v_ = some (.int (3 : Int32)) ∧ Fr n0 L_ ∧ Keep h0 h_ [ds] ∧ Arv Z h_ ds kb .byte (3 : Int32) [(.int (ch0).toInt8.toInt32), (.int (ch1).toInt8.toInt32), (.int (ch2).toInt8.toInt32)] (.int (0 : Int32))
set_option maxRecDepth 65536 in
set_option maxHeartbeats 40000000 in
theorem rmCmpL3 (l : Launch) (Z : State) (a0 : Array Value) (hw : ∀ d ∈ tables_1, d.before a0 Z = true) (ws : List Jvm.Cond) (sr : Addr) (ds : Addr) (kc : ClassId) (kb : ClassId) (ch0 : Int32) (ch1 : Int32) (ch2 : Int32) (h0 : Heap) (n0 : Nat) (Z0 : n0 ≤ h0.size) (u0 : Arv Z h0 sr kc .char (3 : Int32) [(.int ch0), (.int ch1), (.int ch2)] (.int (0 : Int32))) (u1 : Arv Z h0 ds kb .byte (3 : Int32) [(.int (0 : Int32)), (.int (0 : Int32)), (.int (0 : Int32))] (.int (0 : Int32))) (u2 : n0 ≤ ds) (u3 : sr ≠ ds) (hch0 : ¬ ((255 : Int32) < ch0)) (hch1 : ¬ ((255 : Int32) < ch1)) (hch2 : ¬ ((255 : Int32) < ch2)) :
    MetFree l own_y4 (head1 (Jvm.Cond.code own_y4 jdk_52_method_21_code 7 (some .int) :: ws) ({ frames := 0, cells := 0, slots := 0, locals := 0 } : Room)) (fun a_ U_ => a_ = #[(.ref sr), (.int (0 : Int32)), (.ref ds), (.int (0 : Int32)), (.int (3 : Int32))] ∧ Z.Warmed39 U_.vm ∧ U_.heap = h0) (fun _ _ _ _ _ => True) (fun _ U_ o_ U2_ => ∃ v_ L_, o_ = .returned v_ ∧ Q_rmCmpL3 Z sr ds kc kb ch0 ch1 ch2 h0 n0 v_ U2_.heap L_ ∧ FrameEnd U_ o_ U2_ L_ ({ frames := 0, cells := 0, slots := 0, locals := 0 } : Room).cells ({ frames := 0, cells := 0, slots := 0, locals := 0 } : Room).slots) := by
  refine MetFree.of_bodySF (plainFor_of_name pn_2) hisR ?_
  intro p e s m args below meth c s₁ Bd hml0 hP hK
  obtain ⟨rfl, hZ, hh⟩ := hP
  have hx := Bd.exec
  have hby := Bd.bytes
  have hml : c.maxLocals = 7 := hml0
  have hown : s.vm.findClass "java/lang/StringUTF16" = some m.cls := findClass_of_methodNamed Bd.named
  have hnm := (name_of_methodNamed Bd.named Bd.method).1
  have X0 : Stand p l e ({ frames := 0, cells := 0, slots := 0, locals := 0 } : Room) s m #[(.ref sr), (.int (0 : Int32)), (.ref ds), (.int (0 : Int32)), (.int (3 : Int32))] below meth c s₁ [] 0 0 := Stand.of_body Bd
  have e0 : s₁.heap = h0 := by rw [← hh, Bd.state]; rfl
  have N0 := Fr.nil n0
  refine own_go (A := s₁.setTop (mkF m 0 #[.val (.ref sr), .val (.int (0 : Int32)), .val (.ref ds), .val (.int (0 : Int32)), .val (.int (3 : Int32)), .unset, .unset] [])) (fun t_ k_ => castTop (ef_rmCmpL3 m sr ds) k_) ?_
  obtain ⟨cl1, Ar1, q1, S1, M1, H1, G1⟩ := id u0
  have hin1 : ¬ ((0 : Int32) < 0 ∨ cl1.slots.size ≤ ((0 : Int32)).toNatClampNeg) := inb_of S1 ⟨by decide, by decide⟩
  have hat1 : cl1.slots[((0 : Int32)).toNatClampNeg]? = some (.int ch0) := Has.at H1 hin1 rfl
  refine own_go (A := s₁.setTop (mkF m 31 #[.val (.ref sr), .val (.int (0 : Int32)), .val (.ref ds), .val (.int (0 : Int32)), .val (.int (3 : Int32)), .val (.int (0 : Int32)), .val (.int ch0)] [(.int (ch0).toInt8.toInt32), (.int (0 : Int32)), (.ref ds)])) (fun t_ k_ => ?_) ?_
  · show Steps p.tables e below (s₁.setTop (mkF m 0 #[.val (.ref sr), .val (.int (0 : Int32)), .val (.ref ds), .val (.int (0 : Int32)), .val (.int (3 : Int32)), .unset, .unset] [])) t_
    refine XS.iconst X0.here hx rfl (hb hby d6_0) ?_
    show Steps p.tables e below (s₁.setTop (mkF m 1 #[.val (.ref sr), .val (.int (0 : Int32)), .val (.ref ds), .val (.int (0 : Int32)), .val (.int (3 : Int32)), .unset, .unset] [(.int (0 : Int32))])) t_
    refine XS.istore X0.here hx rfl (hb hby d6_1) rfl (l' := #[.val (.ref sr), .val (.int (0 : Int32)), .val (.ref ds), .val (.int (0 : Int32)), .val (.int (3 : Int32)), .val (.int (0 : Int32)), .unset]) rfl ?_
    show Steps p.tables e below (s₁.setTop (mkF m 3 #[.val (.ref sr), .val (.int (0 : Int32)), .val (.ref ds), .val (.int (0 : Int32)), .val (.int (3 : Int32)), .val (.int (0 : Int32)), .unset] [])) t_
    refine XS.iload X0.here hx rfl (hb hby d6_3) rfl ?_
    show Steps p.tables e below (s₁.setTop (mkF m 5 #[.val (.ref sr), .val (.int (0 : Int32)), .val (.ref ds), .val (.int (0 : Int32)), .val (.int (3 : Int32)), .val (.int (0 : Int32)), .unset] [(.int (0 : Int32))])) t_
    refine XS.iload X0.here hx rfl (hb hby d6_5) rfl ?_
    show Steps p.tables e below (s₁.setTop (mkF m 7 #[.val (.ref sr), .val (.int (0 : Int32)), .val (.ref ds), .val (.int (0 : Int32)), .val (.int (3 : Int32)), .val (.int (0 : Int32)), .unset] [(.int (3 : Int32)), (.int (0 : Int32))])) t_
    refine XS.icmpNo X0.here hx rfl (hb hby d6_7) rfl (tlt (by decide : (0 : Int32) < (3 : Int32))).2.1 ?_
    show Steps p.tables e below (s₁.setTop (mkF m 10 #[.val (.ref sr), .val (.int (0 : Int32)), .val (.ref ds), .val (.int (0 : Int32)), .val (.int (3 : Int32)), .val (.int (0 : Int32)), .unset] [])) t_
    refine XS.aloadN X0.here hx rfl (hb hby d6_10) rfl rfl ?_
    show Steps p.tables e below (s₁.setTop (mkF m 11 #[.val (.ref sr), .val (.int (0 : Int32)), .val (.ref ds), .val (.int (0 : Int32)), .val (.int (3 : Int32)), .val (.int (0 : Int32)), .unset] [(.ref sr)])) t_
    refine XS.iloadN X0.here hx rfl (hb hby d6_11) rfl ?_
    show Steps p.tables e below (s₁.setTop (mkF m 12 #[.val (.ref sr), .val (.int (0 : Int32)), .val (.ref ds), .val (.int (0 : Int32)), .val (.int (3 : Int32)), .val (.int (0 : Int32)), .unset] [(.int (0 : Int32)), (.ref sr)])) t_
    refine X0.caload hx (j := (0 : Int32)) (v := (.int ch0)) (by rw [e0]; exact Ar1.1) (State.isArrayOf_alike hZ.alike Ar1.2.1) Ar1.2.2 hin1 hat1 (g := (mkF m 12 #[.val (.ref sr), .val (.int (0 : Int32)), .val (.ref ds), .val (.int (0 : Int32)), .val (.int (3 : Int32)), .val (.int (0 : Int32)), .unset] [(.int (0 : Int32)), (.ref sr)])) rfl rfl (hb hby d6_12) _ ?_
    show Steps p.tables e below (s₁.setTop (mkF m 13 #[.val (.ref sr), .val (.int (0 : Int32)), .val (.ref ds), .val (.int (0 : Int32)), .val (.int (3 : Int32)), .val (.int (0 : Int32)), .unset] [(.int ch0)])) t_
    refine XS.istore X0.here hx rfl (hb hby d6_13) rfl (l' := #[.val (.ref sr), .val (.int (0 : Int32)), .val (.ref ds), .val (.int (0 : Int32)), .val (.int (3 : Int32)), .val (.int (0 : Int32)), .val (.int ch0)]) rfl ?_
    show Steps p.tables e below (s₁.setTop (mkF m 15 #[.val (.ref sr), .val (.int (0 : Int32)), .val (.ref ds), .val (.int (0 : Int32)), .val (.int (3 : Int32)), .val (.int (0 : Int32)), .val (.int ch0)] [])) t_
    refine XS.iload X0.here hx rfl (hb hby d6_15) rfl ?_
    show Steps p.tables e below (s₁.setTop (mkF m 17 #[.val (.ref sr), .val (.int (0 : Int32)), .val (.ref ds), .val (.int (0 : Int32)), .val (.int (3 : Int32)), .val (.int (0 : Int32)), .val (.int ch0)] [(.int ch0)])) t_
    refine XS.sipush X0.here hx rfl (hb hby d6_17) ?_
    show Steps p.tables e below (s₁.setTop (mkF m 20 #[.val (.ref sr), .val (.int (0 : Int32)), .val (.ref ds), .val (.int (0 : Int32)), .val (.int (3 : Int32)), .val (.int (0 : Int32)), .val (.int ch0)] [(.int (255 : Int32)), (.int ch0)])) t_
    refine XS.icmpYes X0.here hx rfl (pc0 := 20) (pc' := 26) rfl (hb hby d6_20) rfl (flt hch0).2.2.2 (by decide) (by decide) ?_
    show Steps p.tables e below (s₁.setTop (mkF m 26 #[.val (.ref sr), .val (.int (0 : Int32)), .val (.ref ds), .val (.int (0 : Int32)), .val (.int (3 : Int32)), .val (.int (0 : Int32)), .val (.int ch0)] [])) t_
    refine XS.aloadN X0.here hx rfl (hb hby d6_26) rfl rfl ?_
    show Steps p.tables e below (s₁.setTop (mkF m 27 #[.val (.ref sr), .val (.int (0 : Int32)), .val (.ref ds), .val (.int (0 : Int32)), .val (.int (3 : Int32)), .val (.int (0 : Int32)), .val (.int ch0)] [(.ref ds)])) t_
    refine XS.iloadN X0.here hx rfl (hb hby d6_27) rfl ?_
    show Steps p.tables e below (s₁.setTop (mkF m 28 #[.val (.ref sr), .val (.int (0 : Int32)), .val (.ref ds), .val (.int (0 : Int32)), .val (.int (3 : Int32)), .val (.int (0 : Int32)), .val (.int ch0)] [(.int (0 : Int32)), (.ref ds)])) t_
    refine XS.iload X0.here hx rfl (hb hby d6_28) rfl ?_
    show Steps p.tables e below (s₁.setTop (mkF m 30 #[.val (.ref sr), .val (.int (0 : Int32)), .val (.ref ds), .val (.int (0 : Int32)), .val (.int (3 : Int32)), .val (.int (0 : Int32)), .val (.int ch0)] [(.int ch0), (.int (0 : Int32)), (.ref ds)])) t_
    refine XS.i2b X0.here hx rfl (hb hby d6_30) rfl ?_
    exact k_
  obtain ⟨cl2, Ar2, q2, S2, M2, H2, G2⟩ := id u1
  have hin2 : ¬ ((0 : Int32) < 0 ∨ cl2.slots.size ≤ ((0 : Int32)).toNatClampNeg) := inb_of S2 ⟨by decide, by decide⟩
  obtain ⟨T3, h3, X3, e3, W3, st3⟩ := stB X0 hx hZ e0 Ar2 (j := (0 : Int32)) hin2 (g := (mkF m 31 #[.val (.ref sr), .val (.int (0 : Int32)), .val (.ref ds), .val (.int (0 : Int32)), .val (.int (3 : Int32)), .val (.int (0 : Int32)), .val (.int ch0)] [(.int (ch0).toInt8.toInt32), (.int (0 : Int32)), (.ref ds)])) rfl rfl (hb hby d6_31)
  rw [own_narb] at W3
  have B3 : Arv Z h3 ds kb .byte (3 : Int32) [(.int (ch0).toInt8.toInt32), (.int (0 : Int32)), (.int (0 : Int32))] (.int (0 : Int32)) := Arv.set Ar2 q2 S2 M2 H2 G2 (fits_nar_byte _) W3 0 rfl (Nat.le_of_ble_eq_true rfl)
  refine own_go st3 ?_
  have K3 : Keep h0 h3 [ds] := (Keep.refl h0 [ds]).wr W3 (Or.inl (List.mem_of_getElem? (i := 0) rfl))
  have N3 := Fr.snoc X3 N0 u2
  obtain ⟨cl4, Ar4, q4, S4, M4, H4, G4⟩ := id (u0.other W3 u3)
  have hin4 : ¬ ((1 : Int32) < 0 ∨ cl4.slots.size ≤ ((1 : Int32)).toNatClampNeg) := inb_of S4 ⟨by decide, by decide⟩
  have hat4 : cl4.slots[((1 : Int32)).toNatClampNeg]? = some (.int ch1) := Has.at H4 hin4 rfl
  refine own_go (A := T3.setTop (mkF m 31 #[.val (.ref sr), .val (.int (1 : Int32)), .val (.ref ds), .val (.int (1 : Int32)), .val (.int (3 : Int32)), .val (.int (1 : Int32)), .val (.int ch1)] [(.int (ch1).toInt8.toInt32), (.int (1 : Int32)), (.ref ds)])) (fun t_ k_ => ?_) ?_
  · show Steps p.tables e below (T3.setTop (mkF m 32 #[.val (.ref sr), .val (.int (0 : Int32)), .val (.ref ds), .val (.int (0 : Int32)), .val (.int (3 : Int32)), .val (.int (0 : Int32)), .val (.int ch0)] [])) t_
    refine XS.iinc X3.here hx rfl (hb hby d6_32) rfl (l' := #[.val (.ref sr), .val (.int (1 : Int32)), .val (.ref ds), .val (.int (0 : Int32)), .val (.int (3 : Int32)), .val (.int (0 : Int32)), .val (.int ch0)]) rfl ?_
    show Steps p.tables e below (T3.setTop (mkF m 35 #[.val (.ref sr), .val (.int (1 : Int32)), .val (.ref ds), .val (.int (0 : Int32)), .val (.int (3 : Int32)), .val (.int (0 : Int32)), .val (.int ch0)] [])) t_
    refine XS.iinc X3.here hx rfl (hb hby d6_35) rfl (l' := #[.val (.ref sr), .val (.int (1 : Int32)), .val (.ref ds), .val (.int (1 : Int32)), .val (.int (3 : Int32)), .val (.int (0 : Int32)), .val (.int ch0)]) rfl ?_
    show Steps p.tables e below (T3.setTop (mkF m 38 #[.val (.ref sr), .val (.int (1 : Int32)), .val (.ref ds), .val (.int (1 : Int32)), .val (.int (3 : Int32)), .val (.int (0 : Int32)), .val (.int ch0)] [])) t_
    refine XS.iinc X3.here hx rfl (hb hby d6_38) rfl (l' := #[.val (.ref sr), .val (.int (1 : Int32)), .val (.ref ds), .val (.int (1 : Int32)), .val (.int (3 : Int32)), .val (.int (1 : Int32)), .val (.int ch0)]) rfl ?_
    show Steps p.tables e below (T3.setTop (mkF m 41 #[.val (.ref sr), .val (.int (1 : Int32)), .val (.ref ds), .val (.int (1 : Int32)), .val (.int (3 : Int32)), .val (.int (1 : Int32)), .val (.int ch0)] [])) t_
    refine XS.goto X3.here hx rfl (pc0 := 41) (pc' := 3) rfl (hb hby d6_41) (by decide) (by decide) ?_
    show Steps p.tables e below (T3.setTop (mkF m 3 #[.val (.ref sr), .val (.int (1 : Int32)), .val (.ref ds), .val (.int (1 : Int32)), .val (.int (3 : Int32)), .val (.int (1 : Int32)), .val (.int ch0)] [])) t_
    refine XS.iload X3.here hx rfl (hb hby d6_3) rfl ?_
    show Steps p.tables e below (T3.setTop (mkF m 5 #[.val (.ref sr), .val (.int (1 : Int32)), .val (.ref ds), .val (.int (1 : Int32)), .val (.int (3 : Int32)), .val (.int (1 : Int32)), .val (.int ch0)] [(.int (1 : Int32))])) t_
    refine XS.iload X3.here hx rfl (hb hby d6_5) rfl ?_
    show Steps p.tables e below (T3.setTop (mkF m 7 #[.val (.ref sr), .val (.int (1 : Int32)), .val (.ref ds), .val (.int (1 : Int32)), .val (.int (3 : Int32)), .val (.int (1 : Int32)), .val (.int ch0)] [(.int (3 : Int32)), (.int (1 : Int32))])) t_
    refine XS.icmpNo X3.here hx rfl (hb hby d6_7) rfl (tlt (by decide : (1 : Int32) < (3 : Int32))).2.1 ?_
    show Steps p.tables e below (T3.setTop (mkF m 10 #[.val (.ref sr), .val (.int (1 : Int32)), .val (.ref ds), .val (.int (1 : Int32)), .val (.int (3 : Int32)), .val (.int (1 : Int32)), .val (.int ch0)] [])) t_
    refine XS.aloadN X3.here hx rfl (hb hby d6_10) rfl rfl ?_
    show Steps p.tables e below (T3.setTop (mkF m 11 #[.val (.ref sr), .val (.int (1 : Int32)), .val (.ref ds), .val (.int (1 : Int32)), .val (.int (3 : Int32)), .val (.int (1 : Int32)), .val (.int ch0)] [(.ref sr)])) t_
    refine XS.iloadN X3.here hx rfl (hb hby d6_11) rfl ?_
    show Steps p.tables e below (T3.setTop (mkF m 12 #[.val (.ref sr), .val (.int (1 : Int32)), .val (.ref ds), .val (.int (1 : Int32)), .val (.int (3 : Int32)), .val (.int (1 : Int32)), .val (.int ch0)] [(.int (1 : Int32)), (.ref sr)])) t_
    refine X3.caload hx (j := (1 : Int32)) (v := (.int ch1)) (by rw [e3]; exact Ar4.1) (State.isArrayOf_alike hZ.alike Ar4.2.1) Ar4.2.2 hin4 hat4 (g := (mkF m 12 #[.val (.ref sr), .val (.int (1 : Int32)), .val (.ref ds), .val (.int (1 : Int32)), .val (.int (3 : Int32)), .val (.int (1 : Int32)), .val (.int ch0)] [(.int (1 : Int32)), (.ref sr)])) rfl rfl (hb hby d6_12) _ ?_
    show Steps p.tables e below (T3.setTop (mkF m 13 #[.val (.ref sr), .val (.int (1 : Int32)), .val (.ref ds), .val (.int (1 : Int32)), .val (.int (3 : Int32)), .val (.int (1 : Int32)), .val (.int ch0)] [(.int ch1)])) t_
    refine XS.istore X3.here hx rfl (hb hby d6_13) rfl (l' := #[.val (.ref sr), .val (.int (1 : Int32)), .val (.ref ds), .val (.int (1 : Int32)), .val (.int (3 : Int32)), .val (.int (1 : Int32)), .val (.int ch1)]) rfl ?_
    show Steps p.tables e below (T3.setTop (mkF m 15 #[.val (.ref sr), .val (.int (1 : Int32)), .val (.ref ds), .val (.int (1 : Int32)), .val (.int (3 : Int32)), .val (.int (1 : Int32)), .val (.int ch1)] [])) t_
    refine XS.iload X3.here hx rfl (hb hby d6_15) rfl ?_
    show Steps p.tables e below (T3.setTop (mkF m 17 #[.val (.ref sr), .val (.int (1 : Int32)), .val (.ref ds), .val (.int (1 : Int32)), .val (.int (3 : Int32)), .val (.int (1 : Int32)), .val (.int ch1)] [(.int ch1)])) t_
    refine XS.sipush X3.here hx rfl (hb hby d6_17) ?_
    show Steps p.tables e below (T3.setTop (mkF m 20 #[.val (.ref sr), .val (.int (1 : Int32)), .val (.ref ds), .val (.int (1 : Int32)), .val (.int (3 : Int32)), .val (.int (1 : Int32)), .val (.int ch1)] [(.int (255 : Int32)), (.int ch1)])) t_
    refine XS.icmpYes X3.here hx rfl (pc0 := 20) (pc' := 26) rfl (hb hby d6_20) rfl (flt hch1).2.2.2 (by decide) (by decide) ?_
    show Steps p.tables e below (T3.setTop (mkF m 26 #[.val (.ref sr), .val (.int (1 : Int32)), .val (.ref ds), .val (.int (1 : Int32)), .val (.int (3 : Int32)), .val (.int (1 : Int32)), .val (.int ch1)] [])) t_
    refine XS.aloadN X3.here hx rfl (hb hby d6_26) rfl rfl ?_
    show Steps p.tables e below (T3.setTop (mkF m 27 #[.val (.ref sr), .val (.int (1 : Int32)), .val (.ref ds), .val (.int (1 : Int32)), .val (.int (3 : Int32)), .val (.int (1 : Int32)), .val (.int ch1)] [(.ref ds)])) t_
    refine XS.iloadN X3.here hx rfl (hb hby d6_27) rfl ?_
    show Steps p.tables e below (T3.setTop (mkF m 28 #[.val (.ref sr), .val (.int (1 : Int32)), .val (.ref ds), .val (.int (1 : Int32)), .val (.int (3 : Int32)), .val (.int (1 : Int32)), .val (.int ch1)] [(.int (1 : Int32)), (.ref ds)])) t_
    refine XS.iload X3.here hx rfl (hb hby d6_28) rfl ?_
    show Steps p.tables e below (T3.setTop (mkF m 30 #[.val (.ref sr), .val (.int (1 : Int32)), .val (.ref ds), .val (.int (1 : Int32)), .val (.int (3 : Int32)), .val (.int (1 : Int32)), .val (.int ch1)] [(.int ch1), (.int (1 : Int32)), (.ref ds)])) t_
    refine XS.i2b X3.here hx rfl (hb hby d6_30) rfl ?_
    exact k_
  obtain ⟨cl5, Ar5, q5, S5, M5, H5, G5⟩ := id B3
  have hin5 : ¬ ((1 : Int32) < 0 ∨ cl5.slots.size ≤ ((1 : Int32)).toNatClampNeg) := inb_of S5 ⟨by decide, by decide⟩
  obtain ⟨T6, h6, X6, e6, W6, st6⟩ := stB X3 hx hZ e3 Ar5 (j := (1 : Int32)) hin5 (g := (mkF m 31 #[.val (.ref sr), .val (.int (1 : Int32)), .val (.ref ds), .val (.int (1 : Int32)), .val (.int (3 : Int32)), .val (.int (1 : Int32)), .val (.int ch1)] [(.int (ch1).toInt8.toInt32), (.int (1 : Int32)), (.ref ds)])) rfl rfl (hb hby d6_31)
  rw [own_narb] at W6
  have B6 : Arv Z h6 ds kb .byte (3 : Int32) [(.int (ch0).toInt8.toInt32), (.int (ch1).toInt8.toInt32), (.int (0 : Int32))] (.int (0 : Int32)) := Arv.set Ar5 q5 S5 M5 H5 G5 (fits_nar_byte _) W6 1 rfl (Nat.le_of_ble_eq_true rfl)
  refine own_go st6 ?_
  have K6 : Keep h0 h6 [ds] := K3.wr W6 (Or.inl (List.mem_of_getElem? (i := 0) rfl))
  have N6 := Fr.snoc X6 N3 u2
  obtain ⟨cl7, Ar7, q7, S7, M7, H7, G7⟩ := id ((u0.other W3 u3).other W6 u3)
  have hin7 : ¬ ((2 : Int32) < 0 ∨ cl7.slots.size ≤ ((2 : Int32)).toNatClampNeg) := inb_of S7 ⟨by decide, by decide⟩
  have hat7 : cl7.slots[((2 : Int32)).toNatClampNeg]? = some (.int ch2) := Has.at H7 hin7 rfl
  refine own_go (A := T6.setTop (mkF m 31 #[.val (.ref sr), .val (.int (2 : Int32)), .val (.ref ds), .val (.int (2 : Int32)), .val (.int (3 : Int32)), .val (.int (2 : Int32)), .val (.int ch2)] [(.int (ch2).toInt8.toInt32), (.int (2 : Int32)), (.ref ds)])) (fun t_ k_ => ?_) ?_
  · show Steps p.tables e below (T6.setTop (mkF m 32 #[.val (.ref sr), .val (.int (1 : Int32)), .val (.ref ds), .val (.int (1 : Int32)), .val (.int (3 : Int32)), .val (.int (1 : Int32)), .val (.int ch1)] [])) t_
    refine XS.iinc X6.here hx rfl (hb hby d6_32) rfl (l' := #[.val (.ref sr), .val (.int (2 : Int32)), .val (.ref ds), .val (.int (1 : Int32)), .val (.int (3 : Int32)), .val (.int (1 : Int32)), .val (.int ch1)]) rfl ?_
    show Steps p.tables e below (T6.setTop (mkF m 35 #[.val (.ref sr), .val (.int (2 : Int32)), .val (.ref ds), .val (.int (1 : Int32)), .val (.int (3 : Int32)), .val (.int (1 : Int32)), .val (.int ch1)] [])) t_
    refine XS.iinc X6.here hx rfl (hb hby d6_35) rfl (l' := #[.val (.ref sr), .val (.int (2 : Int32)), .val (.ref ds), .val (.int (2 : Int32)), .val (.int (3 : Int32)), .val (.int (1 : Int32)), .val (.int ch1)]) rfl ?_
    show Steps p.tables e below (T6.setTop (mkF m 38 #[.val (.ref sr), .val (.int (2 : Int32)), .val (.ref ds), .val (.int (2 : Int32)), .val (.int (3 : Int32)), .val (.int (1 : Int32)), .val (.int ch1)] [])) t_
    refine XS.iinc X6.here hx rfl (hb hby d6_38) rfl (l' := #[.val (.ref sr), .val (.int (2 : Int32)), .val (.ref ds), .val (.int (2 : Int32)), .val (.int (3 : Int32)), .val (.int (2 : Int32)), .val (.int ch1)]) rfl ?_
    show Steps p.tables e below (T6.setTop (mkF m 41 #[.val (.ref sr), .val (.int (2 : Int32)), .val (.ref ds), .val (.int (2 : Int32)), .val (.int (3 : Int32)), .val (.int (2 : Int32)), .val (.int ch1)] [])) t_
    refine XS.goto X6.here hx rfl (pc0 := 41) (pc' := 3) rfl (hb hby d6_41) (by decide) (by decide) ?_
    show Steps p.tables e below (T6.setTop (mkF m 3 #[.val (.ref sr), .val (.int (2 : Int32)), .val (.ref ds), .val (.int (2 : Int32)), .val (.int (3 : Int32)), .val (.int (2 : Int32)), .val (.int ch1)] [])) t_
    refine XS.iload X6.here hx rfl (hb hby d6_3) rfl ?_
    show Steps p.tables e below (T6.setTop (mkF m 5 #[.val (.ref sr), .val (.int (2 : Int32)), .val (.ref ds), .val (.int (2 : Int32)), .val (.int (3 : Int32)), .val (.int (2 : Int32)), .val (.int ch1)] [(.int (2 : Int32))])) t_
    refine XS.iload X6.here hx rfl (hb hby d6_5) rfl ?_
    show Steps p.tables e below (T6.setTop (mkF m 7 #[.val (.ref sr), .val (.int (2 : Int32)), .val (.ref ds), .val (.int (2 : Int32)), .val (.int (3 : Int32)), .val (.int (2 : Int32)), .val (.int ch1)] [(.int (3 : Int32)), (.int (2 : Int32))])) t_
    refine XS.icmpNo X6.here hx rfl (hb hby d6_7) rfl (tlt (by decide : (2 : Int32) < (3 : Int32))).2.1 ?_
    show Steps p.tables e below (T6.setTop (mkF m 10 #[.val (.ref sr), .val (.int (2 : Int32)), .val (.ref ds), .val (.int (2 : Int32)), .val (.int (3 : Int32)), .val (.int (2 : Int32)), .val (.int ch1)] [])) t_
    refine XS.aloadN X6.here hx rfl (hb hby d6_10) rfl rfl ?_
    show Steps p.tables e below (T6.setTop (mkF m 11 #[.val (.ref sr), .val (.int (2 : Int32)), .val (.ref ds), .val (.int (2 : Int32)), .val (.int (3 : Int32)), .val (.int (2 : Int32)), .val (.int ch1)] [(.ref sr)])) t_
    refine XS.iloadN X6.here hx rfl (hb hby d6_11) rfl ?_
    show Steps p.tables e below (T6.setTop (mkF m 12 #[.val (.ref sr), .val (.int (2 : Int32)), .val (.ref ds), .val (.int (2 : Int32)), .val (.int (3 : Int32)), .val (.int (2 : Int32)), .val (.int ch1)] [(.int (2 : Int32)), (.ref sr)])) t_
    refine X6.caload hx (j := (2 : Int32)) (v := (.int ch2)) (by rw [e6]; exact Ar7.1) (State.isArrayOf_alike hZ.alike Ar7.2.1) Ar7.2.2 hin7 hat7 (g := (mkF m 12 #[.val (.ref sr), .val (.int (2 : Int32)), .val (.ref ds), .val (.int (2 : Int32)), .val (.int (3 : Int32)), .val (.int (2 : Int32)), .val (.int ch1)] [(.int (2 : Int32)), (.ref sr)])) rfl rfl (hb hby d6_12) _ ?_
    show Steps p.tables e below (T6.setTop (mkF m 13 #[.val (.ref sr), .val (.int (2 : Int32)), .val (.ref ds), .val (.int (2 : Int32)), .val (.int (3 : Int32)), .val (.int (2 : Int32)), .val (.int ch1)] [(.int ch2)])) t_
    refine XS.istore X6.here hx rfl (hb hby d6_13) rfl (l' := #[.val (.ref sr), .val (.int (2 : Int32)), .val (.ref ds), .val (.int (2 : Int32)), .val (.int (3 : Int32)), .val (.int (2 : Int32)), .val (.int ch2)]) rfl ?_
    show Steps p.tables e below (T6.setTop (mkF m 15 #[.val (.ref sr), .val (.int (2 : Int32)), .val (.ref ds), .val (.int (2 : Int32)), .val (.int (3 : Int32)), .val (.int (2 : Int32)), .val (.int ch2)] [])) t_
    refine XS.iload X6.here hx rfl (hb hby d6_15) rfl ?_
    show Steps p.tables e below (T6.setTop (mkF m 17 #[.val (.ref sr), .val (.int (2 : Int32)), .val (.ref ds), .val (.int (2 : Int32)), .val (.int (3 : Int32)), .val (.int (2 : Int32)), .val (.int ch2)] [(.int ch2)])) t_
    refine XS.sipush X6.here hx rfl (hb hby d6_17) ?_
    show Steps p.tables e below (T6.setTop (mkF m 20 #[.val (.ref sr), .val (.int (2 : Int32)), .val (.ref ds), .val (.int (2 : Int32)), .val (.int (3 : Int32)), .val (.int (2 : Int32)), .val (.int ch2)] [(.int (255 : Int32)), (.int ch2)])) t_
    refine XS.icmpYes X6.here hx rfl (pc0 := 20) (pc' := 26) rfl (hb hby d6_20) rfl (flt hch2).2.2.2 (by decide) (by decide) ?_
    show Steps p.tables e below (T6.setTop (mkF m 26 #[.val (.ref sr), .val (.int (2 : Int32)), .val (.ref ds), .val (.int (2 : Int32)), .val (.int (3 : Int32)), .val (.int (2 : Int32)), .val (.int ch2)] [])) t_
    refine XS.aloadN X6.here hx rfl (hb hby d6_26) rfl rfl ?_
    show Steps p.tables e below (T6.setTop (mkF m 27 #[.val (.ref sr), .val (.int (2 : Int32)), .val (.ref ds), .val (.int (2 : Int32)), .val (.int (3 : Int32)), .val (.int (2 : Int32)), .val (.int ch2)] [(.ref ds)])) t_
    refine XS.iloadN X6.here hx rfl (hb hby d6_27) rfl ?_
    show Steps p.tables e below (T6.setTop (mkF m 28 #[.val (.ref sr), .val (.int (2 : Int32)), .val (.ref ds), .val (.int (2 : Int32)), .val (.int (3 : Int32)), .val (.int (2 : Int32)), .val (.int ch2)] [(.int (2 : Int32)), (.ref ds)])) t_
    refine XS.iload X6.here hx rfl (hb hby d6_28) rfl ?_
    show Steps p.tables e below (T6.setTop (mkF m 30 #[.val (.ref sr), .val (.int (2 : Int32)), .val (.ref ds), .val (.int (2 : Int32)), .val (.int (3 : Int32)), .val (.int (2 : Int32)), .val (.int ch2)] [(.int ch2), (.int (2 : Int32)), (.ref ds)])) t_
    refine XS.i2b X6.here hx rfl (hb hby d6_30) rfl ?_
    exact k_
  obtain ⟨cl8, Ar8, q8, S8, M8, H8, G8⟩ := id B6
  have hin8 : ¬ ((2 : Int32) < 0 ∨ cl8.slots.size ≤ ((2 : Int32)).toNatClampNeg) := inb_of S8 ⟨by decide, by decide⟩
  obtain ⟨T9, h9, X9, e9, W9, st9⟩ := stB X6 hx hZ e6 Ar8 (j := (2 : Int32)) hin8 (g := (mkF m 31 #[.val (.ref sr), .val (.int (2 : Int32)), .val (.ref ds), .val (.int (2 : Int32)), .val (.int (3 : Int32)), .val (.int (2 : Int32)), .val (.int ch2)] [(.int (ch2).toInt8.toInt32), (.int (2 : Int32)), (.ref ds)])) rfl rfl (hb hby d6_31)
  rw [own_narb] at W9
  have B9 : Arv Z h9 ds kb .byte (3 : Int32) [(.int (ch0).toInt8.toInt32), (.int (ch1).toInt8.toInt32), (.int (ch2).toInt8.toInt32)] (.int (0 : Int32)) := Arv.set Ar8 q8 S8 M8 H8 G8 (fits_nar_byte _) W9 2 rfl (Nat.le_of_ble_eq_true rfl)
  refine own_go st9 ?_
  have K9 : Keep h0 h9 [ds] := K6.wr W9 (Or.inl (List.mem_of_getElem? (i := 0) rfl))
  have N9 := Fr.snoc X9 N6 u2
  refine own_go (A := T9.setTop (mkF m 46 #[.val (.ref sr), .val (.int (3 : Int32)), .val (.ref ds), .val (.int (3 : Int32)), .val (.int (3 : Int32)), .val (.int (3 : Int32)), .val (.int ch2)] [(.int (3 : Int32))])) (fun t_ k_ => ?_) ?_
  · show Steps p.tables e below (T9.setTop (mkF m 32 #[.val (.ref sr), .val (.int (2 : Int32)), .val (.ref ds), .val (.int (2 : Int32)), .val (.int (3 : Int32)), .val (.int (2 : Int32)), .val (.int ch2)] [])) t_
    refine XS.iinc X9.here hx rfl (hb hby d6_32) rfl (l' := #[.val (.ref sr), .val (.int (3 : Int32)), .val (.ref ds), .val (.int (2 : Int32)), .val (.int (3 : Int32)), .val (.int (2 : Int32)), .val (.int ch2)]) rfl ?_
    show Steps p.tables e below (T9.setTop (mkF m 35 #[.val (.ref sr), .val (.int (3 : Int32)), .val (.ref ds), .val (.int (2 : Int32)), .val (.int (3 : Int32)), .val (.int (2 : Int32)), .val (.int ch2)] [])) t_
    refine XS.iinc X9.here hx rfl (hb hby d6_35) rfl (l' := #[.val (.ref sr), .val (.int (3 : Int32)), .val (.ref ds), .val (.int (3 : Int32)), .val (.int (3 : Int32)), .val (.int (2 : Int32)), .val (.int ch2)]) rfl ?_
    show Steps p.tables e below (T9.setTop (mkF m 38 #[.val (.ref sr), .val (.int (3 : Int32)), .val (.ref ds), .val (.int (3 : Int32)), .val (.int (3 : Int32)), .val (.int (2 : Int32)), .val (.int ch2)] [])) t_
    refine XS.iinc X9.here hx rfl (hb hby d6_38) rfl (l' := #[.val (.ref sr), .val (.int (3 : Int32)), .val (.ref ds), .val (.int (3 : Int32)), .val (.int (3 : Int32)), .val (.int (3 : Int32)), .val (.int ch2)]) rfl ?_
    show Steps p.tables e below (T9.setTop (mkF m 41 #[.val (.ref sr), .val (.int (3 : Int32)), .val (.ref ds), .val (.int (3 : Int32)), .val (.int (3 : Int32)), .val (.int (3 : Int32)), .val (.int ch2)] [])) t_
    refine XS.goto X9.here hx rfl (pc0 := 41) (pc' := 3) rfl (hb hby d6_41) (by decide) (by decide) ?_
    show Steps p.tables e below (T9.setTop (mkF m 3 #[.val (.ref sr), .val (.int (3 : Int32)), .val (.ref ds), .val (.int (3 : Int32)), .val (.int (3 : Int32)), .val (.int (3 : Int32)), .val (.int ch2)] [])) t_
    refine XS.iload X9.here hx rfl (hb hby d6_3) rfl ?_
    show Steps p.tables e below (T9.setTop (mkF m 5 #[.val (.ref sr), .val (.int (3 : Int32)), .val (.ref ds), .val (.int (3 : Int32)), .val (.int (3 : Int32)), .val (.int (3 : Int32)), .val (.int ch2)] [(.int (3 : Int32))])) t_
    refine XS.iload X9.here hx rfl (hb hby d6_5) rfl ?_
    show Steps p.tables e below (T9.setTop (mkF m 7 #[.val (.ref sr), .val (.int (3 : Int32)), .val (.ref ds), .val (.int (3 : Int32)), .val (.int (3 : Int32)), .val (.int (3 : Int32)), .val (.int ch2)] [(.int (3 : Int32)), (.int (3 : Int32))])) t_
    refine XS.icmpYes X9.here hx rfl (pc0 := 7) (pc' := 44) rfl (hb hby d6_7) rfl (flt (by decide : ¬ ((3 : Int32) < (3 : Int32)))).2.1 (by decide) (by decide) ?_
    show Steps p.tables e below (T9.setTop (mkF m 44 #[.val (.ref sr), .val (.int (3 : Int32)), .val (.ref ds), .val (.int (3 : Int32)), .val (.int (3 : Int32)), .val (.int (3 : Int32)), .val (.int ch2)] [])) t_
    refine XS.iload X9.here hx rfl (hb hby d6_44) rfl ?_
    exact k_
  obtain ⟨fs10, hr10, hrun10, hended10, hW10, hsame10⟩ := X9.leave (v := some (.int (3 : Int32))) (fun h => by rw [Bd.returns] at h; cases h)
  refine ⟨_, _, ?_, hrun10, hended10, _, _, rfl, ?_, ⟨_, rfl⟩, hW10, hsame10.mono (by decide) (by decide)⟩
  · exact own_retI X9 hx Bd.returns (hb hby d6_46) hr10
  · show Q_rmCmpL3 Z sr ds kc kb ch0 ch1 ch2 h0 n0 _ T9.heap _
    rw [e9]
    exact ⟨rfl, N9, K9, B9⟩
theorem ef_rmCmp3 (m : MethodId) (sr : Addr) : entryFrame m #[(.ref sr), (.int (0 : Int32)), (.int (3 : Int32))] 6 = mkF m 0 #[.val (.ref sr), .val (.int (0 : Int32)), .val (.int (3 : Int32)), .unset, .unset, .unset] [] := by first | (simp [entryFrame, mkF, argsToLocals, Value.category]; done) | rfl
def Q_rmCmp3 (Z : State) (sr : Addr) (kc : ClassId) (ch0 : Int32) (ch1 : Int32) (ch2 : Int32) (h0 : Heap) (n0 : Nat) (v_ : Option Value) (h_ : Heap) (L_ : List Loc) : Prop := ∃ d : Addr, ∃ k : ClassId, v_ = some (.ref d) ∧ Fr n0 L_ ∧ Keep h0 h_ [] ∧ h0.size ≤ d ∧ Arv Z h_ d k .byte (3 : Int32) [(.int (ch0).toInt8.toInt32), (.int (ch1).toInt8.toInt32), (.int (ch2).toInt8.toInt32)] (.int (0 : Int32))
set_option maxRecDepth 65536 in
set_option maxHeartbeats 40000000 in
theorem rmCmp3 (l : Launch) (Z : State) (a0 : Array Value) (hw : ∀ d ∈ tables_1, d.before a0 Z = true) (ws : List Jvm.Cond) (sr : Addr) (kc : ClassId) (ch0 : Int32) (ch1 : Int32) (ch2 : Int32) (h0 : Heap) (n0 : Nat) (Z0 : n0 ≤ h0.size) (u0 : Arv Z h0 sr kc .char (3 : Int32) [(.int ch0), (.int ch1), (.int ch2)] (.int (0 : Int32))) (hch0 : ¬ ((255 : Int32) < ch0)) (hch1 : ¬ ((255 : Int32) < ch1)) (hch2 : ¬ ((255 : Int32) < ch2)) :
    MetFree l own_y5 (head1 (Jvm.Cond.code own_y5 jdk_52_method_16_code 6 (some (.array .byte)) :: ws) ({ frames := 1, cells := 1, slots := 3, locals := 18 } : Room)) (fun a_ U_ => a_ = #[(.ref sr), (.int (0 : Int32)), (.int (3 : Int32))] ∧ Z.Warmed39 U_.vm ∧ U_.heap = h0) (fun _ _ _ _ _ => True) (fun _ U_ o_ U2_ => ∃ v_ L_, o_ = .returned v_ ∧ Q_rmCmp3 Z sr kc ch0 ch1 ch2 h0 n0 v_ U2_.heap L_ ∧ FrameEnd U_ o_ U2_ L_ ({ frames := 1, cells := 1, slots := 3, locals := 18 } : Room).cells ({ frames := 1, cells := 1, slots := 3, locals := 18 } : Room).slots) := by
  refine MetFree.of_bodySF (plainFor_of_name pn_2) hisR ?_
  intro p e s m args below meth c s₁ Bd hml0 hP hK
  obtain ⟨rfl, hZ, hh⟩ := hP
  have hx := Bd.exec
  have hby := Bd.bytes
  have hml : c.maxLocals = 6 := hml0
  have hown : s.vm.findClass "java/lang/StringUTF16" = some m.cls := findClass_of_methodNamed Bd.named
  have hnm := (name_of_methodNamed Bd.named Bd.method).1
  have X0 : Stand p l e ({ frames := 1, cells := 1, slots := 3, locals := 18 } : Room) s m #[(.ref sr), (.int (0 : Int32)), (.int (3 : Int32))] below meth c s₁ [] 0 0 := Stand.of_body Bd
  have e0 : s₁.heap = h0 := by rw [← hh, Bd.state]; rfl
  have N0 := Fr.nil n0
  refine own_go (A := s₁.setTop (mkF m 0 #[.val (.ref sr), .val (.int (0 : Int32)), .val (.int (3 : Int32)), .unset, .unset, .unset] [])) (fun t_ k_ => castTop (ef_rmCmp3 m sr) k_) ?_
  refine own_go (A := s₁.setTop (mkF m 1 #[.val (.ref sr), .val (.int (0 : Int32)), .val (.int (3 : Int32)), .unset, .unset, .unset] [(.int (3 : Int32))])) (fun t_ k_ => ?_) ?_
  · show Steps p.tables e below (s₁.setTop (mkF m 0 #[.val (.ref sr), .val (.int (0 : Int32)), .val (.int (3 : Int32)), .unset, .unset, .unset] [])) t_
    refine XS.iloadN X0.here hx rfl (hb hby d5_0) rfl ?_
    exact k_
  obtain ⟨T1, h1, k1, X1, e1, E1, A1, st1⟩ := newP X0 hx hZ (own_w hw 19 rfl) e0 (g := (mkF m 1 #[.val (.ref sr), .val (.int (0 : Int32)), .val (.int (3 : Int32)), .unset, .unset, .unset] [(.int (3 : Int32))])) rfl (hb hby d5_1) rfl (by decide) (cap := 3) (by decide) (by decide) (by decide) (by decide)
  obtain ⟨b1, g1⟩ : ∃ z, z = h0.size := ⟨_, rfl⟩
  rw [← g1] at A1 st1
  refine own_go st1 ?_
  have K1 : Keep h0 h1 [] := (Keep.refl h0 []).ext E1
  have B1 : Arv Z h1 b1 k1 .byte (3 : Int32) [(.int (0 : Int32)), (.int (0 : Int32)), (.int (0 : Int32))] (.int (0 : Int32)) := (Arv.new A1 (by decide)).pad (pad_rep [] (.int (0 : Int32)) 3)
  refine own_go (A := T1.setTop (mkF m 9 #[.val (.ref sr), .val (.int (0 : Int32)), .val (.int (3 : Int32)), .val (.ref b1), .unset, .unset] [(.int (3 : Int32)), (.int (0 : Int32)), (.ref b1), (.int (0 : Int32)), (.ref sr)])) (fun t_ k_ => ?_) ?_
  · show Steps p.tables e below (T1.setTop (mkF m 3 #[.val (.ref sr), .val (.int (0 : Int32)), .val (.int (3 : Int32)), .unset, .unset, .unset] [(.ref b1)])) t_
    refine XS.astoreN X1.here hx rfl (hb hby d5_3) rfl rfl (l' := #[.val (.ref sr), .val (.int (0 : Int32)), .val (.int (3 : Int32)), .val (.ref b1), .unset, .unset]) rfl ?_
    show Steps p.tables e below (T1.setTop (mkF m 4 #[.val (.ref sr), .val (.int (0 : Int32)), .val (.int (3 : Int32)), .val (.ref b1), .unset, .unset] [])) t_
    refine XS.aloadN X1.here hx rfl (hb hby d5_4) rfl rfl ?_
    show Steps p.tables e below (T1.setTop (mkF m 5 #[.val (.ref sr), .val (.int (0 : Int32)), .val (.int (3 : Int32)), .val (.ref b1), .unset, .unset] [(.ref sr)])) t_
    refine XS.iloadN X1.here hx rfl (hb hby d5_5) rfl ?_
    show Steps p.tables e below (T1.setTop (mkF m 6 #[.val (.ref sr), .val (.int (0 : Int32)), .val (.int (3 : Int32)), .val (.ref b1), .unset, .unset] [(.int (0 : Int32)), (.ref sr)])) t_
    refine XS.aloadN X1.here hx rfl (hb hby d5_6) rfl rfl ?_
    show Steps p.tables e below (T1.setTop (mkF m 7 #[.val (.ref sr), .val (.int (0 : Int32)), .val (.int (3 : Int32)), .val (.ref b1), .unset, .unset] [(.ref b1), (.int (0 : Int32)), (.ref sr)])) t_
    refine XS.iconst X1.here hx rfl (hb hby d5_7) ?_
    show Steps p.tables e below (T1.setTop (mkF m 8 #[.val (.ref sr), .val (.int (0 : Int32)), .val (.int (3 : Int32)), .val (.ref b1), .unset, .unset] [(.int (0 : Int32)), (.ref b1), (.int (0 : Int32)), (.ref sr)])) t_
    refine XS.iloadN X1.here hx rfl (hb hby d5_8) rfl ?_
    exact k_
  obtain ⟨_, _, ⟨T2, L2, k2, n2⟩, -, X2, ⟨Lc2, hQ2, l2, y2, z2⟩, st2⟩ := Jvm.LawKit.callS X1 hx (y := own_y4) hown (mvT hZ (own_w hw 32 rfl)) (mvT hZ (own_w hw 33 rfl)) (mvT hZ (own_w hw 30 rfl)) (mvT hZ (own_w hw 34 rfl)) (by decide) (backOf (W := 0) (rmCmpL3 l Z a0 hw [] sr b1 kc k1 ch0 ch1 ch2 h1 n0 (Nat.le_trans Z0 K1.1) (u0.ext E1) B1 (Nat.le_trans Z0 (Nat.le_of_eq g1.symm)) (Nat.ne_of_lt (Nat.lt_of_lt_of_le u0.lt (Nat.le_of_eq g1.symm))) hch0 hch1 hch2) hZ (own_w hw 34 rfl) (own_w hw 30 rfl) (by decide) (by decide)) (g := (mkF m 9 #[.val (.ref sr), .val (.int (0 : Int32)), .val (.int (3 : Int32)), .val (.ref b1), .unset, .unset] [(.int (3 : Int32)), (.int (0 : Int32)), (.ref b1), (.int (0 : Int32)), (.ref sr)])) rfl (by rw [hml]; rfl) (argsL := [(.ref sr), (.int (0 : Int32)), (.ref b1), (.int (0 : Int32)), (.int (3 : Int32))]) (rest := []) (lenOf pd_3 rfl) rfl (by show 2 * 0 + _ ≤ _; exact Nat.le_of_eq rfl) (hb hby d5_9) (fun _ _ => ⟨rfl, e1, (by decide : 1 + 0 ≤ _), (by decide : 3 + 0 ≤ _)⟩)
  dsimp only [Pt.U, Pt.locs, Pt.cells, Pt.slots] at X2 l2 y2 z2 st2 hQ2
  subst l2 y2 z2
  obtain ⟨rfl, N2q, Kc2, r2_0⟩ := hQ2
  have N2 := Fr.app N0 N2q
  refine own_go st2 ?_
  have K2 : Keep h0 T2.heap [] := K1.trans Kc2 (allS (P := fun x => x ∈ _ ∨ _ ≤ x) (Or.inr (Nat.le_of_eq g1.symm)) all0)
  refine own_go (A := T2.setTop (mkF m 58 #[.val (.ref sr), .val (.int (0 : Int32)), .val (.int (3 : Int32)), .val (.ref b1), .val (.int (3 : Int32)), .unset] [(.ref b1)])) (fun t_ k_ => ?_) ?_
  · show Steps p.tables e below (T2.setTop (mkF m 12 #[.val (.ref sr), .val (.int (0 : Int32)), .val (.int (3 : Int32)), .val (.ref b1), .unset, .unset] [(.int (3 : Int32))])) t_
    refine XS.istore X2.here hx rfl (hb hby d5_12) rfl (l' := #[.val (.ref sr), .val (.int (0 : Int32)), .val (.int (3 : Int32)), .val (.ref b1), .val (.int (3 : Int32)), .unset]) rfl ?_
    show Steps p.tables e below (T2.setTop (mkF m 14 #[.val (.ref sr), .val (.int (0 : Int32)), .val (.int (3 : Int32)), .val (.ref b1), .val (.int (3 : Int32)), .unset] [])) t_
    refine XS.iload X2.here hx rfl (hb hby d5_14) rfl ?_
    show Steps p.tables e below (T2.setTop (mkF m 16 #[.val (.ref sr), .val (.int (0 : Int32)), .val (.int (3 : Int32)), .val (.ref b1), .val (.int (3 : Int32)), .unset] [(.int (3 : Int32))])) t_
    refine XS.iloadN X2.here hx rfl (hb hby d5_16) rfl ?_
    show Steps p.tables e below (T2.setTop (mkF m 17 #[.val (.ref sr), .val (.int (0 : Int32)), .val (.int (3 : Int32)), .val (.ref b1), .val (.int (3 : Int32)), .unset] [(.int (3 : Int32)), (.int (3 : Int32))])) t_
    refine XS.icmpYes X2.here hx rfl (pc0 := 17) (pc' := 57) rfl (hb hby d5_17) rfl (teq (by decide : (3 : Int32) = (3 : Int32))).1 (by decide) (by decide) ?_
    show Steps p.tables e below (T2.setTop (mkF m 57 #[.val (.ref sr), .val (.int (0 : Int32)), .val (.int (3 : Int32)), .val (.ref b1), .val (.int (3 : Int32)), .unset] [])) t_
    refine XS.aloadN X2.here hx rfl (hb hby d5_57) rfl rfl ?_
    exact k_
  obtain ⟨fs3, hr3, hrun3, hended3, hW3, hsame3⟩ := X2.leave (v := some (.ref b1)) (fun h => by rw [Bd.returns] at h; cases h)
  refine ⟨_, _, ?_, hrun3, hended3, _, _, rfl, ?_, ⟨_, rfl⟩, hW3, hsame3.mono (by decide) (by decide)⟩
  · exact own_retA X2 hx Bd.returns rfl rfl rfl (hb hby d5_58) hr3
  · show Q_rmCmp3 Z sr kc ch0 ch1 ch2 h0 n0 _ T2.heap _
    exact ⟨b1, k1, rfl, N2, K2, (Nat.le_of_eq g1.symm), r2_0⟩
theorem ef_rmCfa3 (m : MethodId) (d : Addr) : entryFrame m #[(.ref d), (.int (3 : Int32))] 2 = mkF m 0 #[.val (.ref d), .val (.int (3 : Int32))] [] := by first | (simp [entryFrame, mkF, argsToLocals, Value.category]; done) | rfl
def Q_rmCfa3 (Z : State) (d : Addr) (k : ClassId) (vs : List Value) (h0 : Heap) (n0 : Nat) (v_ : Option Value) (h_ : Heap) (L_ : List Loc) : Prop := v_ = some (.int (0 : Int32)) ∧ Fr n0 L_ ∧ h_ = h0
set_option maxRecDepth 65536 in
set_option maxHeartbeats 40000000 in
theorem rmCfa3 (l : Launch) (Z : State) (a0 : Array Value) (hw : ∀ d ∈ tables_1, d.before a0 Z = true) (ws : List Jvm.Cond) (d : Addr) (k : ClassId) (vs : List Value) (h0 : Heap) (n0 : Nat) (Z0 : n0 ≤ h0.size) (u0 : Arv Z h0 d k .byte (3 : Int32) vs (.int (0 : Int32))) :
    MetFree l own_y6 (head1 (Jvm.Cond.code own_y6 jdk_52_method_15_code 2 (some .byte) :: ws) ({ frames := 0, cells := 0, slots := 0, locals := 0 } : Room)) (fun a_ U_ => a_ = #[(.ref d), (.int (3 : Int32))] ∧ Z.Warmed39 U_.vm ∧ U_.heap = h0) (fun _ _ _ _ _ => True) (fun _ U_ o_ U2_ => ∃ v_ L_, o_ = .returned v_ ∧ Q_rmCfa3 Z d k vs h0 n0 v_ U2_.heap L_ ∧ FrameEnd U_ o_ U2_ L_ ({ frames := 0, cells := 0, slots := 0, locals := 0 } : Room).cells ({ frames := 0, cells := 0, slots := 0, locals := 0 } : Room).slots) := by
  refine MetFree.of_bodySF (plainFor_of_name pn_2) hisR ?_
  intro p e s m args below meth c s₁ Bd hml0 hP hK
  obtain ⟨rfl, hZ, hh⟩ := hP
  have hx := Bd.exec
  have hby := Bd.bytes
  have hml : c.maxLocals = 2 := hml0
  have hown : s.vm.findClass "java/lang/StringUTF16" = some m.cls := findClass_of_methodNamed Bd.named
  have hnm := (name_of_methodNamed Bd.named Bd.method).1
  have X0 : Stand p l e ({ frames := 0, cells := 0, slots := 0, locals := 0 } : Room) s m #[(.ref d), (.int (3 : Int32))] below meth c s₁ [] 0 0 := Stand.of_body Bd
  have e0 : s₁.heap = h0 := by rw [← hh, Bd.state]; rfl
  have N0 := Fr.nil n0
  refine own_go (A := s₁.setTop (mkF m 0 #[.val (.ref d), .val (.int (3 : Int32))] [])) (fun t_ k_ => castTop (ef_rmCfa3 m d) k_) ?_
  obtain ⟨cl1, Ar1, q1, S1, M1, H1, G1⟩ := id u0
  refine own_go (A := s₁.setTop (mkF m 8 #[.val (.ref d), .val (.int (3 : Int32))] [(.int ((((0 : Int32)).toUInt32 >>> ((31 : Int32) &&& 31).toUInt32).toInt32).toInt8.toInt32)])) (fun t_ k_ => ?_) ?_
  · show Steps p.tables e below (s₁.setTop (mkF m 0 #[.val (.ref d), .val (.int (3 : Int32))] [])) t_
    refine XS.iloadN X0.here hx rfl (hb hby d7_0) rfl ?_
    show Steps p.tables e below (s₁.setTop (mkF m 1 #[.val (.ref d), .val (.int (3 : Int32))] [(.int (3 : Int32))])) t_
    refine XS.aloadN X0.here hx rfl (hb hby d7_1) rfl rfl ?_
    show Steps p.tables e below (s₁.setTop (mkF m 2 #[.val (.ref d), .val (.int (3 : Int32))] [(.ref d), (.int (3 : Int32))])) t_
    refine X0.arraylength hx (by rw [e0]; exact Ar1.1) (State.isArrayOf_alike hZ.alike Ar1.2.1) (g := (mkF m 2 #[.val (.ref d), .val (.int (3 : Int32))] [(.ref d), (.int (3 : Int32))])) rfl rfl (hb hby d7_2) _ ?_
    rw [len_of S1 M1]
    show Steps p.tables e below (s₁.setTop (mkF m 3 #[.val (.ref d), .val (.int (3 : Int32))] [(.int (3 : Int32)), (.int (3 : Int32))])) t_
    refine XS.isub X0.here hx rfl (hb hby d7_3) rfl ?_
    show Steps p.tables e below (s₁.setTop (mkF m 4 #[.val (.ref d), .val (.int (3 : Int32))] [(.int (0 : Int32))])) t_
    refine XS.bipush X0.here hx rfl (hb hby d7_4) ?_
    show Steps p.tables e below (s₁.setTop (mkF m 6 #[.val (.ref d), .val (.int (3 : Int32))] [(.int (31 : Int32)), (.int (0 : Int32))])) t_
    refine XS.iushr X0.here hx rfl (hb hby d7_6) rfl ?_
    show Steps p.tables e below (s₁.setTop (mkF m 7 #[.val (.ref d), .val (.int (3 : Int32))] [(.int (((0 : Int32)).toUInt32 >>> ((31 : Int32) &&& 31).toUInt32).toInt32)])) t_
    refine XS.i2b X0.here hx rfl (hb hby d7_7) rfl ?_
    exact k_
  obtain ⟨fs2, hr2, hrun2, hended2, hW2, hsame2⟩ := X0.leave (v := some (.int (nar .byte ((((0 : Int32)).toUInt32 >>> ((31 : Int32) &&& 31).toUInt32).toInt32).toInt8.toInt32))) (fun h => by rw [Bd.returns] at h; cases h)
  refine ⟨_, _, ?_, hrun2, hended2, _, _, rfl, ?_, ⟨_, rfl⟩, hW2, hsame2.mono (by decide) (by decide)⟩
  · exact retN X0 hx (t := .byte) Bd.returns (by simp) (hb hby d7_8) hr2
  · show Q_rmCfa3 Z d k vs h0 n0 _ s₁.heap _
    rw [e0]
    exact ⟨rfl, N0, rfl⟩
theorem ef_rmSCV3 (m : MethodId) (a : Addr) (sr : Addr) : entryFrame m #[(.ref a), (.ref sr), (.int (0 : Int32)), (.int (3 : Int32)), .null] 6 = mkF m 0 #[.val (.ref a), .val (.ref sr), .val (.int (0 : Int32)), .val (.int (3 : Int32)), .val .null, .unset] [] := by first | (simp [entryFrame, mkF, argsToLocals, Value.category]; done) | rfl
def Q_rmSCV3 (Z : State) (a : Addr) (sr : Addr) (cs : Int32) (kc : ClassId) (ch0 : Int32) (ch1 : Int32) (ch2 : Int32) (h0 : Heap) (n0 : Nat) (v_ : Option Value) (h_ : Heap) (L_ : List Loc) : Prop := ∃ d : Addr, ∃ k : ClassId, v_ = none ∧ Fr n0 L_ ∧ Keep h0 h_ [a] ∧ h0.size ≤ d ∧ Fld Z h_ a "java/lang/String" "value" "[B" (.ref d) ∧ Fld Z h_ a "java/lang/String" "coder" "B" (.int (0 : Int32)) ∧ Arv Z h_ d k .byte (3 : Int32) [(.int (ch0).toInt8.toInt32), (.int (ch1).toInt8.toInt32), (.int (ch2).toInt8.toInt32)] (.int (0 : Int32))
set_option maxRecDepth 65536 in
set_option maxHeartbeats 40000000 in
theorem rmSCV3 (l : Launch) (Z : State) (a0 : Array Value) (hw : ∀ d ∈ tables_1, d.before a0 Z = true) (ws : List Jvm.Cond) (a : Addr) (sr : Addr) (cs : Int32) (kc : ClassId) (ch0 : Int32) (ch1 : Int32) (ch2 : Int32) (h0 : Heap) (n0 : Nat) (Z0 : n0 ≤ h0.size) (O0 : Old Z n0 h0) (u1 : Sta Z Z.heap "java/lang/String" "COMPACT_STRINGS" "Z" (.int cs)) (hcs : ¬ (cs = (0 : Int32))) (u3 : Exa Z h0 a "java/lang/String") (u4 : Fld Z h0 a "java/lang/String" "value" "[B" .null) (u5 : Fld Z h0 a "java/lang/String" "coder" "B" (.int (0 : Int32))) (u6 : n0 ≤ a) (u7 : Arv Z h0 sr kc .char (3 : Int32) [(.int ch0), (.int ch1), (.int ch2)] (.int (0 : Int32))) (hch0 : ¬ ((255 : Int32) < ch0)) (hch1 : ¬ ((255 : Int32) < ch1)) (hch2 : ¬ ((255 : Int32) < ch2)) :
    MetFree l own_y7 (head1 (Jvm.Cond.code own_y7 jdk_42_method_149_code 6 none :: ws) ({ frames := 2, cells := 1, slots := 3, locals := 35 } : Room)) (fun a_ U_ => a_ = #[(.ref a), (.ref sr), (.int (0 : Int32)), (.int (3 : Int32)), .null] ∧ Z.Warmed39 U_.vm ∧ U_.heap = h0) (fun _ _ _ _ _ => True) (fun _ U_ o_ U2_ => ∃ v_ L_, o_ = .returned v_ ∧ Q_rmSCV3 Z a sr cs kc ch0 ch1 ch2 h0 n0 v_ U2_.heap L_ ∧ FrameEnd U_ o_ U2_ L_ ({ frames := 2, cells := 1, slots := 3, locals := 35 } : Room).cells ({ frames := 2, cells := 1, slots := 3, locals := 35 } : Room).slots) := by
  refine MetFree.of_bodySF (plainFor_of_name pn_1) hisR ?_
  intro p e s m args below meth c s₁ Bd hml0 hP hK
  obtain ⟨rfl, hZ, hh⟩ := hP
  have hx := Bd.exec
  have hby := Bd.bytes
  have hml : c.maxLocals = 6 := hml0
  have hown : s.vm.findClass "java/lang/String" = some m.cls := findClass_of_methodNamed Bd.named
  have hnm := (name_of_methodNamed Bd.named Bd.method).1
  have X0 : Stand p l e ({ frames := 2, cells := 1, slots := 3, locals := 35 } : Room) s m #[(.ref a), (.ref sr), (.int (0 : Int32)), (.int (3 : Int32)), .null] below meth c s₁ [] 0 0 := Stand.of_body Bd
  have e0 : s₁.heap = h0 := by rw [← hh, Bd.state]; rfl
  have N0 := Fr.nil n0
  refine own_go (A := s₁.setTop (mkF m 0 #[.val (.ref a), .val (.ref sr), .val (.int (0 : Int32)), .val (.int (3 : Int32)), .val .null, .unset] [])) (fun t_ k_ => castTop (ef_rmSCV3 m a sr) k_) ?_
  refine own_go (A := s₁.setTop (mkF m 1 #[.val (.ref a), .val (.ref sr), .val (.int (0 : Int32)), .val (.int (3 : Int32)), .val .null, .unset] [(.ref a)])) (fun t_ k_ => ?_) ?_
  · show Steps p.tables e below (s₁.setTop (mkF m 0 #[.val (.ref a), .val (.ref sr), .val (.int (0 : Int32)), .val (.int (3 : Int32)), .val .null, .unset] [])) t_
    refine XS.aloadN X0.here hx rfl (hb hby d3_0) rfl rfl ?_
    exact k_
  obtain ⟨T1, X1, e1, st1⟩ := initO X0 hx hZ hown (own_w hw 15 rfl) (own_w hw 16 rfl) (own_w hw 17 rfl) e0 (g := (mkF m 1 #[.val (.ref a), .val (.ref sr), .val (.int (0 : Int32)), .val (.int (3 : Int32)), .val .null, .unset] [(.ref a)])) rfl (by rw [hml]; rfl) rfl (hb hby d3_1) (by decide) (W := 0) (by show 2 * 0 + _ ≤ _; exact Nat.le_of_eq rfl) (by decide)
  refine own_go st1 ?_
  refine own_go (A := T1.setTop (mkF m 27 #[.val (.ref a), .val (.ref sr), .val (.int (0 : Int32)), .val (.int (3 : Int32)), .val .null, .unset] [])) (fun t_ k_ => ?_) ?_
  · show Steps p.tables e below (T1.setTop (mkF m 4 #[.val (.ref a), .val (.ref sr), .val (.int (0 : Int32)), .val (.int (3 : Int32)), .val .null, .unset] [])) t_
    refine XS.iloadN X1.here hx rfl (hb hby d3_4) rfl ?_
    show Steps p.tables e below (T1.setTop (mkF m 5 #[.val (.ref a), .val (.ref sr), .val (.int (0 : Int32)), .val (.int (3 : Int32)), .val .null, .unset] [(.int (3 : Int32))])) t_
    refine XS.ifYes X1.here hx rfl (pc0 := 5) (pc' := 27) rfl (hb hby d3_5) rfl ((if0 _ _).trans (feq (by decide : ¬ ((3 : Int32) = (0 : Int32)))).2) (by decide) (by decide) ?_
    exact k_
  obtain ⟨T2, X2, e2, st2⟩ := getS2 X1 hx hZ hown (host := "") (Or.inl (own_w hw 27 rfl)) Via.refl e1 (u1.ext O0.2) (g := (mkF m 27 #[.val (.ref a), .val (.ref sr), .val (.int (0 : Int32)), .val (.int (3 : Int32)), .val .null, .unset] [])) rfl (hb hby d3_27)
  refine own_go st2 ?_
  refine own_go (A := T2.setTop (mkF m 36 #[.val (.ref a), .val (.ref sr), .val (.int (0 : Int32)), .val (.int (3 : Int32)), .val .null, .unset] [(.int (3 : Int32)), (.int (0 : Int32)), (.ref sr)])) (fun t_ k_ => ?_) ?_
  · show Steps p.tables e below (T2.setTop (mkF m 30 #[.val (.ref a), .val (.ref sr), .val (.int (0 : Int32)), .val (.int (3 : Int32)), .val .null, .unset] [(.int cs)])) t_
    refine XS.ifNo X2.here hx rfl (hb hby d3_30) rfl ((if0 _ _).trans (feq hcs).1) ?_
    show Steps p.tables e below (T2.setTop (mkF m 33 #[.val (.ref a), .val (.ref sr), .val (.int (0 : Int32)), .val (.int (3 : Int32)), .val .null, .unset] [])) t_
    refine XS.aloadN X2.here hx rfl (hb hby d3_33) rfl rfl ?_
    show Steps p.tables e below (T2.setTop (mkF m 34 #[.val (.ref a), .val (.ref sr), .val (.int (0 : Int32)), .val (.int (3 : Int32)), .val .null, .unset] [(.ref sr)])) t_
    refine XS.iloadN X2.here hx rfl (hb hby d3_34) rfl ?_
    show Steps p.tables e below (T2.setTop (mkF m 35 #[.val (.ref a), .val (.ref sr), .val (.int (0 : Int32)), .val (.int (3 : Int32)), .val .null, .unset] [(.int (0 : Int32)), (.ref sr)])) t_
    refine XS.iloadN X2.here hx rfl (hb hby d3_35) rfl ?_
    exact k_
  obtain ⟨_, _, ⟨T3, L3, k3, n3⟩, -, X3, ⟨Lc3, hQ3, l3, y3, z3⟩, st3⟩ := Jvm.LawKit.callS X2 hx (y := own_y5) hown (mvT hZ (own_w hw 28 rfl)) (mvT hZ (own_w hw 29 rfl)) (mvT hZ (own_w hw 30 rfl)) (mvT hZ (own_w hw 31 rfl)) (by decide) (backOf (W := 0) (rmCmp3 l Z a0 hw [] sr kc ch0 ch1 ch2 h0 n0 Z0 u7 hch0 hch1 hch2) hZ (own_w hw 31 rfl) (own_w hw 30 rfl) (by decide) (by decide)) (g := (mkF m 36 #[.val (.ref a), .val (.ref sr), .val (.int (0 : Int32)), .val (.int (3 : Int32)), .val .null, .unset] [(.int (3 : Int32)), (.int (0 : Int32)), (.ref sr)])) rfl (by rw [hml]; rfl) (argsL := [(.ref sr), (.int (0 : Int32)), (.int (3 : Int32))]) (rest := []) (lenOf pd_4 rfl) rfl (by show 2 * 0 + _ ≤ _; exact Nat.le_of_eq rfl) (hb hby d3_36) (fun _ _ => ⟨rfl, e2, (by decide : 0 + 1 ≤ _), (by decide : 0 + 3 ≤ _)⟩)
  dsimp only [Pt.U, Pt.locs, Pt.cells, Pt.slots] at X3 l3 y3 z3 st3 hQ3
  subst l3 y3 z3
  obtain ⟨d_3, k_3, rfl, N3q, Kc3, r3_0, r3_1⟩ := hQ3
  have N3 := Fr.app N0 N3q
  refine own_go st3 ?_
  have K3 : Keep h0 T3.heap [a] := (Keep.refl h0 [a]).trans Kc3 all0
  have O3 := O0.keep Kc3 all0
  refine own_go (A := T3.setTop (mkF m 45 #[.val (.ref a), .val (.ref sr), .val (.int (0 : Int32)), .val (.int (3 : Int32)), .val .null, .val (.ref d_3)] [(.int (3 : Int32)), (.ref d_3), (.ref a)])) (fun t_ k_ => ?_) ?_
  · show Steps p.tables e below (T3.setTop (mkF m 39 #[.val (.ref a), .val (.ref sr), .val (.int (0 : Int32)), .val (.int (3 : Int32)), .val .null, .unset] [(.ref d_3)])) t_
    refine XS.astore X3.here hx rfl (hb hby d3_39) rfl rfl (l' := #[.val (.ref a), .val (.ref sr), .val (.int (0 : Int32)), .val (.int (3 : Int32)), .val .null, .val (.ref d_3)]) rfl ?_
    show Steps p.tables e below (T3.setTop (mkF m 41 #[.val (.ref a), .val (.ref sr), .val (.int (0 : Int32)), .val (.int (3 : Int32)), .val .null, .val (.ref d_3)] [])) t_
    refine XS.aloadN X3.here hx rfl (hb hby d3_41) rfl rfl ?_
    show Steps p.tables e below (T3.setTop (mkF m 42 #[.val (.ref a), .val (.ref sr), .val (.int (0 : Int32)), .val (.int (3 : Int32)), .val .null, .val (.ref d_3)] [(.ref a)])) t_
    refine XS.aload X3.here hx rfl (hb hby d3_42) rfl rfl ?_
    show Steps p.tables e below (T3.setTop (mkF m 44 #[.val (.ref a), .val (.ref sr), .val (.int (0 : Int32)), .val (.int (3 : Int32)), .val .null, .val (.ref d_3)] [(.ref d_3), (.ref a)])) t_
    refine XS.iloadN X3.here hx rfl (hb hby d3_44) rfl ?_
    exact k_
  obtain ⟨_, _, ⟨T4, L4, k4, n4⟩, -, X4, ⟨Lc4, hQ4, l4, y4, z4⟩, st4⟩ := Jvm.LawKit.callS X3 hx (y := own_y6) hown (mvT hZ (own_w hw 35 rfl)) (mvT hZ (own_w hw 36 rfl)) (mvT hZ (own_w hw 30 rfl)) (mvT hZ (own_w hw 37 rfl)) (by decide) (backOf (W := 1) (rmCfa3 l Z a0 hw [] d_3 k_3 [(.int (ch0).toInt8.toInt32), (.int (ch1).toInt8.toInt32), (.int (ch2).toInt8.toInt32)] T3.heap n0 (Nat.le_trans Z0 K3.1) r3_1) hZ (own_w hw 37 rfl) (own_w hw 30 rfl) (by decide) (by decide)) (g := (mkF m 45 #[.val (.ref a), .val (.ref sr), .val (.int (0 : Int32)), .val (.int (3 : Int32)), .val .null, .val (.ref d_3)] [(.int (3 : Int32)), (.ref d_3), (.ref a)])) rfl (by rw [hml]; rfl) (argsL := [(.ref d_3), (.int (3 : Int32))]) (rest := [(.ref a)]) (lenOf pd_5 rfl) rfl (by show 2 * 0 + _ ≤ _; exact Nat.le_of_eq rfl) (hb hby d3_45) (fun _ _ => ⟨rfl, rfl, (by decide : 1 + 0 ≤ _), (by decide : 3 + 0 ≤ _)⟩)
  dsimp only [Pt.U, Pt.locs, Pt.cells, Pt.slots] at X4 l4 y4 z4 st4 hQ4
  subst l4 y4 z4
  obtain ⟨rfl, N4q, eh4⟩ := hQ4
  have N4 := Fr.app N3 N4q
  refine own_go st4 ?_
  obtain ⟨T5, h5, X5, e5, W5, st5⟩ := putFN X4 hx hZ hown (own_w hw 25 rfl) Via.refl eh4 (u5.keep Kc3 nin0) (u3.keep Kc3) (Or.inr ⟨(own_w hw 21 rfl), rfl, hnm⟩) (own_w hw 5 rfl) (ty := .byte) (v' := (.int (0 : Int32))) (by decide) rfl rfl (g := (mkF m 48 #[.val (.ref a), .val (.ref sr), .val (.int (0 : Int32)), .val (.int (3 : Int32)), .val .null, .val (.ref d_3)] [(.int (0 : Int32)), (.ref a)])) rfl rfl (hb hby d3_48)
  have Fw5 : Fld Z h5 a "java/lang/String" "coder" "B" (.int (0 : Int32)) := (u5.keep Kc3 nin0).same W5
  refine own_go st5 ?_
  have K5 : Keep h0 h5 [a] := K3.wr W5 (Or.inl (List.mem_of_getElem? (i := 0) rfl))
  have O5 := O3.wr W5 u6
  have N5 := Fr.snoc X5 N4 u6
  refine own_go (A := T5.setTop (mkF m 54 #[.val (.ref a), .val (.ref sr), .val (.int (0 : Int32)), .val (.int (3 : Int32)), .val .null, .val (.ref d_3)] [(.ref d_3), (.ref a)])) (fun t_ k_ => ?_) ?_
  · show Steps p.tables e below (T5.setTop (mkF m 51 #[.val (.ref a), .val (.ref sr), .val (.int (0 : Int32)), .val (.int (3 : Int32)), .val .null, .val (.ref d_3)] [])) t_
    refine XS.aloadN X5.here hx rfl (hb hby d3_51) rfl rfl ?_
    show Steps p.tables e below (T5.setTop (mkF m 52 #[.val (.ref a), .val (.ref sr), .val (.int (0 : Int32)), .val (.int (3 : Int32)), .val .null, .val (.ref d_3)] [(.ref a)])) t_
    refine XS.aload X5.here hx rfl (hb hby d3_52) rfl rfl ?_
    exact k_
  obtain ⟨T6, h6, X6, e6, W6, st6⟩ := putF X5 hx hZ hown (host := "") (Or.inl (own_w hw 24 rfl)) Via.refl e5 ((u4.keep Kc3 nin0).other W5 (Or.inr (slot_ne (Or.inr (own_w hw 20 rfl)) (Or.inr (own_w hw 21 rfl)) (by decide) (t := (.array .byte)) (t' := .byte) (by decide) (by decide)))) ((u3.keep Kc3).wr W5) (Or.inr ⟨(own_w hw 20 rfl), rfl, hnm⟩) (own_w hw 5 rfl) (ty := (.array .byte)) (by decide) rfl rfl (g := (mkF m 54 #[.val (.ref a), .val (.ref sr), .val (.int (0 : Int32)), .val (.int (3 : Int32)), .val .null, .val (.ref d_3)] [(.ref d_3), (.ref a)])) rfl rfl (hb hby d3_54)
  have Fw6 : Fld Z h6 a "java/lang/String" "value" "[B" (.ref d_3) := ((u4.keep Kc3 nin0).other W5 (Or.inr (slot_ne (Or.inr (own_w hw 20 rfl)) (Or.inr (own_w hw 21 rfl)) (by decide) (t := (.array .byte)) (t' := .byte) (by decide) (by decide)))).same W6
  refine own_go st6 ?_
  have K6 : Keep h0 h6 [a] := K5.wr W6 (Or.inl (List.mem_of_getElem? (i := 0) rfl))
  have O6 := O5.wr W6 u6
  have N6 := Fr.snoc X6 N5 u6
  obtain ⟨fs7, hr7, hrun7, hended7, hW7, hsame7⟩ := X6.leave (v := none) (fun _ => rfl)
  refine ⟨_, _, ?_, hrun7, hended7, _, _, rfl, ?_, ⟨_, rfl⟩, hW7, hsame7.mono (by decide) (by decide)⟩
  · exact X6.returnOut hx Bd.returns (hb hby d3_57) hr7
  · show Q_rmSCV3 Z a sr cs kc ch0 ch1 ch2 h0 n0 _ T6.heap _
    rw [e6]
    exact ⟨d_3, k_3, rfl, N6, K6, r3_0, Fw6, (Fw5.other W6 (Or.inr (slot_ne (Or.inr (own_w hw 21 rfl)) (Or.inr (own_w hw 20 rfl)) (by decide) (t := .byte) (t' := (.array .byte)) (by decide) (by decide)))), ((r3_1.other W5 (Ne.symm (Nat.ne_of_lt (Nat.lt_of_lt_of_le u3.lt r3_0)))).other W6 (Ne.symm (Nat.ne_of_lt (Nat.lt_of_lt_of_le u3.lt r3_0))))⟩
theorem ef_rmSC3 (m : MethodId) (a : Addr) (sr : Addr) : entryFrame m #[(.ref a), (.ref sr)] 2 = mkF m 0 #[.val (.ref a), .val (.ref sr)] [] := by first | (simp [entryFrame, mkF, argsToLocals, Value.category]; done) | rfl
def Q_rmSC3 (Z : State) (a : Addr) (sr : Addr) (cs : Int32) (kc : ClassId) (ch0 : Int32) (ch1 : Int32) (ch2 : Int32) (h0 : Heap) (n0 : Nat) (v_ : Option Value) (h_ : Heap) (L_ : List Loc) : Prop := ∃ d : Addr, ∃ k : ClassId, v_ = none ∧ Fr n0 L_ ∧ Keep h0 h_ [a] ∧ h0.size ≤ d ∧ Fld Z h_ a "java/lang/String" "value" "[B" (.ref d) ∧ Fld Z h_ a "java/lang/String" "coder" "B" (.int (0 : Int32)) ∧ Arv Z h_ d k .byte (3 : Int32) [(.int (ch0).toInt8.toInt32), (.int (ch1).toInt8.toInt32), (.int (ch2).toInt8.toInt32)] (.int (0 : Int32))
set_option maxRecDepth 65536 in
set_option maxHeartbeats 40000000 in
theorem rmSC3 (l : Launch) (Z : State) (a0 : Array Value) (hw : ∀ d ∈ tables_1, d.before a0 Z = true) (ws : List Jvm.Cond) (a : Addr) (sr : Addr) (cs : Int32) (kc : ClassId) (ch0 : Int32) (ch1 : Int32) (ch2 : Int32) (h0 : Heap) (n0 : Nat) (Z0 : n0 ≤ h0.size) (O0 : Old Z n0 h0) (u1 : Sta Z Z.heap "java/lang/String" "COMPACT_STRINGS" "Z" (.int cs)) (hcs : ¬ (cs = (0 : Int32))) (u3 : Exa Z h0 a "java/lang/String") (u4 : Fld Z h0 a "java/lang/String" "value" "[B" .null) (u5 : Fld Z h0 a "java/lang/String" "coder" "B" (.int (0 : Int32))) (u6 : n0 ≤ a) (u7 : Arv Z h0 sr kc .char (3 : Int32) [(.int ch0), (.int ch1), (.int ch2)] (.int (0 : Int32))) (hch0 : ¬ ((255 : Int32) < ch0)) (hch1 : ¬ ((255 : Int32) < ch1)) (hch2 : ¬ ((255 : Int32) < ch2)) :
    MetFree l own_y8 (head1 (Jvm.Cond.code own_y8 jdk_42_method_3_code 2 none :: ws) ({ frames := 3, cells := 1, slots := 3, locals := 52 } : Room)) (fun a_ U_ => a_ = #[(.ref a), (.ref sr)] ∧ Z.Warmed39 U_.vm ∧ U_.heap = h0) (fun _ _ _ _ _ => True) (fun _ U_ o_ U2_ => ∃ v_ L_, o_ = .returned v_ ∧ Q_rmSC3 Z a sr cs kc ch0 ch1 ch2 h0 n0 v_ U2_.heap L_ ∧ FrameEnd U_ o_ U2_ L_ ({ frames := 3, cells := 1, slots := 3, locals := 52 } : Room).cells ({ frames := 3, cells := 1, slots := 3, locals := 52 } : Room).slots) := by
  refine MetFree.of_bodySF (plainFor_of_name pn_1) hisR ?_
  intro p e s m args below meth c s₁ Bd hml0 hP hK
  obtain ⟨rfl, hZ, hh⟩ := hP
  have hx := Bd.exec
  have hby := Bd.bytes
  have hml : c.maxLocals = 2 := hml0
  have hown : s.vm.findClass "java/lang/String" = some m.cls := findClass_of_methodNamed Bd.named
  have hnm := (name_of_methodNamed Bd.named Bd.method).1
  have X0 : Stand p l e ({ frames := 3, cells := 1, slots := 3, locals := 52 } : Room) s m #[(.ref a), (.ref sr)] below meth c s₁ [] 0 0 := Stand.of_body Bd
  have e0 : s₁.heap = h0 := by rw [← hh, Bd.state]; rfl
  have N0 := Fr.nil n0
  refine own_go (A := s₁.setTop (mkF m 0 #[.val (.ref a), .val (.ref sr)] [])) (fun t_ k_ => castTop (ef_rmSC3 m a sr) k_) ?_
  obtain ⟨cl1, Ar1, q1, S1, M1, H1, G1⟩ := id u7
  refine own_go (A := s₁.setTop (mkF m 6 #[.val (.ref a), .val (.ref sr)] [.null, (.int (3 : Int32)), (.int (0 : Int32)), (.ref sr), (.ref a)])) (fun t_ k_ => ?_) ?_
  · show Steps p.tables e below (s₁.setTop (mkF m 0 #[.val (.ref a), .val (.ref sr)] [])) t_
    refine XS.aloadN X0.here hx rfl (hb hby d2_0) rfl rfl ?_
    show Steps p.tables e below (s₁.setTop (mkF m 1 #[.val (.ref a), .val (.ref sr)] [(.ref a)])) t_
    refine XS.aloadN X0.here hx rfl (hb hby d2_1) rfl rfl ?_
    show Steps p.tables e below (s₁.setTop (mkF m 2 #[.val (.ref a), .val (.ref sr)] [(.ref sr), (.ref a)])) t_
    refine XS.iconst X0.here hx rfl (hb hby d2_2) ?_
    show Steps p.tables e below (s₁.setTop (mkF m 3 #[.val (.ref a), .val (.ref sr)] [(.int (0 : Int32)), (.ref sr), (.ref a)])) t_
    refine XS.aloadN X0.here hx rfl (hb hby d2_3) rfl rfl ?_
    show Steps p.tables e below (s₁.setTop (mkF m 4 #[.val (.ref a), .val (.ref sr)] [(.ref sr), (.int (0 : Int32)), (.ref sr), (.ref a)])) t_
    refine X0.arraylength hx (by rw [e0]; exact Ar1.1) (State.isArrayOf_alike hZ.alike Ar1.2.1) (g := (mkF m 4 #[.val (.ref a), .val (.ref sr)] [(.ref sr), (.int (0 : Int32)), (.ref sr), (.ref a)])) rfl rfl (hb hby d2_4) _ ?_
    rw [len_of S1 M1]
    show Steps p.tables e below (s₁.setTop (mkF m 5 #[.val (.ref a), .val (.ref sr)] [(.int (3 : Int32)), (.int (0 : Int32)), (.ref sr), (.ref a)])) t_
    refine XS.aconstNull X0.here hx rfl (hb hby d2_5) ?_
    exact k_
  obtain ⟨_, _, ⟨T2, L2, k2, n2⟩, -, X2, ⟨Lc2, hQ2, l2, y2, z2⟩, st2⟩ := X0.specialBack hx (y := own_y7) rfl hown (mvT hZ (own_w hw 11 rfl)) (mvT hZ (own_w hw 12 rfl)) (mvT hZ (own_w hw 14 rfl)) (by decide) (backOf (W := 0) (rmSCV3 l Z a0 hw [] a sr cs kc ch0 ch1 ch2 h0 n0 Z0 O0 u1 hcs u3 u4 u5 u6 u7 hch0 hch1 hch2) hZ (own_w hw 14 rfl) (own_w hw 6 rfl) (by decide) (by decide)) (g := (mkF m 6 #[.val (.ref a), .val (.ref sr)] [.null, (.int (3 : Int32)), (.int (0 : Int32)), (.ref sr), (.ref a)])) rfl (by rw [hml]; rfl) (Steps.refl _) (a := a) (argsL := [(.ref sr), (.int (0 : Int32)), (.int (3 : Int32)), .null]) (rest := []) (lenOf pd_6 rfl) rfl (by show 2 * 0 + _ ≤ _; exact Nat.le_of_eq rfl) (hb hby d2_6) (fun _ _ => ⟨rfl, e0, (by decide : 0 + 1 ≤ _), (by decide : 0 + 3 ≤ _)⟩)
  dsimp only [Pt.U, Pt.locs, Pt.cells, Pt.slots] at X2 l2 y2 z2 st2 hQ2
  subst l2 y2 z2
  obtain ⟨d_2, k_2, rfl, N2q, Kc2, r2_0, r2_1, r2_2, r2_3⟩ := hQ2
  have N2 := Fr.app N0 N2q
  refine own_via st2 ?_
  have K2 : Keep h0 T2.heap [a] := (Keep.refl h0 [a]).trans Kc2 (allS (P := fun x => x ∈ _ ∨ _ ≤ x) (Or.inl (List.mem_of_getElem? (i := 0) rfl)) all0)
  have O2 := O0.keep Kc2 (allS (P := fun x => n0 ≤ x) u6 all0)
  obtain ⟨fs3, hr3, hrun3, hended3, hW3, hsame3⟩ := X2.leave (v := none) (fun _ => rfl)
  refine ⟨_, _, ?_, hrun3, hended3, _, _, rfl, ?_, ⟨_, rfl⟩, hW3, hsame3.mono (by decide) (by decide)⟩
  · exact X2.returnOut hx Bd.returns (hb hby d2_9) hr3
  · show Q_rmSC3 Z a sr cs kc ch0 ch1 ch2 h0 n0 _ T2.heap _
    exact ⟨d_2, k_2, rfl, N2, K2, r2_0, r2_1, r2_2, r2_3⟩
theorem own_safeS {Z : State} {EL : List (String × Nat)} {vm : Vm} {h : Heap} {a : Addr} (hal : Z.vm.Alike vm) (E : Exa Z h a "java/lang/String") (F : Fld Z h a "java/lang/String" "value" "[B" .null) : Safe Z EL vm h a := by
  intro B
  obtain ⟨cell, k, e1, e2, e3, -, -⟩ := E
  obtain ⟨cell', cf, kf, i, f, f1, f2, -, -, -, -, f7⟩ := F
  cases e1.symm.trans f1
  obtain ⟨p, -, u, a', -, q, -, G, hq⟩ := B
  rcases hq with rfl | rfl
  · cases (show h[q.sa]? = some q.sC from G.ha).symm.trans e1
    obtain ⟨cS, ⟨⟨-, -, -, ⟨c1, k1, i1, g1, -⟩, -, -, -, g2, -⟩, -, -⟩, -⟩ := G
    obtain ⟨k2, g3⟩ := ff_back (U := Wst Z vm h) hal g1
    have g4 : Z.fieldFound? "java/lang/String" "value" "[B" = some (c1, k2, i1, q.fSV) := g3
    have g5 := f2.symm.trans g4
    simp only [Option.some.injEq, Prod.mk.injEq] at g5
    obtain ⟨-, -, -, g6⟩ := g5
    rw [← g6, f7] at g2
    cases g2
  · cases (show h[q.sd]? = some q.SA from G.hd).symm.trans e1
    obtain ⟨cS, -, -, g, -⟩ := G
    have g' : vm.findClass "[B" = some q.SA.cls := g
    rw [hal.findClass] at g'
    obtain ⟨k1, q1, q2⟩ := Vm.findClass_spec g'
    obtain ⟨k2, q3, q4⟩ := Vm.findClass_spec e2
    cases q1.symm.trans q3
    exact absurd (q2.symm.trans q4) (by decide)
theorem d3_8 : decode jdk_42_method_149_code 8 = .ok (.aload_n 0, 1) := by decide +kernel
theorem d3_9 : decode jdk_42_method_149_code 9 = .ok (.ldc 7, 2) := by decide +kernel
theorem d3_11 : decode jdk_42_method_149_code 11 = .ok (.getfield 9, 3) := by decide +kernel
theorem d3_14 : decode jdk_42_method_149_code 14 = .ok (.putfield 9, 3) := by decide +kernel
theorem d3_17 : decode jdk_42_method_149_code 17 = .ok (.aload_n 0, 1) := by decide +kernel
theorem d3_18 : decode jdk_42_method_149_code 18 = .ok (.ldc 7, 2) := by decide +kernel
theorem d3_20 : decode jdk_42_method_149_code 20 = .ok (.getfield 15, 3) := by decide +kernel
theorem d3_23 : decode jdk_42_method_149_code 23 = .ok (.putfield 15, 3) := by decide +kernel
theorem d3_26 : decode jdk_42_method_149_code 26 = .ok (.return_, 1) := by decide +kernel
theorem ef_rmSCV0 (m : MethodId) (a : Addr) (sr : Addr) : entryFrame m #[(.ref a), (.ref sr), (.int (0 : Int32)), (.int (0 : Int32)), .null] 6 = mkF m 0 #[.val (.ref a), .val (.ref sr), .val (.int (0 : Int32)), .val (.int (0 : Int32)), .val .null, .unset] [] := by first | (simp [entryFrame, mkF, argsToLocals, Value.category]; done) | rfl
def Q_rmSCV0 (Z : State) (a : Addr) (sr : Addr) (kc : ClassId) (h0 : Heap) (n0 : Nat) (v_ : Option Value) (h_ : Heap) (L_ : List Loc) : Prop := ∃ d : Addr, ∃ k : ClassId, v_ = none ∧ Fr n0 L_ ∧ Keep h0 h_ [a] ∧ Fld Z h_ a "java/lang/String" "value" "[B" (.ref d) ∧ Fld Z h_ a "java/lang/String" "coder" "B" (.int (0 : Int32)) ∧ Arv Z h_ d k .byte (0 : Int32) [] (.int (0 : Int32))
set_option maxRecDepth 65536 in
set_option maxHeartbeats 40000000 in
theorem rmSCV0 (l : Launch) (Z : State) (a0 : Array Value) (hw : ∀ d ∈ tables_1, d.before a0 Z = true) (ws : List Jvm.Cond) (a : Addr) (sr : Addr) (kc : ClassId) (h0 : Heap) (n0 : Nat) (Z0 : n0 ≤ h0.size) (u0 : Exa Z h0 a "java/lang/String") (u1 : Fld Z h0 a "java/lang/String" "value" "[B" .null) (u2 : Fld Z h0 a "java/lang/String" "coder" "B" (.int (0 : Int32))) (u3 : n0 ≤ a) (u4 : Arv Z h0 sr kc .char (0 : Int32) [] (.int (0 : Int32))) :
    MetFree l own_y7 (head1 (Jvm.Cond.code own_y7 jdk_42_method_149_code 6 none :: ws) ({ frames := 1, cells := 4, slots := 8, locals := 12 } : Room)) (fun a_ U_ => a_ = #[(.ref a), (.ref sr), (.int (0 : Int32)), (.int (0 : Int32)), .null] ∧ Z.Warmed39 U_.vm ∧ U_.heap = h0 ∧ CHv Z own_EL U_.vm h0) (fun _ _ _ _ _ => True) (fun _ U_ o_ U2_ => ∃ v_ L_, o_ = .returned v_ ∧ Q_rmSCV0 Z a sr kc h0 n0 v_ U2_.heap L_ ∧ CHr Z own_EL U_.vm U_.heap U2_.vm U2_.heap ∧ ReturnedEndW U_ o_ U2_ L_ ({ frames := 1, cells := 4, slots := 8, locals := 12 } : Room).cells ({ frames := 1, cells := 4, slots := 8, locals := 12 } : Room).slots) := by
  refine MetFree.of_bodySF (plainFor_of_name pn_1) hisR ?_
  intro p e s m args below meth c s₁ Bd hml0 hP hK
  obtain ⟨rfl, hZ, hh, hC⟩ := hP
  have hx := Bd.exec
  have hby := Bd.bytes
  have hml : c.maxLocals = 6 := hml0
  have hown : s.vm.findClass "java/lang/String" = some m.cls := findClass_of_methodNamed Bd.named
  have hnm := (name_of_methodNamed Bd.named Bd.method).1
  have X0 : Stand p l e ({ frames := 1, cells := 4, slots := 8, locals := 12 } : Room) (s.setVm s.vm) m #[(.ref a), (.ref sr), (.int (0 : Int32)), (.int (0 : Int32)), .null] below meth c s₁ [] 0 0 := Stand.of_body Bd
  have e0 : s₁.heap = h0 := by rw [← hh, Bd.state]; rfl
  have N0 := Fr.nil n0
  have hS : s.Since s.vm h0.size := (State.WarmedH.refl s).since _
  have hk := Nat.le_refl h0.size
  have hSA := own_strA hw
  have hEL := own_EW hw
  have R0 : CHr Z own_EL s.vm h0 s.vm h0 := CHr.refl hC
  refine own_go (A := s₁.setTop (mkF m 0 #[.val (.ref a), .val (.ref sr), .val (.int (0 : Int32)), .val (.int (0 : Int32)), .val .null, .unset] [])) (fun t_ k_ => castTop (ef_rmSCV0 m a sr) k_) ?_
  have Qa := own_safeS (EL := own_EL) hZ.alike u0 u1
  refine own_go (A := s₁.setTop (mkF m 1 #[.val (.ref a), .val (.ref sr), .val (.int (0 : Int32)), .val (.int (0 : Int32)), .val .null, .unset] [(.ref a)])) (fun t_ k_ => ?_) ?_
  · show Steps p.tables e below (s₁.setTop (mkF m 0 #[.val (.ref a), .val (.ref sr), .val (.int (0 : Int32)), .val (.int (0 : Int32)), .val .null, .unset] [])) t_
    refine XS.aloadN X0.here hx rfl (hb hby d3_0) rfl rfl ?_
    exact k_
  obtain ⟨T1, X1, e1, st1⟩ := initO X0 hx hZ hown (own_w hw 15 rfl) (own_w hw 16 rfl) (own_w hw 17 rfl) e0 (g := (mkF m 1 #[.val (.ref a), .val (.ref sr), .val (.int (0 : Int32)), .val (.int (0 : Int32)), .val .null, .unset] [(.ref a)])) rfl (by rw [hml]; rfl) rfl (hb hby d3_1) (by decide) (W := 0) (by show 2 * 0 + _ ≤ _; exact Nat.le_of_eq rfl) (by decide)
  refine own_go st1 ?_
  refine own_go (A := T1.setTop (mkF m 9 #[.val (.ref a), .val (.ref sr), .val (.int (0 : Int32)), .val (.int (0 : Int32)), .val .null, .unset] [(.ref a)])) (fun t_ k_ => ?_) ?_
  · show Steps p.tables e below (T1.setTop (mkF m 4 #[.val (.ref a), .val (.ref sr), .val (.int (0 : Int32)), .val (.int (0 : Int32)), .val .null, .unset] [])) t_
    refine XS.iloadN X1.here hx rfl (hb hby d3_4) rfl ?_
    show Steps p.tables e below (T1.setTop (mkF m 5 #[.val (.ref a), .val (.ref sr), .val (.int (0 : Int32)), .val (.int (0 : Int32)), .val .null, .unset] [(.int (0 : Int32))])) t_
    refine XS.ifNo X1.here hx rfl (hb hby d3_5) rfl ((if0 _ _).trans (teq (by decide : (0 : Int32) = (0 : Int32))).2) ?_
    show Steps p.tables e below (T1.setTop (mkF m 8 #[.val (.ref a), .val (.ref sr), .val (.int (0 : Int32)), .val (.int (0 : Int32)), .val .null, .unset] [])) t_
    refine XS.aloadN X1.here hx rfl (hb hby d3_8) rfl rfl ?_
    exact k_
  obtain ⟨b2, T2, h2, k2, d2, kk2, X2, e2, E2, hS, hk, hZ, hown, Ea2, Fc2, Fv2, Av2, la2, lb2, r2, -, sn2, st2⟩ := ldcCH X1 hx hZ hown (own_w hw 18 rfl) hSA e1 hS hk hEL (List.mem_of_getElem? (i := 0) rfl) R0.1 (vs := []) (z := (0 : Int32)) (by decide +kernel) (by decide) (by decide +kernel) (g := (mkF m 9 #[.val (.ref a), .val (.ref sr), .val (.int (0 : Int32)), .val (.int (0 : Int32)), .val .null, .unset] [(.ref a)])) rfl (hb hby d3_9) (n := 0) (by decide) (by decide) (by decide) (by decide)
  refine own_go st2 ?_
  have K2 : Keep h0 h2 [a] := (Keep.refl h0 [a]).ext E2
  have R2 := R0.trans r2
  have ne2_a := sn2 a (r2.safe u0.lt Qa)
  obtain ⟨T3, X3, e3, st3⟩ := getF X2 hx hZ hown (host := "") (Or.inl (own_w hw 24 rfl)) Via.refl e2 Fv2 (g := (mkF m 11 #[.val (.ref a), .val (.ref sr), .val (.int (0 : Int32)), .val (.int (0 : Int32)), .val .null, .unset] [(.ref b2), (.ref a)])) rfl rfl (hb hby d3_11)
  refine own_go st3 ?_
  obtain ⟨T4, h4, X4, e4, W4, st4⟩ := putF X3 hx hZ hown (host := "") (Or.inl (own_w hw 24 rfl)) Via.refl e3 (u1.ext E2) (u0.ext E2) (Or.inr ⟨(own_w hw 20 rfl), rfl, hnm⟩) (own_w hw 5 rfl) (ty := (.array .byte)) (by decide) rfl rfl (g := (mkF m 14 #[.val (.ref a), .val (.ref sr), .val (.int (0 : Int32)), .val (.int (0 : Int32)), .val .null, .unset] [(.ref d2), (.ref a)])) rfl rfl (hb hby d3_14)
  have Fw4 : Fld Z h4 a "java/lang/String" "value" "[B" (.ref d2) := (u1.ext E2).same W4
  refine own_go st4 ?_
  have K4 : Keep h0 h4 [a] := K2.wr W4 (Or.inl (List.mem_of_getElem? (i := 0) rfl))
  have r4 := CHr.wr W4 (r2.safe u0.lt Qa) R2.1
  have R4 := R2.trans r4
  have hk := Nat.le_trans hk (Keep.of_wr W4).1
  have N4 := Fr.snoc X4 N0 u3
  refine own_go (A := T4.setTop (mkF m 18 #[.val (.ref a), .val (.ref sr), .val (.int (0 : Int32)), .val (.int (0 : Int32)), .val .null, .unset] [(.ref a)])) (fun t_ k_ => ?_) ?_
  · show Steps p.tables e below (T4.setTop (mkF m 17 #[.val (.ref a), .val (.ref sr), .val (.int (0 : Int32)), .val (.int (0 : Int32)), .val .null, .unset] [])) t_
    refine XS.aloadN X4.here hx rfl (hb hby d3_17) rfl rfl ?_
    exact k_
  obtain ⟨b5, T5, h5, k5, d5, kk5, X5, e5, E5, hS, hk, hZ, hown, Ea5, Fc5, Fv5, Av5, la5, lb5, r5, -, sn5, st5⟩ := ldcCH X4 hx hZ hown (own_w hw 18 rfl) hSA e4 hS hk hEL (List.mem_of_getElem? (i := 0) rfl) R4.1 (vs := []) (z := (0 : Int32)) (by decide +kernel) (by decide) (by decide +kernel) (g := (mkF m 18 #[.val (.ref a), .val (.ref sr), .val (.int (0 : Int32)), .val (.int (0 : Int32)), .val .null, .unset] [(.ref a)])) rfl (hb hby d3_18) (n := 0) (by decide) (by decide) (by decide) (by decide)
  refine own_go st5 ?_
  have K5 : Keep h0 h5 [a] := K4.ext E5
  have R5 := R4.trans r5
  have ne5_a := sn5 a (r5.safe (Nat.lt_of_lt_of_le (Nat.lt_of_lt_of_le u0.lt E2.1) (Keep.of_wr W4).1) (r4.safe (Nat.lt_of_lt_of_le u0.lt E2.1) (r2.safe u0.lt Qa)))
  obtain ⟨T6, X6, e6, st6⟩ := getF X5 hx hZ hown (host := "") (Or.inl (own_w hw 25 rfl)) Via.refl e5 Fc5 (g := (mkF m 20 #[.val (.ref a), .val (.ref sr), .val (.int (0 : Int32)), .val (.int (0 : Int32)), .val .null, .unset] [(.ref b5), (.ref a)])) rfl rfl (hb hby d3_20)
  refine own_go st6 ?_
  obtain ⟨T7, h7, X7, e7, W7, st7⟩ := putFN X6 hx hZ hown (own_w hw 25 rfl) Via.refl e6 (((u2.ext E2).other W4 (Or.inr (slot_ne (Or.inr (own_w hw 21 rfl)) (Or.inr (own_w hw 20 rfl)) (by decide) (t := .byte) (t' := (.array .byte)) (by decide) (by decide)))).ext E5) (((u0.ext E2).wr W4).ext E5) (Or.inr ⟨(own_w hw 21 rfl), rfl, hnm⟩) (own_w hw 5 rfl) (ty := .byte) (v' := (.int (0 : Int32))) (by decide) rfl rfl (g := (mkF m 23 #[.val (.ref a), .val (.ref sr), .val (.int (0 : Int32)), .val (.int (0 : Int32)), .val .null, .unset] [(.int (0 : Int32)), (.ref a)])) rfl rfl (hb hby d3_23)
  have Fw7 : Fld Z h7 a "java/lang/String" "coder" "B" (.int (0 : Int32)) := (((u2.ext E2).other W4 (Or.inr (slot_ne (Or.inr (own_w hw 21 rfl)) (Or.inr (own_w hw 20 rfl)) (by decide) (t := .byte) (t' := (.array .byte)) (by decide) (by decide)))).ext E5).same W7
  refine own_go st7 ?_
  have K7 : Keep h0 h7 [a] := K5.wr W7 (Or.inl (List.mem_of_getElem? (i := 0) rfl))
  have r7 := CHr.wr W7 (r5.safe (Nat.lt_of_lt_of_le (Nat.lt_of_lt_of_le u0.lt E2.1) (Keep.of_wr W4).1) (r4.safe (Nat.lt_of_lt_of_le u0.lt E2.1) (r2.safe u0.lt Qa))) R5.1
  have R7 := R5.trans r7
  have hk := Nat.le_trans hk (Keep.of_wr W7).1
  have N7 := Fr.snoc X7 N4 u3
  obtain ⟨fs8, hr8, hrun8, hended8, hRW8⟩ := X7.leaveW hS (by rw [e7]; exact hk) (v := none) (fun _ => rfl)
  refine ⟨_, _, ?_, hrun8, hended8, _, _, rfl, ?_, ?_, hRW8.1, hRW8.2.1, hRW8.2.2.1, hRW8.2.2.2.mono (by decide) (by decide)⟩
  · exact X7.returnOut hx Bd.returns (hb hby d3_26) hr8
  · show Q_rmSCV0 Z a sr kc h0 n0 _ T7.heap _
    rw [e7]
    exact ⟨d2, kk2, rfl, N7, K7, ((Fw4.ext E5).other W7 (Or.inr (slot_ne (Or.inr (own_w hw 20 rfl)) (Or.inr (own_w hw 21 rfl)) (by decide) (t := (.array .byte)) (t' := .byte) (by decide) (by decide)))), Fw7, (((Av2.other W4 (Ne.symm ne2_a.2)).ext E5).other W7 (Ne.symm ne2_a.2))⟩
  · show CHr Z own_EL s.vm s.heap T7.vm T7.heap
    rw [hh, e7]
    exact R7.trans (CHv.at X7 hZ hEL R7.1)
theorem ef_rmSC0 (m : MethodId) (a : Addr) (sr : Addr) : entryFrame m #[(.ref a), (.ref sr)] 2 = mkF m 0 #[.val (.ref a), .val (.ref sr)] [] := by first | (simp [entryFrame, mkF, argsToLocals, Value.category]; done) | rfl
def Q_rmSC0 (Z : State) (a : Addr) (sr : Addr) (kc : ClassId) (h0 : Heap) (n0 : Nat) (v_ : Option Value) (h_ : Heap) (L_ : List Loc) : Prop := ∃ d : Addr, ∃ k : ClassId, v_ = none ∧ Fr n0 L_ ∧ Keep h0 h_ [a] ∧ Fld Z h_ a "java/lang/String" "value" "[B" (.ref d) ∧ Fld Z h_ a "java/lang/String" "coder" "B" (.int (0 : Int32)) ∧ Arv Z h_ d k .byte (0 : Int32) [] (.int (0 : Int32))
set_option maxRecDepth 65536 in
set_option maxHeartbeats 40000000 in
theorem rmSC0 (l : Launch) (Z : State) (a0 : Array Value) (hw : ∀ d ∈ tables_1, d.before a0 Z = true) (ws : List Jvm.Cond) (a : Addr) (sr : Addr) (kc : ClassId) (h0 : Heap) (n0 : Nat) (Z0 : n0 ≤ h0.size) (u0 : Exa Z h0 a "java/lang/String") (u1 : Fld Z h0 a "java/lang/String" "value" "[B" .null) (u2 : Fld Z h0 a "java/lang/String" "coder" "B" (.int (0 : Int32))) (u3 : n0 ≤ a) (u4 : Arv Z h0 sr kc .char (0 : Int32) [] (.int (0 : Int32))) :
    MetFree l own_y8 (head1 (Jvm.Cond.code own_y8 jdk_42_method_3_code 2 none :: ws) ({ frames := 2, cells := 4, slots := 8, locals := 29 } : Room)) (fun a_ U_ => a_ = #[(.ref a), (.ref sr)] ∧ Z.Warmed39 U_.vm ∧ U_.heap = h0 ∧ CHv Z own_EL U_.vm h0) (fun _ _ _ _ _ => True) (fun _ U_ o_ U2_ => ∃ v_ L_, o_ = .returned v_ ∧ Q_rmSC0 Z a sr kc h0 n0 v_ U2_.heap L_ ∧ CHr Z own_EL U_.vm U_.heap U2_.vm U2_.heap ∧ ReturnedEndW U_ o_ U2_ L_ ({ frames := 2, cells := 4, slots := 8, locals := 29 } : Room).cells ({ frames := 2, cells := 4, slots := 8, locals := 29 } : Room).slots) := by
  refine MetFree.of_bodySF (plainFor_of_name pn_1) hisR ?_
  intro p e s m args below meth c s₁ Bd hml0 hP hK
  obtain ⟨rfl, hZ, hh, hC⟩ := hP
  have hx := Bd.exec
  have hby := Bd.bytes
  have hml : c.maxLocals = 2 := hml0
  have hown : s.vm.findClass "java/lang/String" = some m.cls := findClass_of_methodNamed Bd.named
  have hnm := (name_of_methodNamed Bd.named Bd.method).1
  have X0 : Stand p l e ({ frames := 2, cells := 4, slots := 8, locals := 29 } : Room) (s.setVm s.vm) m #[(.ref a), (.ref sr)] below meth c s₁ [] 0 0 := Stand.of_body Bd
  have e0 : s₁.heap = h0 := by rw [← hh, Bd.state]; rfl
  have N0 := Fr.nil n0
  have hS : s.Since s.vm h0.size := (State.WarmedH.refl s).since _
  have hk := Nat.le_refl h0.size
  have hSA := own_strA hw
  have hEL := own_EW hw
  have R0 : CHr Z own_EL s.vm h0 s.vm h0 := CHr.refl hC
  refine own_go (A := s₁.setTop (mkF m 0 #[.val (.ref a), .val (.ref sr)] [])) (fun t_ k_ => castTop (ef_rmSC0 m a sr) k_) ?_
  have Qa := own_safeS (EL := own_EL) hZ.alike u0 u1
  obtain ⟨cl1, Ar1, q1, S1, M1, H1, G1⟩ := id u4
  refine own_go (A := s₁.setTop (mkF m 6 #[.val (.ref a), .val (.ref sr)] [.null, (.int (0 : Int32)), (.int (0 : Int32)), (.ref sr), (.ref a)])) (fun t_ k_ => ?_) ?_
  · show Steps p.tables e below (s₁.setTop (mkF m 0 #[.val (.ref a), .val (.ref sr)] [])) t_
    refine XS.aloadN X0.here hx rfl (hb hby d2_0) rfl rfl ?_
    show Steps p.tables e below (s₁.setTop (mkF m 1 #[.val (.ref a), .val (.ref sr)] [(.ref a)])) t_
    refine XS.aloadN X0.here hx rfl (hb hby d2_1) rfl rfl ?_
    show Steps p.tables e below (s₁.setTop (mkF m 2 #[.val (.ref a), .val (.ref sr)] [(.ref sr), (.ref a)])) t_
    refine XS.iconst X0.here hx rfl (hb hby d2_2) ?_
    show Steps p.tables e below (s₁.setTop (mkF m 3 #[.val (.ref a), .val (.ref sr)] [(.int (0 : Int32)), (.ref sr), (.ref a)])) t_
    refine XS.aloadN X0.here hx rfl (hb hby d2_3) rfl rfl ?_
    show Steps p.tables e below (s₁.setTop (mkF m 4 #[.val (.ref a), .val (.ref sr)] [(.ref sr), (.int (0 : Int32)), (.ref sr), (.ref a)])) t_
    refine X0.arraylength hx (by rw [e0]; exact Ar1.1) (State.isArrayOf_alike hZ.alike Ar1.2.1) (g := (mkF m 4 #[.val (.ref a), .val (.ref sr)] [(.ref sr), (.int (0 : Int32)), (.ref sr), (.ref a)])) rfl rfl (hb hby d2_4) _ ?_
    rw [len_of S1 M1]
    show Steps p.tables e below (s₁.setTop (mkF m 5 #[.val (.ref a), .val (.ref sr)] [(.int (0 : Int32)), (.int (0 : Int32)), (.ref sr), (.ref a)])) t_
    refine XS.aconstNull X0.here hx rfl (hb hby d2_5) ?_
    exact k_
  obtain ⟨_, _, ⟨T2, L2, k2, n2⟩, -, X2, hs2, gs2, ⟨Lc2, hQ2, l2, y2, z2, r2⟩, st2⟩ := X0.specialBackS hx (y := own_y7) rfl hown (mvT hZ (own_w hw 11 rfl)) (mvT hZ (own_w hw 12 rfl)) (mvT hZ (own_w hw 14 rfl)) (by decide) (backOfSH (W := 0) (rmSCV0 l Z a0 hw [] a sr kc h0 n0 Z0 u0 u1 u2 u3 u4) hZ (own_w hw 14 rfl) (own_w hw 6 rfl) (by decide) (by decide) hEL R0.1) (g := (mkF m 6 #[.val (.ref a), .val (.ref sr)] [.null, (.int (0 : Int32)), (.int (0 : Int32)), (.ref sr), (.ref a)])) rfl (by rw [hml]; rfl) (Steps.refl _) (a := a) (argsL := [(.ref sr), (.int (0 : Int32)), (.int (0 : Int32)), .null]) (rest := []) (lenOf pd_6 rfl) rfl (by show 2 * 0 + _ ≤ _; exact Nat.le_of_eq rfl) (hb hby d2_6) (fun _ _ => ⟨rfl, e0, (by decide : 0 + 4 ≤ _), (by decide : 0 + 8 ≤ _)⟩)
  dsimp only [Pt.U, Pt.locs, Pt.cells, Pt.slots] at X2 l2 y2 z2 st2 hQ2 hs2 gs2 r2
  subst l2 y2 z2
  obtain ⟨X2, hS, hZ, hown⟩ := rebS hS (by rw [e0]; exact hk) X2 hs2 gs2 hZ hown
  obtain ⟨d_2, k_2, rfl, N2q, Kc2, r2_0, r2_1, r2_2⟩ := hQ2
  have N2 := Fr.app N0 N2q
  refine own_via st2 ?_
  have hk := Nat.le_refl T2.heap.size
  have K2 : Keep h0 T2.heap [a] := (Keep.refl h0 [a]).trans Kc2 (allS (P := fun x => x ∈ _ ∨ _ ≤ x) (Or.inl (List.mem_of_getElem? (i := 0) rfl)) all0)
  have R2 := R0.trans r2
  obtain ⟨fs3, hr3, hrun3, hended3, hRW3⟩ := X2.leaveW hS hk (v := none) (fun _ => rfl)
  refine ⟨_, _, ?_, hrun3, hended3, _, _, rfl, ?_, ?_, hRW3.1, hRW3.2.1, hRW3.2.2.1, hRW3.2.2.2.mono (by decide) (by decide)⟩
  · exact X2.returnOut hx Bd.returns (hb hby d2_9) hr3
  · show Q_rmSC0 Z a sr kc h0 n0 _ T2.heap _
    exact ⟨d_2, k_2, rfl, N2, K2, r2_0, r2_1, r2_2⟩
  · show CHr Z own_EL s.vm s.heap T2.vm T2.heap
    rw [hh]
    exact R2.trans (CHv.at X2 hZ hEL R2.1)
theorem own_le255 (z : Int32) : ¬ ((255 : Int32) < (z &&& 255)) := by
  have h := c_and z 255 (by decide)
  rw [Int32.lt_iff_toInt_lt]; omega
theorem own_le255a (z : Int32) : ¬ ((255 : Int32) < ((z &&& (255 : Int32))).toUInt32.toUInt16.toUInt32.toInt32) := by
  rw [i2c_mask]; exact own_le255 z
theorem own_le255b (z : Int32) : ¬ ((255 : Int32) < (nar .char ((z &&& (255 : Int32))).toUInt32.toUInt16.toUInt32.toInt32)) := by
  rw [own_ch]; exact own_le255 z
theorem d1_0 : decode method_2_code 0 = .ok (.iload_n 1, 1) := by decide +kernel
theorem d1_1 : decode method_2_code 1 = .ok (.ifCond .ne 14, 3) := by decide +kernel
theorem d1_4 : decode method_2_code 4 = .ok (.new 7, 3) := by decide +kernel
theorem d1_7 : decode method_2_code 7 = .ok (.dup, 1) := by decide +kernel
theorem d1_8 : decode method_2_code 8 = .ok (.iconst 0, 1) := by decide +kernel
theorem d1_9 : decode method_2_code 9 = .ok (.newarray .char, 2) := by decide +kernel
theorem pd_7 : parseMethodDescriptor "([C)V" = some ⟨[(.array .char)], none⟩ := by decide +kernel
theorem d1_11 : decode method_2_code 11 = .ok (.invokespecial 9, 3) := by decide +kernel
theorem d1_14 : decode method_2_code 14 = .ok (.areturn, 1) := by decide +kernel
theorem d1_15 : decode method_2_code 15 = .ok (.iload_n 1, 1) := by decide +kernel
theorem d1_16 : decode method_2_code 16 = .ok (.iconst 1, 1) := by decide +kernel
theorem d1_17 : decode method_2_code 17 = .ok (.if_icmp .ne 13, 3) := by decide +kernel
theorem d1_20 : decode method_2_code 20 = .ok (.iload_n 0, 1) := by decide +kernel
theorem d1_21 : decode method_2_code 21 = .ok (.sipush 255, 3) := by decide +kernel
theorem d1_24 : decode method_2_code 24 = .ok (.iand, 1) := by decide +kernel
theorem d1_25 : decode method_2_code 25 = .ok (.i2c, 1) := by decide +kernel
theorem pd_8 : parseMethodDescriptor "(C)Ljava/lang/String;" = some ⟨[.char], some (.object "java/lang/String")⟩ := by decide +kernel
theorem d1_26 : decode method_2_code 26 = .ok (.invokestatic 12, 3) := by decide +kernel
theorem d1_29 : decode method_2_code 29 = .ok (.areturn, 1) := by decide +kernel
theorem d1_30 : decode method_2_code 30 = .ok (.new 7, 3) := by decide +kernel
theorem d1_33 : decode method_2_code 33 = .ok (.dup, 1) := by decide +kernel
theorem d1_34 : decode method_2_code 34 = .ok (.iconst 2, 1) := by decide +kernel
theorem d1_35 : decode method_2_code 35 = .ok (.newarray .char, 2) := by decide +kernel
theorem d1_37 : decode method_2_code 37 = .ok (.dup, 1) := by decide +kernel
theorem d1_38 : decode method_2_code 38 = .ok (.iconst 0, 1) := by decide +kernel
theorem d1_39 : decode method_2_code 39 = .ok (.iload_n 0, 1) := by decide +kernel
theorem d1_40 : decode method_2_code 40 = .ok (.sipush 255, 3) := by decide +kernel
theorem d1_43 : decode method_2_code 43 = .ok (.iand, 1) := by decide +kernel
theorem d1_44 : decode method_2_code 44 = .ok (.i2c, 1) := by decide +kernel
theorem d1_45 : decode method_2_code 45 = .ok (.castore, 1) := by decide +kernel
theorem d1_46 : decode method_2_code 46 = .ok (.dup, 1) := by decide +kernel
theorem d1_47 : decode method_2_code 47 = .ok (.iconst 1, 1) := by decide +kernel
theorem d1_48 : decode method_2_code 48 = .ok (.iload_n 0, 1) := by decide +kernel
theorem d1_49 : decode method_2_code 49 = .ok (.bipush 8, 2) := by decide +kernel
theorem d1_51 : decode method_2_code 51 = .ok (.iushr, 1) := by decide +kernel
theorem d1_52 : decode method_2_code 52 = .ok (.sipush 255, 3) := by decide +kernel
theorem d1_55 : decode method_2_code 55 = .ok (.iand, 1) := by decide +kernel
theorem d1_56 : decode method_2_code 56 = .ok (.i2c, 1) := by decide +kernel
theorem d1_57 : decode method_2_code 57 = .ok (.castore, 1) := by decide +kernel
theorem d1_58 : decode method_2_code 58 = .ok (.invokespecial 9, 3) := by decide +kernel
theorem d1_61 : decode method_2_code 61 = .ok (.areturn, 1) := by decide +kernel
abbrev own_y9 : MethodName := ⟨"com/example/portcullis/portcullis/authorization/VoteDenyPinLaw", "mk", "(II)Ljava/lang/String;"⟩
theorem ef_rmMk (m : MethodId) (cc : Int32) (len : Int32) : entryFrame m #[(.int cc), (.int len)] 2 = mkF m 0 #[.val (.int cc), .val (.int len)] [] := by first | (simp [entryFrame, mkF, argsToLocals, Value.category]; done) | rfl
def Q_rmMk (Z : State) (cc : Int32) (len : Int32) (cs : Int32) (h0 : Heap) (n0 : Nat) (v_ : Option Value) (h_ : Heap) (L_ : List Loc) : Prop := ∃ b : Addr, v_ = some (.ref b) ∧ Fr n0 L_ ∧ Keep h0 h_ [] ∧ h0.size ≤ b ∧ Exa Z h_ b "java/lang/String"
theorem pn_3 : plainName "com/example/portcullis/portcullis/authorization/VoteDenyPinLaw" = true := by first | (simp [plainName, overriddenIn]; done) | decide +kernel
set_option maxRecDepth 65536 in
set_option maxHeartbeats 40000000 in
theorem rmMk (l : Launch) (Z : State) (a0 : Array Value) (hw : ∀ d ∈ tables_1, d.before a0 Z = true) (ws : List Jvm.Cond) (cc : Int32) (len : Int32) (cs : Int32) (h0 : Heap) (n0 : Nat) (Z0 : n0 ≤ h0.size) (O0 : Old Z n0 h0) (u1 : Sta Z Z.heap "java/lang/String" "COMPACT_STRINGS" "Z" (.int cs)) (hcs : ¬ (cs = (0 : Int32))) :
    MetFree l own_y9 (head1 (Jvm.Cond.code own_y9 method_2_code 2 (some (.object "java/lang/String")) :: ws) ({ frames := 4, cells := 6, slots := 12, locals := 66 } : Room)) (fun a_ U_ => a_ = #[(.int cc), (.int len)] ∧ Z.Warmed39 U_.vm ∧ U_.heap = h0 ∧ CHv Z own_EL U_.vm h0) (fun _ _ _ _ _ => True) (fun _ U_ o_ U2_ => ∃ v_ L_, o_ = .returned v_ ∧ Q_rmMk Z cc len cs h0 n0 v_ U2_.heap L_ ∧ CHr Z own_EL U_.vm U_.heap U2_.vm U2_.heap ∧ ReturnedEndW U_ o_ U2_ L_ ({ frames := 4, cells := 6, slots := 12, locals := 66 } : Room).cells ({ frames := 4, cells := 6, slots := 12, locals := 66 } : Room).slots) := by
  refine MetFree.of_bodySF (plainFor_of_name pn_3) hisR ?_
  intro p e s m args below meth c s₁ Bd hml0 hP hK
  obtain ⟨rfl, hZ, hh, hC⟩ := hP
  have hx := Bd.exec
  have hby := Bd.bytes
  have hml : c.maxLocals = 2 := hml0
  have hown : s.vm.findClass "com/example/portcullis/portcullis/authorization/VoteDenyPinLaw" = some m.cls := findClass_of_methodNamed Bd.named
  have hnm := (name_of_methodNamed Bd.named Bd.method).1
  have X0 : Stand p l e ({ frames := 4, cells := 6, slots := 12, locals := 66 } : Room) (s.setVm s.vm) m #[(.int cc), (.int len)] below meth c s₁ [] 0 0 := Stand.of_body Bd
  have e0 : s₁.heap = h0 := by rw [← hh, Bd.state]; rfl
  have N0 := Fr.nil n0
  have hS : s.Since s.vm h0.size := (State.WarmedH.refl s).since _
  have hk := Nat.le_refl h0.size
  have hSA := own_strA hw
  have hEL := own_EW hw
  have R0 : CHr Z own_EL s.vm h0 s.vm h0 := CHr.refl hC
  refine own_go (A := s₁.setTop (mkF m 0 #[.val (.int cc), .val (.int len)] [])) (fun t_ k_ => castTop (ef_rmMk m cc len) k_) ?_
  refine own_go (A := s₁.setTop (mkF m 1 #[.val (.int cc), .val (.int len)] [(.int len)])) (fun t_ k_ => ?_) ?_
  · show Steps p.tables e below (s₁.setTop (mkF m 0 #[.val (.int cc), .val (.int len)] [])) t_
    refine XS.iloadN X0.here hx rfl (hb hby d1_0) rfl ?_
    exact k_
  by_cases hc1_1 : len = (0 : Int32)
  · refine own_go (A := s₁.setTop (mkF m 4 #[.val (.int cc), .val (.int len)] [])) (fun t_ k_ => ?_) ?_
    · show Steps p.tables e below (s₁.setTop (mkF m 1 #[.val (.int cc), .val (.int len)] [(.int len)])) t_
      refine XS.ifNo X0.here hx rfl (hb hby d1_1) rfl ((if0 _ _).trans (teq hc1_1).2) ?_
      exact k_
    obtain ⟨T2, h2, X2, e2, E2, A2, D2, -, st2⟩ := newO X0 hx hZ hown (own_w hw 4 rfl) (own_w hw 5 rfl) (own_w hw 6 rfl) e0 (g := (mkF m 4 #[.val (.int cc), .val (.int len)] [])) rfl (hb hby d1_4) (by decide) (by decide)
    obtain ⟨b2, g2⟩ : ∃ z, z = h0.size := ⟨_, rfl⟩
    rw [← g2] at A2 D2 st2
    refine own_go st2 ?_
    have K2 : Keep h0 h2 [] := (Keep.refl h0 []).ext E2
    have r2 := CHr.ext E2 R0.1
    have R2 := R0.trans r2
    have hk := Nat.le_trans hk E2.1
    have O2 := O0.ext E2
    have Q2 := Safe.ext E2 R0.1 (Safe.new (Nat.le_of_eq g2.symm))
    have F2_value : Fld Z h2 b2 "java/lang/String" "value" "[B" .null := D2 (Or.inr (own_w hw 20 rfl)) (ty := (.array .byte)) (by decide)
    have F2_coder : Fld Z h2 b2 "java/lang/String" "coder" "B" (.int (0 : Int32)) := D2 (Or.inr (own_w hw 21 rfl)) (ty := .byte) (by decide)
    refine own_go (A := T2.setTop (mkF m 9 #[.val (.int cc), .val (.int len)] [(.int (0 : Int32)), (.ref b2), (.ref b2)])) (fun t_ k_ => ?_) ?_
    · show Steps p.tables e below (T2.setTop (mkF m 7 #[.val (.int cc), .val (.int len)] [(.ref b2)])) t_
      refine XS.dup X2.here hx rfl (hb hby d1_7) rfl rfl ?_
      show Steps p.tables e below (T2.setTop (mkF m 8 #[.val (.int cc), .val (.int len)] [(.ref b2), (.ref b2)])) t_
      refine XS.iconst X2.here hx rfl (hb hby d1_8) ?_
      exact k_
    obtain ⟨T3, h3, k3, X3, e3, E3, A3, st3⟩ := newP X2 hx hZ (own_w hw 7 rfl) e2 (g := (mkF m 9 #[.val (.int cc), .val (.int len)] [(.int (0 : Int32)), (.ref b2), (.ref b2)])) rfl (hb hby d1_9) rfl (by decide) (cap := 0) (by decide) (by decide) (by decide) (by decide)
    obtain ⟨b3, g3⟩ : ∃ z, z = h2.size := ⟨_, rfl⟩
    rw [← g3] at A3 st3
    refine own_go st3 ?_
    have K3 : Keep h0 h3 [] := K2.ext E3
    have r3 := CHr.ext E3 R2.1
    have R3 := R2.trans r3
    have hk := Nat.le_trans hk E3.1
    have O3 := O2.ext E3
    have Q3 := Safe.ext E3 R2.1 (Safe.new (Nat.le_of_eq g3.symm))
    have B3 : Arv Z h3 b3 k3 .char (0 : Int32) [] (.int (0 : Int32)) := Arv.new A3 (by decide)
    obtain ⟨_, _, ⟨T4, L4, k4, n4⟩, -, X4, hs4, gs4, ⟨Lc4, hQ4, l4, y4, z4, r4⟩, st4⟩ := X3.specialBackS hx (y := own_y8) rfl hown (mvT hZ (own_w hw 8 rfl)) (mvT hZ (own_w hw 9 rfl)) (mvT hZ (own_w hw 10 rfl)) (by decide) (backOfSH (W := 1) (rmSC0 l Z a0 hw [] b2 b3 k3 h3 n0 (Nat.le_trans Z0 K3.1) (A2.ext E3) (F2_value.ext E3) (F2_coder.ext E3) (Nat.le_trans Z0 (Nat.le_of_eq g2.symm)) B3) hZ (own_w hw 10 rfl) (own_w hw 6 rfl) (by decide) (by decide) hEL R3.1) (g := (mkF m 11 #[.val (.int cc), .val (.int len)] [(.ref b3), (.ref b2), (.ref b2)])) rfl (by rw [hml]; rfl) (Steps.refl _) (a := b2) (argsL := [(.ref b3)]) (rest := [(.ref b2)]) (lenOf pd_7 rfl) rfl (by show 2 * 0 + _ ≤ _; exact Nat.le_of_eq rfl) (hb hby d1_11) (fun _ _ => ⟨rfl, e3, (by decide : 2 + 4 ≤ _), (by decide : 4 + 8 ≤ _)⟩)
    dsimp only [Pt.U, Pt.locs, Pt.cells, Pt.slots] at X4 l4 y4 z4 st4 hQ4 hs4 gs4 r4
    subst l4 y4 z4
    obtain ⟨X4, hS, hZ, hown⟩ := rebS hS (by rw [e3]; exact hk) X4 hs4 gs4 hZ hown
    obtain ⟨d_4, k_4, rfl, N4q, Kc4, r4_0, r4_1, r4_2⟩ := hQ4
    have N4 := Fr.app N0 N4q
    refine own_via st4 ?_
    have hk := Nat.le_refl T4.heap.size
    have K4 : Keep h0 T4.heap [] := K3.trans Kc4 (allS (P := fun x => x ∈ _ ∨ _ ≤ x) (Or.inr (Nat.le_of_eq g2.symm)) all0)
    have R4 := R3.trans r4
    have O4 := O3.keep Kc4 (allS (P := fun x => n0 ≤ x) (Nat.le_trans Z0 (Nat.le_of_eq g2.symm)) all0)
    obtain ⟨fs5, hr5, hrun5, hended5, hRW5⟩ := X4.leaveW hS hk (v := some (.ref b2)) (fun h => by rw [Bd.returns] at h; cases h)
    refine ⟨_, _, ?_, hrun5, hended5, _, _, rfl, ?_, ?_, hRW5.1, hRW5.2.1, hRW5.2.2.1, hRW5.2.2.2.mono (by decide) (by decide)⟩
    · exact own_retA X4 hx Bd.returns rfl rfl rfl (hb hby d1_14) hr5
    · show Q_rmMk Z cc len cs h0 n0 _ T4.heap _
      exact ⟨b2, rfl, N4, K4, (Nat.le_of_eq g2.symm), ((A2.ext E3).keep Kc4)⟩
    · show CHr Z own_EL s.vm s.heap T4.vm T4.heap
      rw [hh]
      exact R4.trans (CHv.at X4 hZ hEL R4.1)
  · refine own_go (A := s₁.setTop (mkF m 17 #[.val (.int cc), .val (.int len)] [(.int (1 : Int32)), (.int len)])) (fun t_ k_ => ?_) ?_
    · show Steps p.tables e below (s₁.setTop (mkF m 1 #[.val (.int cc), .val (.int len)] [(.int len)])) t_
      refine XS.ifYes X0.here hx rfl (pc0 := 1) (pc' := 15) rfl (hb hby d1_1) rfl ((if0 _ _).trans (feq hc1_1).2) (by decide) (by decide) ?_
      show Steps p.tables e below (s₁.setTop (mkF m 15 #[.val (.int cc), .val (.int len)] [])) t_
      refine XS.iloadN X0.here hx rfl (hb hby d1_15) rfl ?_
      show Steps p.tables e below (s₁.setTop (mkF m 16 #[.val (.int cc), .val (.int len)] [(.int len)])) t_
      refine XS.iconst X0.here hx rfl (hb hby d1_16) ?_
      exact k_
    by_cases hc17_6 : len = (1 : Int32)
    · refine own_go (A := s₁.setTop (mkF m 26 #[.val (.int cc), .val (.int len)] [(.int ((cc &&& (255 : Int32))).toUInt32.toUInt16.toUInt32.toInt32)])) (fun t_ k_ => ?_) ?_
      · show Steps p.tables e below (s₁.setTop (mkF m 17 #[.val (.int cc), .val (.int len)] [(.int (1 : Int32)), (.int len)])) t_
        refine XS.icmpNo X0.here hx rfl (hb hby d1_17) rfl (teq hc17_6).2 ?_
        show Steps p.tables e below (s₁.setTop (mkF m 20 #[.val (.int cc), .val (.int len)] [])) t_
        refine XS.iloadN X0.here hx rfl (hb hby d1_20) rfl ?_
        show Steps p.tables e below (s₁.setTop (mkF m 21 #[.val (.int cc), .val (.int len)] [(.int cc)])) t_
        refine XS.sipush X0.here hx rfl (hb hby d1_21) ?_
        show Steps p.tables e below (s₁.setTop (mkF m 24 #[.val (.int cc), .val (.int len)] [(.int (255 : Int32)), (.int cc)])) t_
        refine XS.iand X0.here hx rfl (hb hby d1_24) rfl ?_
        show Steps p.tables e below (s₁.setTop (mkF m 25 #[.val (.int cc), .val (.int len)] [(.int (cc &&& (255 : Int32)))])) t_
        refine XS.i2c X0.here hx rfl (hb hby d1_25) rfl ?_
        exact k_
      obtain ⟨_, _, ⟨T7, L7, k7, n7⟩, -, X7, ⟨Lc7, hQ7, l7, y7, z7⟩, st7⟩ := Jvm.LawKit.callS X0 hx (y := own_y3) hown (mvT hZ (own_w hw 70 rfl)) (mvT hZ (own_w hw 71 rfl)) (mvT hZ (own_w hw 6 rfl)) (mvT hZ (own_w hw 72 rfl)) (by decide) (backOf (W := 0) (rmValOf l Z a0 hw [] (((cc &&& (255 : Int32))).toUInt32.toUInt16.toUInt32.toInt32) cs h0 n0 Z0 O0 u1 hcs (own_le255a _ : ¬ ((255 : Int32) < ((cc &&& (255 : Int32))).toUInt32.toUInt16.toUInt32.toInt32))) hZ (own_w hw 72 rfl) (own_w hw 6 rfl) (by decide) (by decide)) (g := (mkF m 26 #[.val (.int cc), .val (.int len)] [(.int ((cc &&& (255 : Int32))).toUInt32.toUInt16.toUInt32.toInt32)])) rfl (by rw [hml]; rfl) (argsL := [(.int ((cc &&& (255 : Int32))).toUInt32.toUInt16.toUInt32.toInt32)]) (rest := []) (lenOf pd_8 rfl) rfl (by show 2 * 0 + _ ≤ _; exact Nat.le_of_eq rfl) (hb hby d1_26) (fun _ _ => ⟨rfl, e0, (by decide : 0 + 2 ≤ _), (by decide : 0 + 5 ≤ _)⟩)
      dsimp only [Pt.U, Pt.locs, Pt.cells, Pt.slots] at X7 l7 y7 z7 st7 hQ7
      subst l7 y7 z7
      obtain ⟨b_7, d_7, k_7, rfl, N7q, Kc7, r7_0, r7_1, r7_2, r7_3, r7_4, r7_5⟩ := hQ7
      have N7 := Fr.app N0 N7q
      refine own_go st7 ?_
      have K7 : Keep h0 T7.heap [] := (Keep.refl h0 []).trans Kc7 all0
      have r7 := CHr.keep Kc7 all0 R0.1
      have R7 := R0.trans r7
      have hk := Nat.le_trans hk Kc7.1
      have O7 := O0.keep Kc7 all0
      obtain ⟨fs8, hr8, hrun8, hended8, hRW8⟩ := X7.leaveW hS hk (v := some (.ref b_7)) (fun h => by rw [Bd.returns] at h; cases h)
      refine ⟨_, _, ?_, hrun8, hended8, _, _, rfl, ?_, ?_, hRW8.1, hRW8.2.1, hRW8.2.2.1, hRW8.2.2.2.mono (by decide) (by decide)⟩
      · exact own_retA X7 hx Bd.returns rfl rfl rfl (hb hby d1_29) hr8
      · show Q_rmMk Z cc len cs h0 n0 _ T7.heap _
        exact ⟨b_7, rfl, N7, K7, r7_0, r7_2⟩
      · show CHr Z own_EL s.vm s.heap T7.vm T7.heap
        rw [hh]
        exact R7.trans (CHv.at X7 hZ hEL R7.1)
    · refine own_go (A := s₁.setTop (mkF m 30 #[.val (.int cc), .val (.int len)] [])) (fun t_ k_ => ?_) ?_
      · show Steps p.tables e below (s₁.setTop (mkF m 17 #[.val (.int cc), .val (.int len)] [(.int (1 : Int32)), (.int len)])) t_
        refine XS.icmpYes X0.here hx rfl (pc0 := 17) (pc' := 30) rfl (hb hby d1_17) rfl (feq hc17_6).2 (by decide) (by decide) ?_
        exact k_
      obtain ⟨T9, h9, X9, e9, E9, A9, D9, -, st9⟩ := newO X0 hx hZ hown (own_w hw 4 rfl) (own_w hw 5 rfl) (own_w hw 6 rfl) e0 (g := (mkF m 30 #[.val (.int cc), .val (.int len)] [])) rfl (hb hby d1_30) (by decide) (by decide)
      obtain ⟨b9, g9⟩ : ∃ z, z = h0.size := ⟨_, rfl⟩
      rw [← g9] at A9 D9 st9
      refine own_go st9 ?_
      have K9 : Keep h0 h9 [] := (Keep.refl h0 []).ext E9
      have r9 := CHr.ext E9 R0.1
      have R9 := R0.trans r9
      have hk := Nat.le_trans hk E9.1
      have O9 := O0.ext E9
      have Q9 := Safe.ext E9 R0.1 (Safe.new (Nat.le_of_eq g9.symm))
      have F9_value : Fld Z h9 b9 "java/lang/String" "value" "[B" .null := D9 (Or.inr (own_w hw 20 rfl)) (ty := (.array .byte)) (by decide)
      have F9_coder : Fld Z h9 b9 "java/lang/String" "coder" "B" (.int (0 : Int32)) := D9 (Or.inr (own_w hw 21 rfl)) (ty := .byte) (by decide)
      refine own_go (A := T9.setTop (mkF m 35 #[.val (.int cc), .val (.int len)] [(.int (2 : Int32)), (.ref b9), (.ref b9)])) (fun t_ k_ => ?_) ?_
      · show Steps p.tables e below (T9.setTop (mkF m 33 #[.val (.int cc), .val (.int len)] [(.ref b9)])) t_
        refine XS.dup X9.here hx rfl (hb hby d1_33) rfl rfl ?_
        show Steps p.tables e below (T9.setTop (mkF m 34 #[.val (.int cc), .val (.int len)] [(.ref b9), (.ref b9)])) t_
        refine XS.iconst X9.here hx rfl (hb hby d1_34) ?_
        exact k_
      obtain ⟨T10, h10, k10, X10, e10, E10, A10, st10⟩ := newP X9 hx hZ (own_w hw 7 rfl) e9 (g := (mkF m 35 #[.val (.int cc), .val (.int len)] [(.int (2 : Int32)), (.ref b9), (.ref b9)])) rfl (hb hby d1_35) rfl (by decide) (cap := 2) (by decide) (by decide) (by decide) (by decide)
      obtain ⟨b10, g10⟩ : ∃ z, z = h9.size := ⟨_, rfl⟩
      rw [← g10] at A10 st10
      refine own_go st10 ?_
      have K10 : Keep h0 h10 [] := K9.ext E10
      have r10 := CHr.ext E10 R9.1
      have R10 := R9.trans r10
      have hk := Nat.le_trans hk E10.1
      have O10 := O9.ext E10
      have Q10 := Safe.ext E10 R9.1 (Safe.new (Nat.le_of_eq g10.symm))
      have B10 : Arv Z h10 b10 k10 .char (2 : Int32) [(.int (0 : Int32)), (.int (0 : Int32))] (.int (0 : Int32)) := (Arv.new A10 (by decide)).pad (pad_rep [] (.int (0 : Int32)) 2)
      refine own_go (A := T10.setTop (mkF m 45 #[.val (.int cc), .val (.int len)] [(.int ((cc &&& (255 : Int32))).toUInt32.toUInt16.toUInt32.toInt32), (.int (0 : Int32)), (.ref b10), (.ref b10), (.ref b9), (.ref b9)])) (fun t_ k_ => ?_) ?_
      · show Steps p.tables e below (T10.setTop (mkF m 37 #[.val (.int cc), .val (.int len)] [(.ref b10), (.ref b9), (.ref b9)])) t_
        refine XS.dup X10.here hx rfl (hb hby d1_37) rfl rfl ?_
        show Steps p.tables e below (T10.setTop (mkF m 38 #[.val (.int cc), .val (.int len)] [(.ref b10), (.ref b10), (.ref b9), (.ref b9)])) t_
        refine XS.iconst X10.here hx rfl (hb hby d1_38) ?_
        show Steps p.tables e below (T10.setTop (mkF m 39 #[.val (.int cc), .val (.int len)] [(.int (0 : Int32)), (.ref b10), (.ref b10), (.ref b9), (.ref b9)])) t_
        refine XS.iloadN X10.here hx rfl (hb hby d1_39) rfl ?_
        show Steps p.tables e below (T10.setTop (mkF m 40 #[.val (.int cc), .val (.int len)] [(.int cc), (.int (0 : Int32)), (.ref b10), (.ref b10), (.ref b9), (.ref b9)])) t_
        refine XS.sipush X10.here hx rfl (hb hby d1_40) ?_
        show Steps p.tables e below (T10.setTop (mkF m 43 #[.val (.int cc), .val (.int len)] [(.int (255 : Int32)), (.int cc), (.int (0 : Int32)), (.ref b10), (.ref b10), (.ref b9), (.ref b9)])) t_
        refine XS.iand X10.here hx rfl (hb hby d1_43) rfl ?_
        show Steps p.tables e below (T10.setTop (mkF m 44 #[.val (.int cc), .val (.int len)] [(.int (cc &&& (255 : Int32))), (.int (0 : Int32)), (.ref b10), (.ref b10), (.ref b9), (.ref b9)])) t_
        refine XS.i2c X10.here hx rfl (hb hby d1_44) rfl ?_
        exact k_
      obtain ⟨cl11, Ar11, q11, S11, M11, H11, G11⟩ := id B10
      have hin11 : ¬ ((0 : Int32) < 0 ∨ cl11.slots.size ≤ ((0 : Int32)).toNatClampNeg) := inb_of S11 ⟨by decide, by decide⟩
      obtain ⟨T12, h12, X12, e12, W12, st12⟩ := stC X10 hx hZ e10 Ar11 (j := (0 : Int32)) hin11 (g := (mkF m 45 #[.val (.int cc), .val (.int len)] [(.int ((cc &&& (255 : Int32))).toUInt32.toUInt16.toUInt32.toInt32), (.int (0 : Int32)), (.ref b10), (.ref b10), (.ref b9), (.ref b9)])) rfl rfl (hb hby d1_45)
      have B12 : Arv Z h12 b10 k10 .char (2 : Int32) [(.int (nar .char ((cc &&& (255 : Int32))).toUInt32.toUInt16.toUInt32.toInt32)), (.int (0 : Int32))] (.int (0 : Int32)) := Arv.set Ar11 q11 S11 M11 H11 G11 (fits_nar_char _) W12 0 rfl (Nat.le_of_ble_eq_true rfl)
      refine own_go st12 ?_
      have K12 : Keep h0 h12 [] := K10.wr W12 (Or.inr (Nat.le_trans K9.1 (Nat.le_of_eq g10.symm)))
      have r12 := CHr.wr W12 Q10 R10.1
      have R12 := R10.trans r12
      have hk := Nat.le_trans hk (Keep.of_wr W12).1
      have O12 := O10.wr W12 (Nat.le_trans Z0 (Nat.le_trans K9.1 (Nat.le_of_eq g10.symm)))
      have N12 := Fr.snoc X12 N0 (Nat.le_trans Z0 (Nat.le_trans K9.1 (Nat.le_of_eq g10.symm)))
      refine own_go (A := T12.setTop (mkF m 57 #[.val (.int cc), .val (.int len)] [(.int ((((cc).toUInt32 >>> ((8 : Int32) &&& 31).toUInt32).toInt32 &&& (255 : Int32))).toUInt32.toUInt16.toUInt32.toInt32), (.int (1 : Int32)), (.ref b10), (.ref b10), (.ref b9), (.ref b9)])) (fun t_ k_ => ?_) ?_
      · show Steps p.tables e below (T12.setTop (mkF m 46 #[.val (.int cc), .val (.int len)] [(.ref b10), (.ref b9), (.ref b9)])) t_
        refine XS.dup X12.here hx rfl (hb hby d1_46) rfl rfl ?_
        show Steps p.tables e below (T12.setTop (mkF m 47 #[.val (.int cc), .val (.int len)] [(.ref b10), (.ref b10), (.ref b9), (.ref b9)])) t_
        refine XS.iconst X12.here hx rfl (hb hby d1_47) ?_
        show Steps p.tables e below (T12.setTop (mkF m 48 #[.val (.int cc), .val (.int len)] [(.int (1 : Int32)), (.ref b10), (.ref b10), (.ref b9), (.ref b9)])) t_
        refine XS.iloadN X12.here hx rfl (hb hby d1_48) rfl ?_
        show Steps p.tables e below (T12.setTop (mkF m 49 #[.val (.int cc), .val (.int len)] [(.int cc), (.int (1 : Int32)), (.ref b10), (.ref b10), (.ref b9), (.ref b9)])) t_
        refine XS.bipush X12.here hx rfl (hb hby d1_49) ?_
        show Steps p.tables e below (T12.setTop (mkF m 51 #[.val (.int cc), .val (.int len)] [(.int (8 : Int32)), (.int cc), (.int (1 : Int32)), (.ref b10), (.ref b10), (.ref b9), (.ref b9)])) t_
        refine XS.iushr X12.here hx rfl (hb hby d1_51) rfl ?_
        show Steps p.tables e below (T12.setTop (mkF m 52 #[.val (.int cc), .val (.int len)] [(.int ((cc).toUInt32 >>> ((8 : Int32) &&& 31).toUInt32).toInt32), (.int (1 : Int32)), (.ref b10), (.ref b10), (.ref b9), (.ref b9)])) t_
        refine XS.sipush X12.here hx rfl (hb hby d1_52) ?_
        show Steps p.tables e below (T12.setTop (mkF m 55 #[.val (.int cc), .val (.int len)] [(.int (255 : Int32)), (.int ((cc).toUInt32 >>> ((8 : Int32) &&& 31).toUInt32).toInt32), (.int (1 : Int32)), (.ref b10), (.ref b10), (.ref b9), (.ref b9)])) t_
        refine XS.iand X12.here hx rfl (hb hby d1_55) rfl ?_
        show Steps p.tables e below (T12.setTop (mkF m 56 #[.val (.int cc), .val (.int len)] [(.int (((cc).toUInt32 >>> ((8 : Int32) &&& 31).toUInt32).toInt32 &&& (255 : Int32))), (.int (1 : Int32)), (.ref b10), (.ref b10), (.ref b9), (.ref b9)])) t_
        refine XS.i2c X12.here hx rfl (hb hby d1_56) rfl ?_
        exact k_
      obtain ⟨cl13, Ar13, q13, S13, M13, H13, G13⟩ := id B12
      have hin13 : ¬ ((1 : Int32) < 0 ∨ cl13.slots.size ≤ ((1 : Int32)).toNatClampNeg) := inb_of S13 ⟨by decide, by decide⟩
      obtain ⟨T14, h14, X14, e14, W14, st14⟩ := stC X12 hx hZ e12 Ar13 (j := (1 : Int32)) hin13 (g := (mkF m 57 #[.val (.int cc), .val (.int len)] [(.int ((((cc).toUInt32 >>> ((8 : Int32) &&& 31).toUInt32).toInt32 &&& (255 : Int32))).toUInt32.toUInt16.toUInt32.toInt32), (.int (1 : Int32)), (.ref b10), (.ref b10), (.ref b9), (.ref b9)])) rfl rfl (hb hby d1_57)
      have B14 : Arv Z h14 b10 k10 .char (2 : Int32) [(.int (nar .char ((cc &&& (255 : Int32))).toUInt32.toUInt16.toUInt32.toInt32)), (.int (nar .char ((((cc).toUInt32 >>> ((8 : Int32) &&& 31).toUInt32).toInt32 &&& (255 : Int32))).toUInt32.toUInt16.toUInt32.toInt32))] (.int (0 : Int32)) := Arv.set Ar13 q13 S13 M13 H13 G13 (fits_nar_char _) W14 1 rfl (Nat.le_of_ble_eq_true rfl)
      refine own_go st14 ?_
      have K14 : Keep h0 h14 [] := K12.wr W14 (Or.inr (Nat.le_trans K9.1 (Nat.le_of_eq g10.symm)))
      have r14 := CHr.wr W14 (r12.safe B10.lt Q10) R12.1
      have R14 := R12.trans r14
      have hk := Nat.le_trans hk (Keep.of_wr W14).1
      have O14 := O12.wr W14 (Nat.le_trans Z0 (Nat.le_trans K9.1 (Nat.le_of_eq g10.symm)))
      have N14 := Fr.snoc X14 N12 (Nat.le_trans Z0 (Nat.le_trans K9.1 (Nat.le_of_eq g10.symm)))
      obtain ⟨_, _, ⟨T15, L15, k15, n15⟩, -, X15, ⟨Lc15, hQ15, l15, y15, z15⟩, st15⟩ := X14.specialBack hx (y := own_y8) rfl hown (mvT hZ (own_w hw 8 rfl)) (mvT hZ (own_w hw 9 rfl)) (mvT hZ (own_w hw 10 rfl)) (by decide) (backOf (W := 1) (rmSC2 l Z a0 hw [] b9 b10 cs k10 (nar .char ((cc &&& (255 : Int32))).toUInt32.toUInt16.toUInt32.toInt32) (nar .char ((((cc).toUInt32 >>> ((8 : Int32) &&& 31).toUInt32).toInt32 &&& (255 : Int32))).toUInt32.toUInt16.toUInt32.toInt32) h14 n0 (Nat.le_trans Z0 K14.1) O14 u1 hcs (((A9.ext E10).wr W12).wr W14) (((F9_value.ext E10).other W12 (Or.inl (Nat.ne_of_lt (Nat.lt_of_lt_of_le A9.lt (Nat.le_of_eq g10.symm))))).other W14 (Or.inl (Nat.ne_of_lt (Nat.lt_of_lt_of_le A9.lt (Nat.le_of_eq g10.symm))))) (((F9_coder.ext E10).other W12 (Or.inl (Nat.ne_of_lt (Nat.lt_of_lt_of_le A9.lt (Nat.le_of_eq g10.symm))))).other W14 (Or.inl (Nat.ne_of_lt (Nat.lt_of_lt_of_le A9.lt (Nat.le_of_eq g10.symm))))) (Nat.le_trans Z0 (Nat.le_of_eq g9.symm)) B14 (own_le255b _ : ¬ ((255 : Int32) < (nar .char ((cc &&& (255 : Int32))).toUInt32.toUInt16.toUInt32.toInt32))) (own_le255b _ : ¬ ((255 : Int32) < (nar .char ((((cc).toUInt32 >>> ((8 : Int32) &&& 31).toUInt32).toInt32 &&& (255 : Int32))).toUInt32.toUInt16.toUInt32.toInt32)))) hZ (own_w hw 10 rfl) (own_w hw 6 rfl) (by decide) (by decide)) (g := (mkF m 58 #[.val (.int cc), .val (.int len)] [(.ref b10), (.ref b9), (.ref b9)])) rfl (by rw [hml]; rfl) (Steps.refl _) (a := b9) (argsL := [(.ref b10)]) (rest := [(.ref b9)]) (lenOf pd_7 rfl) rfl (by show 2 * 0 + _ ≤ _; exact Nat.le_of_eq rfl) (hb hby d1_58) (fun _ _ => ⟨rfl, e14, (by decide : 2 + 1 ≤ _), (by decide : 6 + 2 ≤ _)⟩)
      dsimp only [Pt.U, Pt.locs, Pt.cells, Pt.slots] at X15 l15 y15 z15 st15 hQ15
      subst l15 y15 z15
      obtain ⟨d_15, k_15, rfl, N15q, Kc15, r15_0, r15_1, r15_2, r15_3⟩ := hQ15
      have N15 := Fr.app N14 N15q
      refine own_via st15 ?_
      have K15 : Keep h0 T15.heap [] := K14.trans Kc15 (allS (P := fun x => x ∈ _ ∨ _ ≤ x) (Or.inr (Nat.le_of_eq g9.symm)) all0)
      have r15 := CHr.keep Kc15 (allS (P := fun x => Safe Z own_EL _ _ x) (r14.safe (Nat.lt_of_lt_of_le (Nat.lt_of_lt_of_le A9.lt E10.1) (Keep.of_wr W12).1) (r12.safe (Nat.lt_of_lt_of_le A9.lt E10.1) (r10.safe A9.lt Q9))) all0) R14.1
      have R15 := R14.trans r15
      have hk := Nat.le_trans hk Kc15.1
      have O15 := O14.keep Kc15 (allS (P := fun x => n0 ≤ x) (Nat.le_trans Z0 (Nat.le_of_eq g9.symm)) all0)
      obtain ⟨fs16, hr16, hrun16, hended16, hRW16⟩ := X15.leaveW hS hk (v := some (.ref b9)) (fun h => by rw [Bd.returns] at h; cases h)
      refine ⟨_, _, ?_, hrun16, hended16, _, _, rfl, ?_, ?_, hRW16.1, hRW16.2.1, hRW16.2.2.1, hRW16.2.2.2.mono (by decide) (by decide)⟩
      · exact own_retA X15 hx Bd.returns rfl rfl rfl (hb hby d1_61) hr16
      · show Q_rmMk Z cc len cs h0 n0 _ T15.heap _
        exact ⟨b9, rfl, N15, K15, (Nat.le_of_eq g9.symm), ((((A9.ext E10).wr W12).wr W14).keep Kc15)⟩
      · show CHr Z own_EL s.vm s.heap T15.vm T15.heap
        rw [hh]
        exact R15.trans (CHv.at X15 hZ hEL R15.1)
theorem d22_0 : decode jdk_22_method_1_code 0 = .ok (.aload_n 0, 1) := by decide +kernel
theorem d22_1 : decode jdk_22_method_1_code 1 = .ok (.invokespecial 1, 3) := by decide +kernel
theorem d22_4 : decode jdk_22_method_1_code 4 = .ok (.return_, 1) := by decide +kernel
abbrev own_y10 : MethodName := ⟨"java/util/AbstractCollection", "<init>", "()V"⟩
theorem ef_rmAC (m : MethodId) (a : Addr) : entryFrame m #[(.ref a)] 1 = mkF m 0 #[.val (.ref a)] [] := by first | (simp [entryFrame, mkF, argsToLocals, Value.category]; done) | rfl
def Q_rmAC (Z : State) (a : Addr) (h0 : Heap) (n0 : Nat) (v_ : Option Value) (h_ : Heap) (L_ : List Loc) : Prop := v_ = none ∧ Fr n0 L_ ∧ h_ = h0
theorem pn_4 : plainName "java/util/AbstractCollection" = true := by first | (simp [plainName, overriddenIn]; done) | decide +kernel
set_option maxRecDepth 65536 in
set_option maxHeartbeats 40000000 in
theorem rmAC (l : Launch) (Z : State) (a0 : Array Value) (hw : ∀ d ∈ tables_1, d.before a0 Z = true) (ws : List Jvm.Cond) (a : Addr) (h0 : Heap) (n0 : Nat) (Z0 : n0 ≤ h0.size)  :
    MetFree l own_y10 (head1 (Jvm.Cond.code own_y10 jdk_22_method_1_code 1 none :: ws) ({ frames := 1, cells := 0, slots := 0, locals := 12 } : Room)) (fun a_ U_ => a_ = #[(.ref a)] ∧ Z.Warmed39 U_.vm ∧ U_.heap = h0) (fun _ _ _ _ _ => True) (fun _ U_ o_ U2_ => ∃ v_ L_, o_ = .returned v_ ∧ Q_rmAC Z a h0 n0 v_ U2_.heap L_ ∧ FrameEnd U_ o_ U2_ L_ ({ frames := 1, cells := 0, slots := 0, locals := 12 } : Room).cells ({ frames := 1, cells := 0, slots := 0, locals := 12 } : Room).slots) := by
  refine MetFree.of_bodySF (plainFor_of_name pn_4) hisR ?_
  intro p e s m args below meth c s₁ Bd hml0 hP hK
  obtain ⟨rfl, hZ, hh⟩ := hP
  have hx := Bd.exec
  have hby := Bd.bytes
  have hml : c.maxLocals = 1 := hml0
  have hown : s.vm.findClass "java/util/AbstractCollection" = some m.cls := findClass_of_methodNamed Bd.named
  have hnm := (name_of_methodNamed Bd.named Bd.method).1
  have X0 : Stand p l e ({ frames := 1, cells := 0, slots := 0, locals := 12 } : Room) s m #[(.ref a)] below meth c s₁ [] 0 0 := Stand.of_body Bd
  have e0 : s₁.heap = h0 := by rw [← hh, Bd.state]; rfl
  have N0 := Fr.nil n0
  refine own_go (A := s₁.setTop (mkF m 0 #[.val (.ref a)] [])) (fun t_ k_ => castTop (ef_rmAC m a) k_) ?_
  refine own_go (A := s₁.setTop (mkF m 1 #[.val (.ref a)] [(.ref a)])) (fun t_ k_ => ?_) ?_
  · show Steps p.tables e below (s₁.setTop (mkF m 0 #[.val (.ref a)] [])) t_
    refine XS.aloadN X0.here hx rfl (hb hby d22_0) rfl rfl ?_
    exact k_
  obtain ⟨T1, X1, e1, st1⟩ := initO X0 hx hZ hown (own_w hw 125 rfl) (own_w hw 16 rfl) (own_w hw 17 rfl) e0 (g := (mkF m 1 #[.val (.ref a)] [(.ref a)])) rfl (by rw [hml]; rfl) rfl (hb hby d22_1) (by decide) (W := 0) (by show 2 * 0 + _ ≤ _; exact Nat.le_of_eq rfl) (by decide)
  refine own_go st1 ?_
  obtain ⟨fs2, hr2, hrun2, hended2, hW2, hsame2⟩ := X1.leave (v := none) (fun _ => rfl)
  refine ⟨_, _, ?_, hrun2, hended2, _, _, rfl, ?_, ⟨_, rfl⟩, hW2, hsame2.mono (by decide) (by decide)⟩
  · exact X1.returnOut hx Bd.returns (hb hby d22_4) hr2
  · show Q_rmAC Z a h0 n0 _ T1.heap _
    rw [e1]
    exact ⟨rfl, N0, rfl⟩
theorem d21_0 : decode jdk_47_method_1_code 0 = .ok (.aload_n 0, 1) := by decide +kernel
theorem pd_9 : parseMethodDescriptor "()V" = some ⟨[], none⟩ := by decide +kernel
theorem d21_1 : decode jdk_47_method_1_code 1 = .ok (.invokespecial 1, 3) := by decide +kernel
theorem d21_4 : decode jdk_47_method_1_code 4 = .ok (.return_, 1) := by decide +kernel
abbrev own_y11 : MethodName := ⟨"java/util/ImmutableCollections$AbstractImmutableCollection", "<init>", "()V"⟩
theorem ef_rmAIC (m : MethodId) (a : Addr) : entryFrame m #[(.ref a)] 1 = mkF m 0 #[.val (.ref a)] [] := by first | (simp [entryFrame, mkF, argsToLocals, Value.category]; done) | rfl
def Q_rmAIC (Z : State) (a : Addr) (h0 : Heap) (n0 : Nat) (v_ : Option Value) (h_ : Heap) (L_ : List Loc) : Prop := v_ = none ∧ Fr n0 L_ ∧ h_ = h0
theorem pn_5 : plainName "java/util/ImmutableCollections$AbstractImmutableCollection" = true := by first | (simp [plainName, overriddenIn]; done) | decide +kernel
set_option maxRecDepth 65536 in
set_option maxHeartbeats 40000000 in
theorem rmAIC (l : Launch) (Z : State) (a0 : Array Value) (hw : ∀ d ∈ tables_1, d.before a0 Z = true) (ws : List Jvm.Cond) (a : Addr) (h0 : Heap) (n0 : Nat) (Z0 : n0 ≤ h0.size)  :
    MetFree l own_y11 (head1 (Jvm.Cond.code own_y11 jdk_47_method_1_code 1 none :: ws) ({ frames := 2, cells := 0, slots := 0, locals := 24 } : Room)) (fun a_ U_ => a_ = #[(.ref a)] ∧ Z.Warmed39 U_.vm ∧ U_.heap = h0) (fun _ _ _ _ _ => True) (fun _ U_ o_ U2_ => ∃ v_ L_, o_ = .returned v_ ∧ Q_rmAIC Z a h0 n0 v_ U2_.heap L_ ∧ FrameEnd U_ o_ U2_ L_ ({ frames := 2, cells := 0, slots := 0, locals := 24 } : Room).cells ({ frames := 2, cells := 0, slots := 0, locals := 24 } : Room).slots) := by
  refine MetFree.of_bodySF (plainFor_of_name pn_5) hisR ?_
  intro p e s m args below meth c s₁ Bd hml0 hP hK
  obtain ⟨rfl, hZ, hh⟩ := hP
  have hx := Bd.exec
  have hby := Bd.bytes
  have hml : c.maxLocals = 1 := hml0
  have hown : s.vm.findClass "java/util/ImmutableCollections$AbstractImmutableCollection" = some m.cls := findClass_of_methodNamed Bd.named
  have hnm := (name_of_methodNamed Bd.named Bd.method).1
  have X0 : Stand p l e ({ frames := 2, cells := 0, slots := 0, locals := 24 } : Room) s m #[(.ref a)] below meth c s₁ [] 0 0 := Stand.of_body Bd
  have e0 : s₁.heap = h0 := by rw [← hh, Bd.state]; rfl
  have N0 := Fr.nil n0
  refine own_go (A := s₁.setTop (mkF m 0 #[.val (.ref a)] [])) (fun t_ k_ => castTop (ef_rmAIC m a) k_) ?_
  refine own_go (A := s₁.setTop (mkF m 1 #[.val (.ref a)] [(.ref a)])) (fun t_ k_ => ?_) ?_
  · show Steps p.tables e below (s₁.setTop (mkF m 0 #[.val (.ref a)] [])) t_
    refine XS.aloadN X0.here hx rfl (hb hby d21_0) rfl rfl ?_
    exact k_
  obtain ⟨_, _, ⟨T1, L1, k1, n1⟩, -, X1, ⟨Lc1, hQ1, l1, y1, z1⟩, st1⟩ := X0.specialBack hx (y := own_y10) rfl hown (mvT hZ (own_w hw 119 rfl)) (mvT hZ (own_w hw 120 rfl)) (mvT hZ (own_w hw 124 rfl)) (by decide) (backOf (W := 0) (rmAC l Z a0 hw [] a h0 n0 Z0) hZ (own_w hw 124 rfl) (own_w hw 123 rfl) (by decide) (by decide)) (g := (mkF m 1 #[.val (.ref a)] [(.ref a)])) rfl (by rw [hml]; rfl) (Steps.refl _) (a := a) (argsL := []) (rest := []) (lenOf pd_9 rfl) rfl (by show 2 * 0 + _ ≤ _; exact Nat.le_of_eq rfl) (hb hby d21_1) (fun _ _ => ⟨rfl, e0, (by decide : 0 + 0 ≤ _), (by decide : 0 + 0 ≤ _)⟩)
  dsimp only [Pt.U, Pt.locs, Pt.cells, Pt.slots] at X1 l1 y1 z1 st1 hQ1
  subst l1 y1 z1
  obtain ⟨rfl, N1q, eh1⟩ := hQ1
  have N1 := Fr.app N0 N1q
  refine own_via st1 ?_
  obtain ⟨fs2, hr2, hrun2, hended2, hW2, hsame2⟩ := X1.leave (v := none) (fun _ => rfl)
  refine ⟨_, _, ?_, hrun2, hended2, _, _, rfl, ?_, ⟨_, rfl⟩, hW2, hsame2.mono (by decide) (by decide)⟩
  · exact X1.returnOut hx Bd.returns (hb hby d21_4) hr2
  · show Q_rmAIC Z a h0 n0 _ T1.heap _
    rw [eh1]
    exact ⟨rfl, N1, rfl⟩
theorem d20_0 : decode jdk_46_method_1_code 0 = .ok (.aload_n 0, 1) := by decide +kernel
theorem d20_1 : decode jdk_46_method_1_code 1 = .ok (.invokespecial 1, 3) := by decide +kernel
theorem d20_4 : decode jdk_46_method_1_code 4 = .ok (.return_, 1) := by decide +kernel
abbrev own_y12 : MethodName := ⟨"java/util/ImmutableCollections$AbstractImmutableList", "<init>", "()V"⟩
theorem ef_rmAIL (m : MethodId) (a : Addr) : entryFrame m #[(.ref a)] 1 = mkF m 0 #[.val (.ref a)] [] := by first | (simp [entryFrame, mkF, argsToLocals, Value.category]; done) | rfl
def Q_rmAIL (Z : State) (a : Addr) (h0 : Heap) (n0 : Nat) (v_ : Option Value) (h_ : Heap) (L_ : List Loc) : Prop := v_ = none ∧ Fr n0 L_ ∧ h_ = h0
theorem pn_6 : plainName "java/util/ImmutableCollections$AbstractImmutableList" = true := by first | (simp [plainName, overriddenIn]; done) | decide +kernel
set_option maxRecDepth 65536 in
set_option maxHeartbeats 40000000 in
theorem rmAIL (l : Launch) (Z : State) (a0 : Array Value) (hw : ∀ d ∈ tables_1, d.before a0 Z = true) (ws : List Jvm.Cond) (a : Addr) (h0 : Heap) (n0 : Nat) (Z0 : n0 ≤ h0.size)  :
    MetFree l own_y12 (head1 (Jvm.Cond.code own_y12 jdk_46_method_1_code 1 none :: ws) ({ frames := 3, cells := 0, slots := 0, locals := 36 } : Room)) (fun a_ U_ => a_ = #[(.ref a)] ∧ Z.Warmed39 U_.vm ∧ U_.heap = h0) (fun _ _ _ _ _ => True) (fun _ U_ o_ U2_ => ∃ v_ L_, o_ = .returned v_ ∧ Q_rmAIL Z a h0 n0 v_ U2_.heap L_ ∧ FrameEnd U_ o_ U2_ L_ ({ frames := 3, cells := 0, slots := 0, locals := 36 } : Room).cells ({ frames := 3, cells := 0, slots := 0, locals := 36 } : Room).slots) := by
  refine MetFree.of_bodySF (plainFor_of_name pn_6) hisR ?_
  intro p e s m args below meth c s₁ Bd hml0 hP hK
  obtain ⟨rfl, hZ, hh⟩ := hP
  have hx := Bd.exec
  have hby := Bd.bytes
  have hml : c.maxLocals = 1 := hml0
  have hown : s.vm.findClass "java/util/ImmutableCollections$AbstractImmutableList" = some m.cls := findClass_of_methodNamed Bd.named
  have hnm := (name_of_methodNamed Bd.named Bd.method).1
  have X0 : Stand p l e ({ frames := 3, cells := 0, slots := 0, locals := 36 } : Room) s m #[(.ref a)] below meth c s₁ [] 0 0 := Stand.of_body Bd
  have e0 : s₁.heap = h0 := by rw [← hh, Bd.state]; rfl
  have N0 := Fr.nil n0
  refine own_go (A := s₁.setTop (mkF m 0 #[.val (.ref a)] [])) (fun t_ k_ => castTop (ef_rmAIL m a) k_) ?_
  refine own_go (A := s₁.setTop (mkF m 1 #[.val (.ref a)] [(.ref a)])) (fun t_ k_ => ?_) ?_
  · show Steps p.tables e below (s₁.setTop (mkF m 0 #[.val (.ref a)] [])) t_
    refine XS.aloadN X0.here hx rfl (hb hby d20_0) rfl rfl ?_
    exact k_
  obtain ⟨_, _, ⟨T1, L1, k1, n1⟩, -, X1, ⟨Lc1, hQ1, l1, y1, z1⟩, st1⟩ := X0.specialBack hx (y := own_y11) rfl hown (mvT hZ (own_w hw 113 rfl)) (mvT hZ (own_w hw 114 rfl)) (mvT hZ (own_w hw 118 rfl)) (by decide) (backOf (W := 0) (rmAIC l Z a0 hw [] a h0 n0 Z0) hZ (own_w hw 118 rfl) (own_w hw 117 rfl) (by decide) (by decide)) (g := (mkF m 1 #[.val (.ref a)] [(.ref a)])) rfl (by rw [hml]; rfl) (Steps.refl _) (a := a) (argsL := []) (rest := []) (lenOf pd_9 rfl) rfl (by show 2 * 0 + _ ≤ _; exact Nat.le_of_eq rfl) (hb hby d20_1) (fun _ _ => ⟨rfl, e0, (by decide : 0 + 0 ≤ _), (by decide : 0 + 0 ≤ _)⟩)
  dsimp only [Pt.U, Pt.locs, Pt.cells, Pt.slots] at X1 l1 y1 z1 st1 hQ1
  subst l1 y1 z1
  obtain ⟨rfl, N1q, eh1⟩ := hQ1
  have N1 := Fr.app N0 N1q
  refine own_via st1 ?_
  obtain ⟨fs2, hr2, hrun2, hended2, hW2, hsame2⟩ := X1.leave (v := none) (fun _ => rfl)
  refine ⟨_, _, ?_, hrun2, hended2, _, _, rfl, ?_, ⟨_, rfl⟩, hW2, hsame2.mono (by decide) (by decide)⟩
  · exact X1.returnOut hx Bd.returns (hb hby d20_4) hr2
  · show Q_rmAIL Z a h0 n0 _ T1.heap _
    rw [eh1]
    exact ⟨rfl, N1, rfl⟩
theorem d18_0 : decode jdk_31_method_10_code 0 = .ok (.aload_n 0, 1) := by decide +kernel
theorem d18_1 : decode jdk_31_method_10_code 1 = .ok (.ifnonnull 11, 3) := by decide +kernel
theorem d18_12 : decode jdk_31_method_10_code 12 = .ok (.aload_n 0, 1) := by decide +kernel
theorem d18_13 : decode jdk_31_method_10_code 13 = .ok (.areturn, 1) := by decide +kernel
abbrev own_y13 : MethodName := ⟨"java/util/Objects", "requireNonNull", "(Ljava/lang/Object;)Ljava/lang/Object;"⟩
theorem ef_rmRnn (m : MethodId) (a : Addr) : entryFrame m #[(.ref a)] 1 = mkF m 0 #[.val (.ref a)] [] := by first | (simp [entryFrame, mkF, argsToLocals, Value.category]; done) | rfl
def Q_rmRnn (Z : State) (a : Addr) (h0 : Heap) (n0 : Nat) (v_ : Option Value) (h_ : Heap) (L_ : List Loc) : Prop := v_ = some (.ref a) ∧ Fr n0 L_ ∧ h_ = h0
theorem pn_7 : plainName "java/util/Objects" = true := by first | (simp [plainName, overriddenIn]; done) | decide +kernel
set_option maxRecDepth 65536 in
set_option maxHeartbeats 40000000 in
theorem rmRnn (l : Launch) (Z : State) (a0 : Array Value) (hw : ∀ d ∈ tables_1, d.before a0 Z = true) (ws : List Jvm.Cond) (a : Addr) (h0 : Heap) (n0 : Nat) (Z0 : n0 ≤ h0.size)  :
    MetFree l own_y13 (head1 (Jvm.Cond.code own_y13 jdk_31_method_10_code 1 (some (.object "java/lang/Object")) :: ws) ({ frames := 0, cells := 0, slots := 0, locals := 0 } : Room)) (fun a_ U_ => a_ = #[(.ref a)] ∧ Z.Warmed39 U_.vm ∧ U_.heap = h0) (fun _ _ _ _ _ => True) (fun _ U_ o_ U2_ => ∃ v_ L_, o_ = .returned v_ ∧ Q_rmRnn Z a h0 n0 v_ U2_.heap L_ ∧ FrameEnd U_ o_ U2_ L_ ({ frames := 0, cells := 0, slots := 0, locals := 0 } : Room).cells ({ frames := 0, cells := 0, slots := 0, locals := 0 } : Room).slots) := by
  refine MetFree.of_bodySF (plainFor_of_name pn_7) hisR ?_
  intro p e s m args below meth c s₁ Bd hml0 hP hK
  obtain ⟨rfl, hZ, hh⟩ := hP
  have hx := Bd.exec
  have hby := Bd.bytes
  have hml : c.maxLocals = 1 := hml0
  have hown : s.vm.findClass "java/util/Objects" = some m.cls := findClass_of_methodNamed Bd.named
  have hnm := (name_of_methodNamed Bd.named Bd.method).1
  have X0 : Stand p l e ({ frames := 0, cells := 0, slots := 0, locals := 0 } : Room) s m #[(.ref a)] below meth c s₁ [] 0 0 := Stand.of_body Bd
  have e0 : s₁.heap = h0 := by rw [← hh, Bd.state]; rfl
  have N0 := Fr.nil n0
  refine own_go (A := s₁.setTop (mkF m 0 #[.val (.ref a)] [])) (fun t_ k_ => castTop (ef_rmRnn m a) k_) ?_
  refine own_go (A := s₁.setTop (mkF m 13 #[.val (.ref a)] [(.ref a)])) (fun t_ k_ => ?_) ?_
  · show Steps p.tables e below (s₁.setTop (mkF m 0 #[.val (.ref a)] [])) t_
    refine XS.aloadN X0.here hx rfl (hb hby d18_0) rfl rfl ?_
    show Steps p.tables e below (s₁.setTop (mkF m 1 #[.val (.ref a)] [(.ref a)])) t_
    refine XS.ifnonnullYes X0.here hx rfl (pc0 := 1) (pc' := 12) rfl (hb hby d18_1) rfl (by decide) (by decide) ?_
    show Steps p.tables e below (s₁.setTop (mkF m 12 #[.val (.ref a)] [])) t_
    refine XS.aloadN X0.here hx rfl (hb hby d18_12) rfl rfl ?_
    exact k_
  obtain ⟨fs1, hr1, hrun1, hended1, hW1, hsame1⟩ := X0.leave (v := some (.ref a)) (fun h => by rw [Bd.returns] at h; cases h)
  refine ⟨_, _, ?_, hrun1, hended1, _, _, rfl, ?_, ⟨_, rfl⟩, hW1, hsame1.mono (by decide) (by decide)⟩
  · exact own_retA X0 hx Bd.returns rfl rfl rfl (hb hby d18_13) hr1
  · show Q_rmRnn Z a h0 n0 _ s₁.heap _
    rw [e0]
    exact ⟨rfl, N0, rfl⟩
theorem d29_0 : decode jdk_44_method_1_code 0 = .ok (.aload_n 0, 1) := by decide +kernel
theorem d29_1 : decode jdk_44_method_1_code 1 = .ok (.invokespecial 1, 3) := by decide +kernel
theorem d29_4 : decode jdk_44_method_1_code 4 = .ok (.aload_n 0, 1) := by decide +kernel
theorem d29_5 : decode jdk_44_method_1_code 5 = .ok (.aload_n 1, 1) := by decide +kernel
theorem pd_10 : parseMethodDescriptor "(Ljava/lang/Object;)Ljava/lang/Object;" = some ⟨[(.object "java/lang/Object")], some (.object "java/lang/Object")⟩ := by decide +kernel
theorem d29_6 : decode jdk_44_method_1_code 6 = .ok (.invokestatic 7, 3) := by decide +kernel
theorem d29_9 : decode jdk_44_method_1_code 9 = .ok (.putfield 13, 3) := by decide +kernel
theorem d29_12 : decode jdk_44_method_1_code 12 = .ok (.aload_n 0, 1) := by decide +kernel
theorem d29_13 : decode jdk_44_method_1_code 13 = .ok (.getstatic 19, 3) := by decide +kernel
theorem d29_16 : decode jdk_44_method_1_code 16 = .ok (.putfield 24, 3) := by decide +kernel
theorem d29_19 : decode jdk_44_method_1_code 19 = .ok (.return_, 1) := by decide +kernel
abbrev own_y14 : MethodName := ⟨"java/util/ImmutableCollections$List12", "<init>", "(Ljava/lang/Object;)V"⟩
theorem ef_rmL1 (m : MethodId) (a : Addr) (gg0 : Addr) : entryFrame m #[(.ref a), (.ref gg0)] 2 = mkF m 0 #[.val (.ref a), .val (.ref gg0)] [] := by first | (simp [entryFrame, mkF, argsToLocals, Value.category]; done) | rfl
def Q_rmL1 (Z : State) (a : Addr) (gg0 : Addr) (em : Addr) (h0 : Heap) (n0 : Nat) (v_ : Option Value) (h_ : Heap) (L_ : List Loc) : Prop := v_ = none ∧ Fr n0 L_ ∧ Keep h0 h_ [a] ∧ Fld Z h_ a "java/util/ImmutableCollections$List12" "e0" "Ljava/lang/Object;" (.ref gg0) ∧ Fld Z h_ a "java/util/ImmutableCollections$List12" "e1" "Ljava/lang/Object;" (.ref em)
theorem pn_8 : plainName "java/util/ImmutableCollections$List12" = true := by first | (simp [plainName, overriddenIn]; done) | decide +kernel
set_option maxRecDepth 65536 in
set_option maxHeartbeats 40000000 in
theorem rmL1 (l : Launch) (Z : State) (a0 : Array Value) (hw : ∀ d ∈ tables_1, d.before a0 Z = true) (ws : List Jvm.Cond) (a : Addr) (gg0 : Addr) (em : Addr) (h0 : Heap) (n0 : Nat) (Z0 : n0 ≤ h0.size) (O0 : Old Z n0 h0) (u1 : Sta Z Z.heap "java/util/ImmutableCollections" "EMPTY" "Ljava/lang/Object;" (.ref em)) (u2 : Exa Z h0 a "java/util/ImmutableCollections$List12") (u3 : Fld Z h0 a "java/util/ImmutableCollections$List12" "e0" "Ljava/lang/Object;" .null) (u4 : Fld Z h0 a "java/util/ImmutableCollections$List12" "e1" "Ljava/lang/Object;" .null) (u5 : n0 ≤ a) :
    MetFree l own_y14 (head1 (Jvm.Cond.code own_y14 jdk_44_method_1_code 2 none :: ws) ({ frames := 4, cells := 0, slots := 0, locals := 48 } : Room)) (fun a_ U_ => a_ = #[(.ref a), (.ref gg0)] ∧ Z.Warmed39 U_.vm ∧ U_.heap = h0) (fun _ _ _ _ _ => True) (fun _ U_ o_ U2_ => ∃ v_ L_, o_ = .returned v_ ∧ Q_rmL1 Z a gg0 em h0 n0 v_ U2_.heap L_ ∧ FrameEnd U_ o_ U2_ L_ ({ frames := 4, cells := 0, slots := 0, locals := 48 } : Room).cells ({ frames := 4, cells := 0, slots := 0, locals := 48 } : Room).slots) := by
  refine MetFree.of_bodySF (plainFor_of_name pn_8) hisR ?_
  intro p e s m args below meth c s₁ Bd hml0 hP hK
  obtain ⟨rfl, hZ, hh⟩ := hP
  have hx := Bd.exec
  have hby := Bd.bytes
  have hml : c.maxLocals = 2 := hml0
  have hown : s.vm.findClass "java/util/ImmutableCollections$List12" = some m.cls := findClass_of_methodNamed Bd.named
  have hnm := (name_of_methodNamed Bd.named Bd.method).1
  have X0 : Stand p l e ({ frames := 4, cells := 0, slots := 0, locals := 48 } : Room) s m #[(.ref a), (.ref gg0)] below meth c s₁ [] 0 0 := Stand.of_body Bd
  have e0 : s₁.heap = h0 := by rw [← hh, Bd.state]; rfl
  have N0 := Fr.nil n0
  refine own_go (A := s₁.setTop (mkF m 0 #[.val (.ref a), .val (.ref gg0)] [])) (fun t_ k_ => castTop (ef_rmL1 m a gg0) k_) ?_
  refine own_go (A := s₁.setTop (mkF m 1 #[.val (.ref a), .val (.ref gg0)] [(.ref a)])) (fun t_ k_ => ?_) ?_
  · show Steps p.tables e below (s₁.setTop (mkF m 0 #[.val (.ref a), .val (.ref gg0)] [])) t_
    refine XS.aloadN X0.here hx rfl (hb hby d29_0) rfl rfl ?_
    exact k_
  obtain ⟨_, _, ⟨T1, L1, k1, n1⟩, -, X1, ⟨Lc1, hQ1, l1, y1, z1⟩, st1⟩ := X0.specialBack hx (y := own_y12) rfl hown (mvT hZ (own_w hw 152 rfl)) (mvT hZ (own_w hw 108 rfl)) (mvT hZ (own_w hw 112 rfl)) (by decide) (backOf (W := 0) (rmAIL l Z a0 hw [] a h0 n0 Z0) hZ (own_w hw 112 rfl) (own_w hw 111 rfl) (by decide) (by decide)) (g := (mkF m 1 #[.val (.ref a), .val (.ref gg0)] [(.ref a)])) rfl (by rw [hml]; rfl) (Steps.refl _) (a := a) (argsL := []) (rest := []) (lenOf pd_9 rfl) rfl (by show 2 * 0 + _ ≤ _; exact Nat.le_of_eq rfl) (hb hby d29_1) (fun _ _ => ⟨rfl, e0, (by decide : 0 + 0 ≤ _), (by decide : 0 + 0 ≤ _)⟩)
  dsimp only [Pt.U, Pt.locs, Pt.cells, Pt.slots] at X1 l1 y1 z1 st1 hQ1
  subst l1 y1 z1
  obtain ⟨rfl, N1q, eh1⟩ := hQ1
  have N1 := Fr.app N0 N1q
  refine own_via st1 ?_
  refine own_go (A := T1.setTop (mkF m 6 #[.val (.ref a), .val (.ref gg0)] [(.ref gg0), (.ref a)])) (fun t_ k_ => ?_) ?_
  · show Steps p.tables e below (T1.setTop (mkF m 4 #[.val (.ref a), .val (.ref gg0)] [])) t_
    refine XS.aloadN X1.here hx rfl (hb hby d29_4) rfl rfl ?_
    show Steps p.tables e below (T1.setTop (mkF m 5 #[.val (.ref a), .val (.ref gg0)] [(.ref a)])) t_
    refine XS.aloadN X1.here hx rfl (hb hby d29_5) rfl rfl ?_
    exact k_
  obtain ⟨_, _, ⟨T2, L2, k2, n2⟩, -, X2, ⟨Lc2, hQ2, l2, y2, z2⟩, st2⟩ := Jvm.LawKit.callS X1 hx (y := own_y13) hown (mvT hZ (own_w hw 156 rfl)) (mvT hZ (own_w hw 97 rfl)) (mvT hZ (own_w hw 98 rfl)) (mvT hZ (own_w hw 99 rfl)) (by decide) (backOf (W := 1) (rmRnn l Z a0 hw [] gg0 h0 n0 Z0) hZ (own_w hw 99 rfl) (own_w hw 98 rfl) (by decide) (by decide)) (g := (mkF m 6 #[.val (.ref a), .val (.ref gg0)] [(.ref gg0), (.ref a)])) rfl (by rw [hml]; rfl) (argsL := [(.ref gg0)]) (rest := [(.ref a)]) (lenOf pd_10 rfl) rfl (by show 2 * 0 + _ ≤ _; exact Nat.le_of_eq rfl) (hb hby d29_6) (fun _ _ => ⟨rfl, eh1, (by decide : 0 + 0 ≤ _), (by decide : 0 + 0 ≤ _)⟩)
  dsimp only [Pt.U, Pt.locs, Pt.cells, Pt.slots] at X2 l2 y2 z2 st2 hQ2
  subst l2 y2 z2
  obtain ⟨rfl, N2q, eh2⟩ := hQ2
  have N2 := Fr.app N1 N2q
  refine own_go st2 ?_
  obtain ⟨T3, h3, X3, e3, W3, st3⟩ := putF X2 hx hZ hown (host := "") (Or.inl (own_w hw 157 rfl)) Via.refl eh2 u3 u2 (Or.inr ⟨(own_w hw 158 rfl), rfl, hnm⟩) (own_w hw 146 rfl) (ty := (.object "java/lang/Object")) (by decide) rfl rfl (g := (mkF m 9 #[.val (.ref a), .val (.ref gg0)] [(.ref gg0), (.ref a)])) rfl rfl (hb hby d29_9)
  have Fw3 : Fld Z h3 a "java/util/ImmutableCollections$List12" "e0" "Ljava/lang/Object;" (.ref gg0) := u3.same W3
  refine own_go st3 ?_
  have K3 : Keep h0 h3 [a] := (Keep.refl h0 [a]).wr W3 (Or.inl (List.mem_of_getElem? (i := 0) rfl))
  have O3 := O0.wr W3 u5
  have N3 := Fr.snoc X3 N2 u5
  refine own_go (A := T3.setTop (mkF m 13 #[.val (.ref a), .val (.ref gg0)] [(.ref a)])) (fun t_ k_ => ?_) ?_
  · show Steps p.tables e below (T3.setTop (mkF m 12 #[.val (.ref a), .val (.ref gg0)] [])) t_
    refine XS.aloadN X3.here hx rfl (hb hby d29_12) rfl rfl ?_
    exact k_
  obtain ⟨T4, X4, e4, st4⟩ := getS2 X3 hx hZ hown (Or.inr (own_w hw 167 rfl)) Via.refl e3 (u1.ext O3.2) (g := (mkF m 13 #[.val (.ref a), .val (.ref gg0)] [(.ref a)])) rfl (hb hby d29_13)
  refine own_go st4 ?_
  obtain ⟨T5, h5, X5, e5, W5, st5⟩ := putF X4 hx hZ hown (host := "") (Or.inl (own_w hw 159 rfl)) Via.refl e4 (u4.other W3 (Or.inr (slot_ne (Or.inr (own_w hw 160 rfl)) (Or.inr (own_w hw 158 rfl)) (by decide) (t := (.object "java/lang/Object")) (t' := (.object "java/lang/Object")) (by decide) (by decide)))) (u2.wr W3) (Or.inr ⟨(own_w hw 160 rfl), rfl, hnm⟩) (own_w hw 146 rfl) (ty := (.object "java/lang/Object")) (by decide) rfl rfl (g := (mkF m 16 #[.val (.ref a), .val (.ref gg0)] [(.ref em), (.ref a)])) rfl rfl (hb hby d29_16)
  have Fw5 : Fld Z h5 a "java/util/ImmutableCollections$List12" "e1" "Ljava/lang/Object;" (.ref em) := (u4.other W3 (Or.inr (slot_ne (Or.inr (own_w hw 160 rfl)) (Or.inr (own_w hw 158 rfl)) (by decide) (t := (.object "java/lang/Object")) (t' := (.object "java/lang/Object")) (by decide) (by decide)))).same W5
  refine own_go st5 ?_
  have K5 : Keep h0 h5 [a] := K3.wr W5 (Or.inl (List.mem_of_getElem? (i := 0) rfl))
  have O5 := O3.wr W5 u5
  have N5 := Fr.snoc X5 N3 u5
  obtain ⟨fs6, hr6, hrun6, hended6, hW6, hsame6⟩ := X5.leave (v := none) (fun _ => rfl)
  refine ⟨_, _, ?_, hrun6, hended6, _, _, rfl, ?_, ⟨_, rfl⟩, hW6, hsame6.mono (by decide) (by decide)⟩
  · exact X5.returnOut hx Bd.returns (hb hby d29_19) hr6
  · show Q_rmL1 Z a gg0 em h0 n0 _ T5.heap _
    rw [e5]
    exact ⟨rfl, N5, K5, (Fw3.other W5 (Or.inr (slot_ne (Or.inr (own_w hw 158 rfl)) (Or.inr (own_w hw 160 rfl)) (by decide) (t := (.object "java/lang/Object")) (t' := (.object "java/lang/Object")) (by decide) (by decide)))), Fw5⟩
theorem d26_0 : decode jdk_44_method_2_code 0 = .ok (.aload_n 0, 1) := by decide +kernel
theorem d26_1 : decode jdk_44_method_2_code 1 = .ok (.invokespecial 1, 3) := by decide +kernel
theorem d26_4 : decode jdk_44_method_2_code 4 = .ok (.aload_n 0, 1) := by decide +kernel
theorem d26_5 : decode jdk_44_method_2_code 5 = .ok (.aload_n 1, 1) := by decide +kernel
theorem d26_6 : decode jdk_44_method_2_code 6 = .ok (.invokestatic 7, 3) := by decide +kernel
theorem d26_9 : decode jdk_44_method_2_code 9 = .ok (.putfield 13, 3) := by decide +kernel
theorem d26_12 : decode jdk_44_method_2_code 12 = .ok (.aload_n 0, 1) := by decide +kernel
theorem d26_13 : decode jdk_44_method_2_code 13 = .ok (.aload_n 2, 1) := by decide +kernel
theorem d26_14 : decode jdk_44_method_2_code 14 = .ok (.invokestatic 7, 3) := by decide +kernel
theorem d26_17 : decode jdk_44_method_2_code 17 = .ok (.putfield 24, 3) := by decide +kernel
theorem d26_20 : decode jdk_44_method_2_code 20 = .ok (.return_, 1) := by decide +kernel
abbrev own_y15 : MethodName := ⟨"java/util/ImmutableCollections$List12", "<init>", "(Ljava/lang/Object;Ljava/lang/Object;)V"⟩
theorem ef_rmL2 (m : MethodId) (a : Addr) (gg0 : Addr) (gg1 : Addr) : entryFrame m #[(.ref a), (.ref gg0), (.ref gg1)] 3 = mkF m 0 #[.val (.ref a), .val (.ref gg0), .val (.ref gg1)] [] := by first | (simp [entryFrame, mkF, argsToLocals, Value.category]; done) | rfl
def Q_rmL2 (Z : State) (a : Addr) (gg0 : Addr) (gg1 : Addr) (h0 : Heap) (n0 : Nat) (v_ : Option Value) (h_ : Heap) (L_ : List Loc) : Prop := v_ = none ∧ Fr n0 L_ ∧ Keep h0 h_ [a] ∧ Fld Z h_ a "java/util/ImmutableCollections$List12" "e0" "Ljava/lang/Object;" (.ref gg0) ∧ Fld Z h_ a "java/util/ImmutableCollections$List12" "e1" "Ljava/lang/Object;" (.ref gg1)
set_option maxRecDepth 65536 in
set_option maxHeartbeats 40000000 in
theorem rmL2 (l : Launch) (Z : State) (a0 : Array Value) (hw : ∀ d ∈ tables_1, d.before a0 Z = true) (ws : List Jvm.Cond) (a : Addr) (gg0 : Addr) (gg1 : Addr) (h0 : Heap) (n0 : Nat) (Z0 : n0 ≤ h0.size) (u0 : Exa Z h0 a "java/util/ImmutableCollections$List12") (u1 : Fld Z h0 a "java/util/ImmutableCollections$List12" "e0" "Ljava/lang/Object;" .null) (u2 : Fld Z h0 a "java/util/ImmutableCollections$List12" "e1" "Ljava/lang/Object;" .null) (u3 : n0 ≤ a) :
    MetFree l own_y15 (head1 (Jvm.Cond.code own_y15 jdk_44_method_2_code 3 none :: ws) ({ frames := 4, cells := 0, slots := 0, locals := 48 } : Room)) (fun a_ U_ => a_ = #[(.ref a), (.ref gg0), (.ref gg1)] ∧ Z.Warmed39 U_.vm ∧ U_.heap = h0) (fun _ _ _ _ _ => True) (fun _ U_ o_ U2_ => ∃ v_ L_, o_ = .returned v_ ∧ Q_rmL2 Z a gg0 gg1 h0 n0 v_ U2_.heap L_ ∧ FrameEnd U_ o_ U2_ L_ ({ frames := 4, cells := 0, slots := 0, locals := 48 } : Room).cells ({ frames := 4, cells := 0, slots := 0, locals := 48 } : Room).slots) := by
  refine MetFree.of_bodySF (plainFor_of_name pn_8) hisR ?_
  intro p e s m args below meth c s₁ Bd hml0 hP hK
  obtain ⟨rfl, hZ, hh⟩ := hP
  have hx := Bd.exec
  have hby := Bd.bytes
  have hml : c.maxLocals = 3 := hml0
  have hown : s.vm.findClass "java/util/ImmutableCollections$List12" = some m.cls := findClass_of_methodNamed Bd.named
  have hnm := (name_of_methodNamed Bd.named Bd.method).1
  have X0 : Stand p l e ({ frames := 4, cells := 0, slots := 0, locals := 48 } : Room) s m #[(.ref a), (.ref gg0), (.ref gg1)] below meth c s₁ [] 0 0 := Stand.of_body Bd
  have e0 : s₁.heap = h0 := by rw [← hh, Bd.state]; rfl
  have N0 := Fr.nil n0
  refine own_go (A := s₁.setTop (mkF m 0 #[.val (.ref a), .val (.ref gg0), .val (.ref gg1)] [])) (fun t_ k_ => castTop (ef_rmL2 m a gg0 gg1) k_) ?_
  refine own_go (A := s₁.setTop (mkF m 1 #[.val (.ref a), .val (.ref gg0), .val (.ref gg1)] [(.ref a)])) (fun t_ k_ => ?_) ?_
  · show Steps p.tables e below (s₁.setTop (mkF m 0 #[.val (.ref a), .val (.ref gg0), .val (.ref gg1)] [])) t_
    refine XS.aloadN X0.here hx rfl (hb hby d26_0) rfl rfl ?_
    exact k_
  obtain ⟨_, _, ⟨T1, L1, k1, n1⟩, -, X1, ⟨Lc1, hQ1, l1, y1, z1⟩, st1⟩ := X0.specialBack hx (y := own_y12) rfl hown (mvT hZ (own_w hw 152 rfl)) (mvT hZ (own_w hw 108 rfl)) (mvT hZ (own_w hw 112 rfl)) (by decide) (backOf (W := 0) (rmAIL l Z a0 hw [] a h0 n0 Z0) hZ (own_w hw 112 rfl) (own_w hw 111 rfl) (by decide) (by decide)) (g := (mkF m 1 #[.val (.ref a), .val (.ref gg0), .val (.ref gg1)] [(.ref a)])) rfl (by rw [hml]; rfl) (Steps.refl _) (a := a) (argsL := []) (rest := []) (lenOf pd_9 rfl) rfl (by show 2 * 0 + _ ≤ _; exact Nat.le_of_eq rfl) (hb hby d26_1) (fun _ _ => ⟨rfl, e0, (by decide : 0 + 0 ≤ _), (by decide : 0 + 0 ≤ _)⟩)
  dsimp only [Pt.U, Pt.locs, Pt.cells, Pt.slots] at X1 l1 y1 z1 st1 hQ1
  subst l1 y1 z1
  obtain ⟨rfl, N1q, eh1⟩ := hQ1
  have N1 := Fr.app N0 N1q
  refine own_via st1 ?_
  refine own_go (A := T1.setTop (mkF m 6 #[.val (.ref a), .val (.ref gg0), .val (.ref gg1)] [(.ref gg0), (.ref a)])) (fun t_ k_ => ?_) ?_
  · show Steps p.tables e below (T1.setTop (mkF m 4 #[.val (.ref a), .val (.ref gg0), .val (.ref gg1)] [])) t_
    refine XS.aloadN X1.here hx rfl (hb hby d26_4) rfl rfl ?_
    show Steps p.tables e below (T1.setTop (mkF m 5 #[.val (.ref a), .val (.ref gg0), .val (.ref gg1)] [(.ref a)])) t_
    refine XS.aloadN X1.here hx rfl (hb hby d26_5) rfl rfl ?_
    exact k_
  obtain ⟨_, _, ⟨T2, L2, k2, n2⟩, -, X2, ⟨Lc2, hQ2, l2, y2, z2⟩, st2⟩ := Jvm.LawKit.callS X1 hx (y := own_y13) hown (mvT hZ (own_w hw 156 rfl)) (mvT hZ (own_w hw 97 rfl)) (mvT hZ (own_w hw 98 rfl)) (mvT hZ (own_w hw 99 rfl)) (by decide) (backOf (W := 1) (rmRnn l Z a0 hw [] gg0 h0 n0 Z0) hZ (own_w hw 99 rfl) (own_w hw 98 rfl) (by decide) (by decide)) (g := (mkF m 6 #[.val (.ref a), .val (.ref gg0), .val (.ref gg1)] [(.ref gg0), (.ref a)])) rfl (by rw [hml]; rfl) (argsL := [(.ref gg0)]) (rest := [(.ref a)]) (lenOf pd_10 rfl) rfl (by show 2 * 0 + _ ≤ _; exact Nat.le_of_eq rfl) (hb hby d26_6) (fun _ _ => ⟨rfl, eh1, (by decide : 0 + 0 ≤ _), (by decide : 0 + 0 ≤ _)⟩)
  dsimp only [Pt.U, Pt.locs, Pt.cells, Pt.slots] at X2 l2 y2 z2 st2 hQ2
  subst l2 y2 z2
  obtain ⟨rfl, N2q, eh2⟩ := hQ2
  have N2 := Fr.app N1 N2q
  refine own_go st2 ?_
  obtain ⟨T3, h3, X3, e3, W3, st3⟩ := putF X2 hx hZ hown (host := "") (Or.inl (own_w hw 157 rfl)) Via.refl eh2 u1 u0 (Or.inr ⟨(own_w hw 158 rfl), rfl, hnm⟩) (own_w hw 146 rfl) (ty := (.object "java/lang/Object")) (by decide) rfl rfl (g := (mkF m 9 #[.val (.ref a), .val (.ref gg0), .val (.ref gg1)] [(.ref gg0), (.ref a)])) rfl rfl (hb hby d26_9)
  have Fw3 : Fld Z h3 a "java/util/ImmutableCollections$List12" "e0" "Ljava/lang/Object;" (.ref gg0) := u1.same W3
  refine own_go st3 ?_
  have K3 : Keep h0 h3 [a] := (Keep.refl h0 [a]).wr W3 (Or.inl (List.mem_of_getElem? (i := 0) rfl))
  have N3 := Fr.snoc X3 N2 u3
  refine own_go (A := T3.setTop (mkF m 14 #[.val (.ref a), .val (.ref gg0), .val (.ref gg1)] [(.ref gg1), (.ref a)])) (fun t_ k_ => ?_) ?_
  · show Steps p.tables e below (T3.setTop (mkF m 12 #[.val (.ref a), .val (.ref gg0), .val (.ref gg1)] [])) t_
    refine XS.aloadN X3.here hx rfl (hb hby d26_12) rfl rfl ?_
    show Steps p.tables e below (T3.setTop (mkF m 13 #[.val (.ref a), .val (.ref gg0), .val (.ref gg1)] [(.ref a)])) t_
    refine XS.aloadN X3.here hx rfl (hb hby d26_13) rfl rfl ?_
    exact k_
  obtain ⟨_, _, ⟨T4, L4, k4, n4⟩, -, X4, ⟨Lc4, hQ4, l4, y4, z4⟩, st4⟩ := Jvm.LawKit.callS X3 hx (y := own_y13) hown (mvT hZ (own_w hw 156 rfl)) (mvT hZ (own_w hw 97 rfl)) (mvT hZ (own_w hw 98 rfl)) (mvT hZ (own_w hw 99 rfl)) (by decide) (backOf (W := 1) (rmRnn l Z a0 hw [] gg1 h3 n0 (Nat.le_trans Z0 K3.1)) hZ (own_w hw 99 rfl) (own_w hw 98 rfl) (by decide) (by decide)) (g := (mkF m 14 #[.val (.ref a), .val (.ref gg0), .val (.ref gg1)] [(.ref gg1), (.ref a)])) rfl (by rw [hml]; rfl) (argsL := [(.ref gg1)]) (rest := [(.ref a)]) (lenOf pd_10 rfl) rfl (by show 2 * 0 + _ ≤ _; exact Nat.le_of_eq rfl) (hb hby d26_14) (fun _ _ => ⟨rfl, e3, (by decide : 0 + 0 ≤ _), (by decide : 0 + 0 ≤ _)⟩)
  dsimp only [Pt.U, Pt.locs, Pt.cells, Pt.slots] at X4 l4 y4 z4 st4 hQ4
  subst l4 y4 z4
  obtain ⟨rfl, N4q, eh4⟩ := hQ4
  have N4 := Fr.app N3 N4q
  refine own_go st4 ?_
  obtain ⟨T5, h5, X5, e5, W5, st5⟩ := putF X4 hx hZ hown (host := "") (Or.inl (own_w hw 159 rfl)) Via.refl eh4 (u2.other W3 (Or.inr (slot_ne (Or.inr (own_w hw 160 rfl)) (Or.inr (own_w hw 158 rfl)) (by decide) (t := (.object "java/lang/Object")) (t' := (.object "java/lang/Object")) (by decide) (by decide)))) (u0.wr W3) (Or.inr ⟨(own_w hw 160 rfl), rfl, hnm⟩) (own_w hw 146 rfl) (ty := (.object "java/lang/Object")) (by decide) rfl rfl (g := (mkF m 17 #[.val (.ref a), .val (.ref gg0), .val (.ref gg1)] [(.ref gg1), (.ref a)])) rfl rfl (hb hby d26_17)
  have Fw5 : Fld Z h5 a "java/util/ImmutableCollections$List12" "e1" "Ljava/lang/Object;" (.ref gg1) := (u2.other W3 (Or.inr (slot_ne (Or.inr (own_w hw 160 rfl)) (Or.inr (own_w hw 158 rfl)) (by decide) (t := (.object "java/lang/Object")) (t' := (.object "java/lang/Object")) (by decide) (by decide)))).same W5
  refine own_go st5 ?_
  have K5 : Keep h0 h5 [a] := K3.wr W5 (Or.inl (List.mem_of_getElem? (i := 0) rfl))
  have N5 := Fr.snoc X5 N4 u3
  obtain ⟨fs6, hr6, hrun6, hended6, hW6, hsame6⟩ := X5.leave (v := none) (fun _ => rfl)
  refine ⟨_, _, ?_, hrun6, hended6, _, _, rfl, ?_, ⟨_, rfl⟩, hW6, hsame6.mono (by decide) (by decide)⟩
  · exact X5.returnOut hx Bd.returns (hb hby d26_20) hr6
  · show Q_rmL2 Z a gg0 gg1 h0 n0 _ T5.heap _
    rw [e5]
    exact ⟨rfl, N5, K5, (Fw3.other W5 (Or.inr (slot_ne (Or.inr (own_w hw 158 rfl)) (Or.inr (own_w hw 160 rfl)) (by decide) (t := (.object "java/lang/Object")) (t' := (.object "java/lang/Object")) (by decide) (by decide)))), Fw5⟩
theorem d19_0 : decode jdk_45_method_1_code 0 = .ok (.aload_n 0, 1) := by decide +kernel
theorem d19_1 : decode jdk_45_method_1_code 1 = .ok (.invokespecial 1, 3) := by decide +kernel
theorem d19_4 : decode jdk_45_method_1_code 4 = .ok (.aload_n 0, 1) := by decide +kernel
theorem d19_5 : decode jdk_45_method_1_code 5 = .ok (.aload_n 1, 1) := by decide +kernel
theorem d19_6 : decode jdk_45_method_1_code 6 = .ok (.putfield 7, 3) := by decide +kernel
theorem d19_9 : decode jdk_45_method_1_code 9 = .ok (.aload_n 0, 1) := by decide +kernel
theorem d19_10 : decode jdk_45_method_1_code 10 = .ok (.iload_n 2, 1) := by decide +kernel
theorem d19_11 : decode jdk_45_method_1_code 11 = .ok (.putfield 13, 3) := by decide +kernel
theorem d19_14 : decode jdk_45_method_1_code 14 = .ok (.return_, 1) := by decide +kernel
abbrev own_y16 : MethodName := ⟨"java/util/ImmutableCollections$ListN", "<init>", "([Ljava/lang/Object;Z)V"⟩
theorem ef_rmLN (m : MethodId) (a : Addr) (es : Addr) : entryFrame m #[(.ref a), (.ref es), (.int (0 : Int32))] 3 = mkF m 0 #[.val (.ref a), .val (.ref es), .val (.int (0 : Int32))] [] := by first | (simp [entryFrame, mkF, argsToLocals, Value.category]; done) | rfl
def Q_rmLN (Z : State) (a : Addr) (es : Addr) (h0 : Heap) (n0 : Nat) (v_ : Option Value) (h_ : Heap) (L_ : List Loc) : Prop := v_ = none ∧ Fr n0 L_ ∧ Keep h0 h_ [a] ∧ Fld Z h_ a "java/util/ImmutableCollections$ListN" "elements" "[Ljava/lang/Object;" (.ref es)
theorem pn_9 : plainName "java/util/ImmutableCollections$ListN" = true := by first | (simp [plainName, overriddenIn]; done) | decide +kernel
set_option maxRecDepth 65536 in
set_option maxHeartbeats 40000000 in
theorem rmLN (l : Launch) (Z : State) (a0 : Array Value) (hw : ∀ d ∈ tables_1, d.before a0 Z = true) (ws : List Jvm.Cond) (a : Addr) (es : Addr) (h0 : Heap) (n0 : Nat) (Z0 : n0 ≤ h0.size) (u0 : Exa Z h0 a "java/util/ImmutableCollections$ListN") (u1 : Fld Z h0 a "java/util/ImmutableCollections$ListN" "elements" "[Ljava/lang/Object;" .null) (u2 : Fld Z h0 a "java/util/ImmutableCollections$ListN" "allowNulls" "Z" (.int (0 : Int32))) (u3 : n0 ≤ a) :
    MetFree l own_y16 (head1 (Jvm.Cond.code own_y16 jdk_45_method_1_code 3 none :: ws) ({ frames := 4, cells := 0, slots := 0, locals := 48 } : Room)) (fun a_ U_ => a_ = #[(.ref a), (.ref es), (.int (0 : Int32))] ∧ Z.Warmed39 U_.vm ∧ U_.heap = h0) (fun _ _ _ _ _ => True) (fun _ U_ o_ U2_ => ∃ v_ L_, o_ = .returned v_ ∧ Q_rmLN Z a es h0 n0 v_ U2_.heap L_ ∧ FrameEnd U_ o_ U2_ L_ ({ frames := 4, cells := 0, slots := 0, locals := 48 } : Room).cells ({ frames := 4, cells := 0, slots := 0, locals := 48 } : Room).slots) := by
  refine MetFree.of_bodySF (plainFor_of_name pn_9) hisR ?_
  intro p e s m args below meth c s₁ Bd hml0 hP hK
  obtain ⟨rfl, hZ, hh⟩ := hP
  have hx := Bd.exec
  have hby := Bd.bytes
  have hml : c.maxLocals = 3 := hml0
  have hown : s.vm.findClass "java/util/ImmutableCollections$ListN" = some m.cls := findClass_of_methodNamed Bd.named
  have hnm := (name_of_methodNamed Bd.named Bd.method).1
  have X0 : Stand p l e ({ frames := 4, cells := 0, slots := 0, locals := 48 } : Room) s m #[(.ref a), (.ref es), (.int (0 : Int32))] below meth c s₁ [] 0 0 := Stand.of_body Bd
  have e0 : s₁.heap = h0 := by rw [← hh, Bd.state]; rfl
  have N0 := Fr.nil n0
  refine own_go (A := s₁.setTop (mkF m 0 #[.val (.ref a), .val (.ref es), .val (.int (0 : Int32))] [])) (fun t_ k_ => castTop (ef_rmLN m a es) k_) ?_
  refine own_go (A := s₁.setTop (mkF m 1 #[.val (.ref a), .val (.ref es), .val (.int (0 : Int32))] [(.ref a)])) (fun t_ k_ => ?_) ?_
  · show Steps p.tables e below (s₁.setTop (mkF m 0 #[.val (.ref a), .val (.ref es), .val (.int (0 : Int32))] [])) t_
    refine XS.aloadN X0.here hx rfl (hb hby d19_0) rfl rfl ?_
    exact k_
  obtain ⟨_, _, ⟨T1, L1, k1, n1⟩, -, X1, ⟨Lc1, hQ1, l1, y1, z1⟩, st1⟩ := X0.specialBack hx (y := own_y12) rfl hown (mvT hZ (own_w hw 107 rfl)) (mvT hZ (own_w hw 108 rfl)) (mvT hZ (own_w hw 112 rfl)) (by decide) (backOf (W := 0) (rmAIL l Z a0 hw [] a h0 n0 Z0) hZ (own_w hw 112 rfl) (own_w hw 111 rfl) (by decide) (by decide)) (g := (mkF m 1 #[.val (.ref a), .val (.ref es), .val (.int (0 : Int32))] [(.ref a)])) rfl (by rw [hml]; rfl) (Steps.refl _) (a := a) (argsL := []) (rest := []) (lenOf pd_9 rfl) rfl (by show 2 * 0 + _ ≤ _; exact Nat.le_of_eq rfl) (hb hby d19_1) (fun _ _ => ⟨rfl, e0, (by decide : 0 + 0 ≤ _), (by decide : 0 + 0 ≤ _)⟩)
  dsimp only [Pt.U, Pt.locs, Pt.cells, Pt.slots] at X1 l1 y1 z1 st1 hQ1
  subst l1 y1 z1
  obtain ⟨rfl, N1q, eh1⟩ := hQ1
  have N1 := Fr.app N0 N1q
  refine own_via st1 ?_
  refine own_go (A := T1.setTop (mkF m 6 #[.val (.ref a), .val (.ref es), .val (.int (0 : Int32))] [(.ref es), (.ref a)])) (fun t_ k_ => ?_) ?_
  · show Steps p.tables e below (T1.setTop (mkF m 4 #[.val (.ref a), .val (.ref es), .val (.int (0 : Int32))] [])) t_
    refine XS.aloadN X1.here hx rfl (hb hby d19_4) rfl rfl ?_
    show Steps p.tables e below (T1.setTop (mkF m 5 #[.val (.ref a), .val (.ref es), .val (.int (0 : Int32))] [(.ref a)])) t_
    refine XS.aloadN X1.here hx rfl (hb hby d19_5) rfl rfl ?_
    exact k_
  obtain ⟨T2, h2, X2, e2, W2, st2⟩ := putF X1 hx hZ hown (host := "") (Or.inl (own_w hw 68 rfl)) Via.refl eh1 u1 u0 (Or.inr ⟨(own_w hw 69 rfl), rfl, hnm⟩) (own_w hw 102 rfl) (ty := (.array (.object "java/lang/Object"))) (by decide) rfl rfl (g := (mkF m 6 #[.val (.ref a), .val (.ref es), .val (.int (0 : Int32))] [(.ref es), (.ref a)])) rfl rfl (hb hby d19_6)
  have Fw2 : Fld Z h2 a "java/util/ImmutableCollections$ListN" "elements" "[Ljava/lang/Object;" (.ref es) := u1.same W2
  refine own_go st2 ?_
  have K2 : Keep h0 h2 [a] := (Keep.refl h0 [a]).wr W2 (Or.inl (List.mem_of_getElem? (i := 0) rfl))
  have N2 := Fr.snoc X2 N1 u3
  refine own_go (A := T2.setTop (mkF m 11 #[.val (.ref a), .val (.ref es), .val (.int (0 : Int32))] [(.int (0 : Int32)), (.ref a)])) (fun t_ k_ => ?_) ?_
  · show Steps p.tables e below (T2.setTop (mkF m 9 #[.val (.ref a), .val (.ref es), .val (.int (0 : Int32))] [])) t_
    refine XS.aloadN X2.here hx rfl (hb hby d19_9) rfl rfl ?_
    show Steps p.tables e below (T2.setTop (mkF m 10 #[.val (.ref a), .val (.ref es), .val (.int (0 : Int32))] [(.ref a)])) t_
    refine XS.iloadN X2.here hx rfl (hb hby d19_10) rfl ?_
    exact k_
  obtain ⟨T3, h3, X3, e3, W3, st3⟩ := putFN X2 hx hZ hown (own_w hw 126 rfl) Via.refl e2 (u2.other W2 (Or.inr (slot_ne (Or.inr (own_w hw 127 rfl)) (Or.inr (own_w hw 69 rfl)) (by decide) (t := .boolean) (t' := (.array (.object "java/lang/Object"))) (by decide) (by decide)))) (u0.wr W2) (Or.inr ⟨(own_w hw 127 rfl), rfl, hnm⟩) (own_w hw 102 rfl) (ty := .boolean) (v' := (.int (0 : Int32))) (by decide) rfl rfl (g := (mkF m 11 #[.val (.ref a), .val (.ref es), .val (.int (0 : Int32))] [(.int (0 : Int32)), (.ref a)])) rfl rfl (hb hby d19_11)
  have Fw3 : Fld Z h3 a "java/util/ImmutableCollections$ListN" "allowNulls" "Z" (.int (0 : Int32)) := (u2.other W2 (Or.inr (slot_ne (Or.inr (own_w hw 127 rfl)) (Or.inr (own_w hw 69 rfl)) (by decide) (t := .boolean) (t' := (.array (.object "java/lang/Object"))) (by decide) (by decide)))).same W3
  refine own_go st3 ?_
  have K3 : Keep h0 h3 [a] := K2.wr W3 (Or.inl (List.mem_of_getElem? (i := 0) rfl))
  have N3 := Fr.snoc X3 N2 u3
  obtain ⟨fs4, hr4, hrun4, hended4, hW4, hsame4⟩ := X3.leave (v := none) (fun _ => rfl)
  refine ⟨_, _, ?_, hrun4, hended4, _, _, rfl, ?_, ⟨_, rfl⟩, hW4, hsame4.mono (by decide) (by decide)⟩
  · exact X3.returnOut hx Bd.returns (hb hby d19_14) hr4
  · show Q_rmLN Z a es h0 n0 _ T3.heap _
    rw [e3]
    exact ⟨rfl, N3, K3, (Fw2.other W3 (Or.inr (slot_ne (Or.inr (own_w hw 69 rfl)) (Or.inr (own_w hw 127 rfl)) (by decide) (t := (.array (.object "java/lang/Object"))) (t' := .boolean) (by decide) (by decide))))⟩
theorem d17_0 : decode jdk_56_method_4_code 0 = .ok (.aload_n 0, 1) := by decide +kernel
theorem d17_1 : decode jdk_56_method_4_code 1 = .ok (.arraylength, 1) := by decide +kernel
theorem d17_2 : decode jdk_56_method_4_code 2 = .ok (.anewarray 2, 3) := by decide +kernel
theorem d17_5 : decode jdk_56_method_4_code 5 = .ok (.astore_n 1, 1) := by decide +kernel
theorem d17_6 : decode jdk_56_method_4_code 6 = .ok (.iconst 0, 1) := by decide +kernel
theorem d17_7 : decode jdk_56_method_4_code 7 = .ok (.istore_n 2, 1) := by decide +kernel
theorem d17_8 : decode jdk_56_method_4_code 8 = .ok (.iload_n 2, 1) := by decide +kernel
theorem d17_9 : decode jdk_56_method_4_code 9 = .ok (.aload_n 0, 1) := by decide +kernel
theorem d17_10 : decode jdk_56_method_4_code 10 = .ok (.arraylength, 1) := by decide +kernel
theorem d17_11 : decode jdk_56_method_4_code 11 = .ok (.if_icmp .ge 18, 3) := by decide +kernel
theorem d17_14 : decode jdk_56_method_4_code 14 = .ok (.aload_n 1, 1) := by decide +kernel
theorem d17_15 : decode jdk_56_method_4_code 15 = .ok (.iload_n 2, 1) := by decide +kernel
theorem d17_16 : decode jdk_56_method_4_code 16 = .ok (.aload_n 0, 1) := by decide +kernel
theorem d17_17 : decode jdk_56_method_4_code 17 = .ok (.iload_n 2, 1) := by decide +kernel
theorem d17_18 : decode jdk_56_method_4_code 18 = .ok (.aaload, 1) := by decide +kernel
theorem d17_19 : decode jdk_56_method_4_code 19 = .ok (.invokestatic 37, 3) := by decide +kernel
theorem d17_22 : decode jdk_56_method_4_code 22 = .ok (.aastore, 1) := by decide +kernel
theorem d17_23 : decode jdk_56_method_4_code 23 = .ok (.iinc 2 1, 3) := by decide +kernel
theorem d17_26 : decode jdk_56_method_4_code 26 = .ok (.goto (-18), 3) := by decide +kernel
theorem d17_29 : decode jdk_56_method_4_code 29 = .ok (.new 12, 3) := by decide +kernel
theorem d17_32 : decode jdk_56_method_4_code 32 = .ok (.dup, 1) := by decide +kernel
theorem d17_33 : decode jdk_56_method_4_code 33 = .ok (.aload_n 1, 1) := by decide +kernel
theorem d17_34 : decode jdk_56_method_4_code 34 = .ok (.iconst 0, 1) := by decide +kernel
theorem pd_11 : parseMethodDescriptor "([Ljava/lang/Object;Z)V" = some ⟨[(.array (.object "java/lang/Object")), .boolean], none⟩ := by decide +kernel
theorem d17_35 : decode jdk_56_method_4_code 35 = .ok (.invokespecial 43, 3) := by decide +kernel
theorem d17_38 : decode jdk_56_method_4_code 38 = .ok (.areturn, 1) := by decide +kernel
abbrev own_y17 : MethodName := ⟨"java/util/ImmutableCollections", "listFromArray", "([Ljava/lang/Object;)Ljava/util/List;"⟩
theorem ef_rmLfa (m : MethodId) (sr : Addr) : entryFrame m #[(.ref sr)] 3 = mkF m 0 #[.val (.ref sr), .unset, .unset] [] := by first | (simp [entryFrame, mkF, argsToLocals, Value.category]; done) | rfl
def Q_rmLfa (Z : State) (sr : Addr) (ks : ClassId) (gg0 : Addr) (gg1 : Addr) (gg2 : Addr) (h0 : Heap) (n0 : Nat) (v_ : Option Value) (h_ : Heap) (L_ : List Loc) : Prop := ∃ li : Addr, ∃ es : Addr, ∃ k : ClassId, v_ = some (.ref li) ∧ Fr n0 L_ ∧ Keep h0 h_ [] ∧ h0.size ≤ li ∧ Exa Z h_ li "java/util/ImmutableCollections$ListN" ∧ h0.size ≤ es ∧ Fld Z h_ li "java/util/ImmutableCollections$ListN" "elements" "[Ljava/lang/Object;" (.ref es) ∧ Arv Z h_ es k (.object "java/lang/Object") (3 : Int32) [(.ref gg0), (.ref gg1), (.ref gg2)] .null
theorem pn_10 : plainName "java/util/ImmutableCollections" = true := by first | (simp [plainName, overriddenIn]; done) | decide +kernel
set_option maxRecDepth 65536 in
set_option maxHeartbeats 40000000 in
theorem rmLfa (l : Launch) (Z : State) (a0 : Array Value) (hw : ∀ d ∈ tables_1, d.before a0 Z = true) (ws : List Jvm.Cond) (sr : Addr) (ks : ClassId) (gg0 : Addr) (gg1 : Addr) (gg2 : Addr) (h0 : Heap) (n0 : Nat) (Z0 : n0 ≤ h0.size) (u0 : Arv Z h0 sr ks (.object "java/lang/String") (3 : Int32) [(.ref gg0), (.ref gg1), (.ref gg2)] .null) (u1 : Exa Z h0 gg0 "java/lang/String") (u2 : Exa Z h0 gg1 "java/lang/String") (u3 : Exa Z h0 gg2 "java/lang/String") :
    MetFree l own_y17 (head1 (Jvm.Cond.code own_y17 jdk_56_method_4_code 3 (some (.object "java/util/List")) :: ws) ({ frames := 5, cells := 2, slots := 5, locals := 63 } : Room)) (fun a_ U_ => a_ = #[(.ref sr)] ∧ Z.Warmed39 U_.vm ∧ U_.heap = h0) (fun _ _ _ _ _ => True) (fun _ U_ o_ U2_ => ∃ v_ L_, o_ = .returned v_ ∧ Q_rmLfa Z sr ks gg0 gg1 gg2 h0 n0 v_ U2_.heap L_ ∧ FrameEnd U_ o_ U2_ L_ ({ frames := 5, cells := 2, slots := 5, locals := 63 } : Room).cells ({ frames := 5, cells := 2, slots := 5, locals := 63 } : Room).slots) := by
  refine MetFree.of_bodySF (plainFor_of_name pn_10) hisR ?_
  intro p e s m args below meth c s₁ Bd hml0 hP hK
  obtain ⟨rfl, hZ, hh⟩ := hP
  have hx := Bd.exec
  have hby := Bd.bytes
  have hml : c.maxLocals = 3 := hml0
  have hown : s.vm.findClass "java/util/ImmutableCollections" = some m.cls := findClass_of_methodNamed Bd.named
  have hnm := (name_of_methodNamed Bd.named Bd.method).1
  have X0 : Stand p l e ({ frames := 5, cells := 2, slots := 5, locals := 63 } : Room) s m #[(.ref sr)] below meth c s₁ [] 0 0 := Stand.of_body Bd
  have e0 : s₁.heap = h0 := by rw [← hh, Bd.state]; rfl
  have N0 := Fr.nil n0
  refine own_go (A := s₁.setTop (mkF m 0 #[.val (.ref sr), .unset, .unset] [])) (fun t_ k_ => castTop (ef_rmLfa m sr) k_) ?_
  obtain ⟨cl1, Ar1, q1, S1, M1, H1, G1⟩ := id u0
  refine own_go (A := s₁.setTop (mkF m 2 #[.val (.ref sr), .unset, .unset] [(.int (3 : Int32))])) (fun t_ k_ => ?_) ?_
  · show Steps p.tables e below (s₁.setTop (mkF m 0 #[.val (.ref sr), .unset, .unset] [])) t_
    refine XS.aloadN X0.here hx rfl (hb hby d17_0) rfl rfl ?_
    show Steps p.tables e below (s₁.setTop (mkF m 1 #[.val (.ref sr), .unset, .unset] [(.ref sr)])) t_
    refine X0.arraylength hx (by rw [e0]; exact Ar1.1) (State.isArrayOf_alike hZ.alike Ar1.2.1) (g := (mkF m 1 #[.val (.ref sr), .unset, .unset] [(.ref sr)])) rfl rfl (hb hby d17_1) _ ?_
    rw [len_of S1 M1]
    exact k_
  obtain ⟨T2, h2, k2, X2, e2, E2, A2, V2, st2⟩ := newR X0 hx hZ hown (own_w hw 94 rfl) (own_w hw 95 rfl) e0 (g := (mkF m 2 #[.val (.ref sr), .unset, .unset] [(.int (3 : Int32))])) rfl (hb hby d17_2) rfl (by decide) (cap := 3) (by decide) (by decide) (by decide) (by decide)
  obtain ⟨b2, g2⟩ : ∃ z, z = h0.size := ⟨_, rfl⟩
  rw [← g2] at A2 st2
  refine own_go st2 ?_
  have K2 : Keep h0 h2 [] := (Keep.refl h0 []).ext E2
  have B2 : Arv Z h2 b2 k2 (.object "java/lang/Object") (3 : Int32) [.null, .null, .null] .null := (Arv.new A2 (by decide)).pad (pad_rep [] .null 3)
  obtain ⟨cl3, Ar3, q3, S3, M3, H3, G3⟩ := id (u0.ext E2)
  obtain ⟨cl4, Ar4, q4, S4, M4, H4, G4⟩ := id (u0.ext E2)
  have hin4 : ¬ ((0 : Int32) < 0 ∨ cl4.slots.size ≤ ((0 : Int32)).toNatClampNeg) := inb_of S4 ⟨by decide, by decide⟩
  have hat4 : cl4.slots[((0 : Int32)).toNatClampNeg]? = some (.ref gg0) := Has.at H4 hin4 rfl
  refine own_go (A := T2.setTop (mkF m 19 #[.val (.ref sr), .val (.ref b2), .val (.int (0 : Int32))] [(.ref gg0), (.int (0 : Int32)), (.ref b2)])) (fun t_ k_ => ?_) ?_
  · show Steps p.tables e below (T2.setTop (mkF m 5 #[.val (.ref sr), .unset, .unset] [(.ref b2)])) t_
    refine XS.astoreN X2.here hx rfl (hb hby d17_5) rfl rfl (l' := #[.val (.ref sr), .val (.ref b2), .unset]) rfl ?_
    show Steps p.tables e below (T2.setTop (mkF m 6 #[.val (.ref sr), .val (.ref b2), .unset] [])) t_
    refine XS.iconst X2.here hx rfl (hb hby d17_6) ?_
    show Steps p.tables e below (T2.setTop (mkF m 7 #[.val (.ref sr), .val (.ref b2), .unset] [(.int (0 : Int32))])) t_
    refine XS.istoreN X2.here hx rfl (hb hby d17_7) rfl (l' := #[.val (.ref sr), .val (.ref b2), .val (.int (0 : Int32))]) rfl ?_
    show Steps p.tables e below (T2.setTop (mkF m 8 #[.val (.ref sr), .val (.ref b2), .val (.int (0 : Int32))] [])) t_
    refine XS.iloadN X2.here hx rfl (hb hby d17_8) rfl ?_
    show Steps p.tables e below (T2.setTop (mkF m 9 #[.val (.ref sr), .val (.ref b2), .val (.int (0 : Int32))] [(.int (0 : Int32))])) t_
    refine XS.aloadN X2.here hx rfl (hb hby d17_9) rfl rfl ?_
    show Steps p.tables e below (T2.setTop (mkF m 10 #[.val (.ref sr), .val (.ref b2), .val (.int (0 : Int32))] [(.ref sr), (.int (0 : Int32))])) t_
    refine X2.arraylength hx (by rw [e2]; exact Ar3.1) (State.isArrayOf_alike hZ.alike Ar3.2.1) (g := (mkF m 10 #[.val (.ref sr), .val (.ref b2), .val (.int (0 : Int32))] [(.ref sr), (.int (0 : Int32))])) rfl rfl (hb hby d17_10) _ ?_
    rw [len_of S3 M3]
    show Steps p.tables e below (T2.setTop (mkF m 11 #[.val (.ref sr), .val (.ref b2), .val (.int (0 : Int32))] [(.int (3 : Int32)), (.int (0 : Int32))])) t_
    refine XS.icmpNo X2.here hx rfl (hb hby d17_11) rfl (tlt (by decide : (0 : Int32) < (3 : Int32))).2.1 ?_
    show Steps p.tables e below (T2.setTop (mkF m 14 #[.val (.ref sr), .val (.ref b2), .val (.int (0 : Int32))] [])) t_
    refine XS.aloadN X2.here hx rfl (hb hby d17_14) rfl rfl ?_
    show Steps p.tables e below (T2.setTop (mkF m 15 #[.val (.ref sr), .val (.ref b2), .val (.int (0 : Int32))] [(.ref b2)])) t_
    refine XS.iloadN X2.here hx rfl (hb hby d17_15) rfl ?_
    show Steps p.tables e below (T2.setTop (mkF m 16 #[.val (.ref sr), .val (.ref b2), .val (.int (0 : Int32))] [(.int (0 : Int32)), (.ref b2)])) t_
    refine XS.aloadN X2.here hx rfl (hb hby d17_16) rfl rfl ?_
    show Steps p.tables e below (T2.setTop (mkF m 17 #[.val (.ref sr), .val (.ref b2), .val (.int (0 : Int32))] [(.ref sr), (.int (0 : Int32)), (.ref b2)])) t_
    refine XS.iloadN X2.here hx rfl (hb hby d17_17) rfl ?_
    show Steps p.tables e below (T2.setTop (mkF m 18 #[.val (.ref sr), .val (.ref b2), .val (.int (0 : Int32))] [(.int (0 : Int32)), (.ref sr), (.int (0 : Int32)), (.ref b2)])) t_
    refine X2.aaload hx (j := (0 : Int32)) (v := (.ref gg0)) (by rw [e2]; exact Ar4.1) (State.isArrayOf_alike hZ.alike Ar4.2.1) rfl Ar4.2.2 hin4 hat4 (g := (mkF m 18 #[.val (.ref sr), .val (.ref b2), .val (.int (0 : Int32))] [(.int (0 : Int32)), (.ref sr), (.int (0 : Int32)), (.ref b2)])) rfl rfl (hb hby d17_18) _ ?_
    exact k_
  obtain ⟨_, _, ⟨T5, L5, k5, n5⟩, -, X5, ⟨Lc5, hQ5, l5, y5, z5⟩, st5⟩ := Jvm.LawKit.callS X2 hx (y := own_y13) hown (mvT hZ (own_w hw 96 rfl)) (mvT hZ (own_w hw 97 rfl)) (mvT hZ (own_w hw 98 rfl)) (mvT hZ (own_w hw 99 rfl)) (by decide) (backOf (W := 2) (rmRnn l Z a0 hw [] gg0 h2 n0 (Nat.le_trans Z0 K2.1)) hZ (own_w hw 99 rfl) (own_w hw 98 rfl) (by decide) (by decide)) (g := (mkF m 19 #[.val (.ref sr), .val (.ref b2), .val (.int (0 : Int32))] [(.ref gg0), (.int (0 : Int32)), (.ref b2)])) rfl (by rw [hml]; rfl) (argsL := [(.ref gg0)]) (rest := [(.int (0 : Int32)), (.ref b2)]) (lenOf pd_10 rfl) rfl (by show 2 * 0 + _ ≤ _; exact Nat.le_of_eq rfl) (hb hby d17_19) (fun _ _ => ⟨rfl, e2, (by decide : 1 + 0 ≤ _), (by decide : 3 + 0 ≤ _)⟩)
  dsimp only [Pt.U, Pt.locs, Pt.cells, Pt.slots] at X5 l5 y5 z5 st5 hQ5
  subst l5 y5 z5
  obtain ⟨rfl, N5q, eh5⟩ := hQ5
  have N5 := Fr.app N0 N5q
  refine own_go st5 ?_
  obtain ⟨cl6, Ar6, q6, S6, M6, H6, G6⟩ := id B2
  have hin6 : ¬ ((0 : Int32) < 0 ∨ cl6.slots.size ≤ ((0 : Int32)).toNatClampNeg) := inb_of S6 ⟨by decide, by decide⟩
  obtain ⟨T7, h7, X7, e7, W7, st7⟩ := stR X5 hx hZ eh5 Ar6 (j := (0 : Int32)) hin6 rfl (Sto.ofV Ar6 q6 V2 (Ins.of_exa (u1.ext E2) (own_w hw 100 rfl))) (g := (mkF m 22 #[.val (.ref sr), .val (.ref b2), .val (.int (0 : Int32))] [(.ref gg0), (.int (0 : Int32)), (.ref b2)])) rfl rfl (hb hby d17_22)
  have B7 : Arv Z h7 b2 k2 (.object "java/lang/Object") (3 : Int32) [(.ref gg0), .null, .null] .null := Arv.set Ar6 q6 S6 M6 H6 G6 rfl W7 0 rfl (Nat.le_of_ble_eq_true rfl)
  refine own_go st7 ?_
  have K7 : Keep h0 h7 [] := K2.wr W7 (Or.inr (Nat.le_of_eq g2.symm))
  have N7 := Fr.snoc X7 N5 (Nat.le_trans Z0 (Nat.le_of_eq g2.symm))
  obtain ⟨cl8, Ar8, q8, S8, M8, H8, G8⟩ := id ((u0.ext E2).other W7 (Nat.ne_of_lt (Nat.lt_of_lt_of_le u0.lt (Nat.le_of_eq g2.symm))))
  obtain ⟨cl9, Ar9, q9, S9, M9, H9, G9⟩ := id ((u0.ext E2).other W7 (Nat.ne_of_lt (Nat.lt_of_lt_of_le u0.lt (Nat.le_of_eq g2.symm))))
  have hin9 : ¬ ((1 : Int32) < 0 ∨ cl9.slots.size ≤ ((1 : Int32)).toNatClampNeg) := inb_of S9 ⟨by decide, by decide⟩
  have hat9 : cl9.slots[((1 : Int32)).toNatClampNeg]? = some (.ref gg1) := Has.at H9 hin9 rfl
  refine own_go (A := T7.setTop (mkF m 19 #[.val (.ref sr), .val (.ref b2), .val (.int (1 : Int32))] [(.ref gg1), (.int (1 : Int32)), (.ref b2)])) (fun t_ k_ => ?_) ?_
  · show Steps p.tables e below (T7.setTop (mkF m 23 #[.val (.ref sr), .val (.ref b2), .val (.int (0 : Int32))] [])) t_
    refine XS.iinc X7.here hx rfl (hb hby d17_23) rfl (l' := #[.val (.ref sr), .val (.ref b2), .val (.int (1 : Int32))]) rfl ?_
    show Steps p.tables e below (T7.setTop (mkF m 26 #[.val (.ref sr), .val (.ref b2), .val (.int (1 : Int32))] [])) t_
    refine XS.goto X7.here hx rfl (pc0 := 26) (pc' := 8) rfl (hb hby d17_26) (by decide) (by decide) ?_
    show Steps p.tables e below (T7.setTop (mkF m 8 #[.val (.ref sr), .val (.ref b2), .val (.int (1 : Int32))] [])) t_
    refine XS.iloadN X7.here hx rfl (hb hby d17_8) rfl ?_
    show Steps p.tables e below (T7.setTop (mkF m 9 #[.val (.ref sr), .val (.ref b2), .val (.int (1 : Int32))] [(.int (1 : Int32))])) t_
    refine XS.aloadN X7.here hx rfl (hb hby d17_9) rfl rfl ?_
    show Steps p.tables e below (T7.setTop (mkF m 10 #[.val (.ref sr), .val (.ref b2), .val (.int (1 : Int32))] [(.ref sr), (.int (1 : Int32))])) t_
    refine X7.arraylength hx (by rw [e7]; exact Ar8.1) (State.isArrayOf_alike hZ.alike Ar8.2.1) (g := (mkF m 10 #[.val (.ref sr), .val (.ref b2), .val (.int (1 : Int32))] [(.ref sr), (.int (1 : Int32))])) rfl rfl (hb hby d17_10) _ ?_
    rw [len_of S8 M8]
    show Steps p.tables e below (T7.setTop (mkF m 11 #[.val (.ref sr), .val (.ref b2), .val (.int (1 : Int32))] [(.int (3 : Int32)), (.int (1 : Int32))])) t_
    refine XS.icmpNo X7.here hx rfl (hb hby d17_11) rfl (tlt (by decide : (1 : Int32) < (3 : Int32))).2.1 ?_
    show Steps p.tables e below (T7.setTop (mkF m 14 #[.val (.ref sr), .val (.ref b2), .val (.int (1 : Int32))] [])) t_
    refine XS.aloadN X7.here hx rfl (hb hby d17_14) rfl rfl ?_
    show Steps p.tables e below (T7.setTop (mkF m 15 #[.val (.ref sr), .val (.ref b2), .val (.int (1 : Int32))] [(.ref b2)])) t_
    refine XS.iloadN X7.here hx rfl (hb hby d17_15) rfl ?_
    show Steps p.tables e below (T7.setTop (mkF m 16 #[.val (.ref sr), .val (.ref b2), .val (.int (1 : Int32))] [(.int (1 : Int32)), (.ref b2)])) t_
    refine XS.aloadN X7.here hx rfl (hb hby d17_16) rfl rfl ?_
    show Steps p.tables e below (T7.setTop (mkF m 17 #[.val (.ref sr), .val (.ref b2), .val (.int (1 : Int32))] [(.ref sr), (.int (1 : Int32)), (.ref b2)])) t_
    refine XS.iloadN X7.here hx rfl (hb hby d17_17) rfl ?_
    show Steps p.tables e below (T7.setTop (mkF m 18 #[.val (.ref sr), .val (.ref b2), .val (.int (1 : Int32))] [(.int (1 : Int32)), (.ref sr), (.int (1 : Int32)), (.ref b2)])) t_
    refine X7.aaload hx (j := (1 : Int32)) (v := (.ref gg1)) (by rw [e7]; exact Ar9.1) (State.isArrayOf_alike hZ.alike Ar9.2.1) rfl Ar9.2.2 hin9 hat9 (g := (mkF m 18 #[.val (.ref sr), .val (.ref b2), .val (.int (1 : Int32))] [(.int (1 : Int32)), (.ref sr), (.int (1 : Int32)), (.ref b2)])) rfl rfl (hb hby d17_18) _ ?_
    exact k_
  obtain ⟨_, _, ⟨T10, L10, k10, n10⟩, -, X10, ⟨Lc10, hQ10, l10, y10, z10⟩, st10⟩ := Jvm.LawKit.callS X7 hx (y := own_y13) hown (mvT hZ (own_w hw 96 rfl)) (mvT hZ (own_w hw 97 rfl)) (mvT hZ (own_w hw 98 rfl)) (mvT hZ (own_w hw 99 rfl)) (by decide) (backOf (W := 2) (rmRnn l Z a0 hw [] gg1 h7 n0 (Nat.le_trans Z0 K7.1)) hZ (own_w hw 99 rfl) (own_w hw 98 rfl) (by decide) (by decide)) (g := (mkF m 19 #[.val (.ref sr), .val (.ref b2), .val (.int (1 : Int32))] [(.ref gg1), (.int (1 : Int32)), (.ref b2)])) rfl (by rw [hml]; rfl) (argsL := [(.ref gg1)]) (rest := [(.int (1 : Int32)), (.ref b2)]) (lenOf pd_10 rfl) rfl (by show 2 * 0 + _ ≤ _; exact Nat.le_of_eq rfl) (hb hby d17_19) (fun _ _ => ⟨rfl, e7, (by decide : 1 + 0 ≤ _), (by decide : 3 + 0 ≤ _)⟩)
  dsimp only [Pt.U, Pt.locs, Pt.cells, Pt.slots] at X10 l10 y10 z10 st10 hQ10
  subst l10 y10 z10
  obtain ⟨rfl, N10q, eh10⟩ := hQ10
  have N10 := Fr.app N7 N10q
  refine own_go st10 ?_
  obtain ⟨cl11, Ar11, q11, S11, M11, H11, G11⟩ := id B7
  have hin11 : ¬ ((1 : Int32) < 0 ∨ cl11.slots.size ≤ ((1 : Int32)).toNatClampNeg) := inb_of S11 ⟨by decide, by decide⟩
  obtain ⟨T12, h12, X12, e12, W12, st12⟩ := stR X10 hx hZ eh10 Ar11 (j := (1 : Int32)) hin11 rfl (Sto.ofV Ar11 q11 V2 (Ins.of_exa ((u2.ext E2).wr W7) (own_w hw 100 rfl))) (g := (mkF m 22 #[.val (.ref sr), .val (.ref b2), .val (.int (1 : Int32))] [(.ref gg1), (.int (1 : Int32)), (.ref b2)])) rfl rfl (hb hby d17_22)
  have B12 : Arv Z h12 b2 k2 (.object "java/lang/Object") (3 : Int32) [(.ref gg0), (.ref gg1), .null] .null := Arv.set Ar11 q11 S11 M11 H11 G11 rfl W12 1 rfl (Nat.le_of_ble_eq_true rfl)
  refine own_go st12 ?_
  have K12 : Keep h0 h12 [] := K7.wr W12 (Or.inr (Nat.le_of_eq g2.symm))
  have N12 := Fr.snoc X12 N10 (Nat.le_trans Z0 (Nat.le_of_eq g2.symm))
  obtain ⟨cl13, Ar13, q13, S13, M13, H13, G13⟩ := id (((u0.ext E2).other W7 (Nat.ne_of_lt (Nat.lt_of_lt_of_le u0.lt (Nat.le_of_eq g2.symm)))).other W12 (Nat.ne_of_lt (Nat.lt_of_lt_of_le u0.lt (Nat.le_of_eq g2.symm))))
  obtain ⟨cl14, Ar14, q14, S14, M14, H14, G14⟩ := id (((u0.ext E2).other W7 (Nat.ne_of_lt (Nat.lt_of_lt_of_le u0.lt (Nat.le_of_eq g2.symm)))).other W12 (Nat.ne_of_lt (Nat.lt_of_lt_of_le u0.lt (Nat.le_of_eq g2.symm))))
  have hin14 : ¬ ((2 : Int32) < 0 ∨ cl14.slots.size ≤ ((2 : Int32)).toNatClampNeg) := inb_of S14 ⟨by decide, by decide⟩
  have hat14 : cl14.slots[((2 : Int32)).toNatClampNeg]? = some (.ref gg2) := Has.at H14 hin14 rfl
  refine own_go (A := T12.setTop (mkF m 19 #[.val (.ref sr), .val (.ref b2), .val (.int (2 : Int32))] [(.ref gg2), (.int (2 : Int32)), (.ref b2)])) (fun t_ k_ => ?_) ?_
  · show Steps p.tables e below (T12.setTop (mkF m 23 #[.val (.ref sr), .val (.ref b2), .val (.int (1 : Int32))] [])) t_
    refine XS.iinc X12.here hx rfl (hb hby d17_23) rfl (l' := #[.val (.ref sr), .val (.ref b2), .val (.int (2 : Int32))]) rfl ?_
    show Steps p.tables e below (T12.setTop (mkF m 26 #[.val (.ref sr), .val (.ref b2), .val (.int (2 : Int32))] [])) t_
    refine XS.goto X12.here hx rfl (pc0 := 26) (pc' := 8) rfl (hb hby d17_26) (by decide) (by decide) ?_
    show Steps p.tables e below (T12.setTop (mkF m 8 #[.val (.ref sr), .val (.ref b2), .val (.int (2 : Int32))] [])) t_
    refine XS.iloadN X12.here hx rfl (hb hby d17_8) rfl ?_
    show Steps p.tables e below (T12.setTop (mkF m 9 #[.val (.ref sr), .val (.ref b2), .val (.int (2 : Int32))] [(.int (2 : Int32))])) t_
    refine XS.aloadN X12.here hx rfl (hb hby d17_9) rfl rfl ?_
    show Steps p.tables e below (T12.setTop (mkF m 10 #[.val (.ref sr), .val (.ref b2), .val (.int (2 : Int32))] [(.ref sr), (.int (2 : Int32))])) t_
    refine X12.arraylength hx (by rw [e12]; exact Ar13.1) (State.isArrayOf_alike hZ.alike Ar13.2.1) (g := (mkF m 10 #[.val (.ref sr), .val (.ref b2), .val (.int (2 : Int32))] [(.ref sr), (.int (2 : Int32))])) rfl rfl (hb hby d17_10) _ ?_
    rw [len_of S13 M13]
    show Steps p.tables e below (T12.setTop (mkF m 11 #[.val (.ref sr), .val (.ref b2), .val (.int (2 : Int32))] [(.int (3 : Int32)), (.int (2 : Int32))])) t_
    refine XS.icmpNo X12.here hx rfl (hb hby d17_11) rfl (tlt (by decide : (2 : Int32) < (3 : Int32))).2.1 ?_
    show Steps p.tables e below (T12.setTop (mkF m 14 #[.val (.ref sr), .val (.ref b2), .val (.int (2 : Int32))] [])) t_
    refine XS.aloadN X12.here hx rfl (hb hby d17_14) rfl rfl ?_
    show Steps p.tables e below (T12.setTop (mkF m 15 #[.val (.ref sr), .val (.ref b2), .val (.int (2 : Int32))] [(.ref b2)])) t_
    refine XS.iloadN X12.here hx rfl (hb hby d17_15) rfl ?_
    show Steps p.tables e below (T12.setTop (mkF m 16 #[.val (.ref sr), .val (.ref b2), .val (.int (2 : Int32))] [(.int (2 : Int32)), (.ref b2)])) t_
    refine XS.aloadN X12.here hx rfl (hb hby d17_16) rfl rfl ?_
    show Steps p.tables e below (T12.setTop (mkF m 17 #[.val (.ref sr), .val (.ref b2), .val (.int (2 : Int32))] [(.ref sr), (.int (2 : Int32)), (.ref b2)])) t_
    refine XS.iloadN X12.here hx rfl (hb hby d17_17) rfl ?_
    show Steps p.tables e below (T12.setTop (mkF m 18 #[.val (.ref sr), .val (.ref b2), .val (.int (2 : Int32))] [(.int (2 : Int32)), (.ref sr), (.int (2 : Int32)), (.ref b2)])) t_
    refine X12.aaload hx (j := (2 : Int32)) (v := (.ref gg2)) (by rw [e12]; exact Ar14.1) (State.isArrayOf_alike hZ.alike Ar14.2.1) rfl Ar14.2.2 hin14 hat14 (g := (mkF m 18 #[.val (.ref sr), .val (.ref b2), .val (.int (2 : Int32))] [(.int (2 : Int32)), (.ref sr), (.int (2 : Int32)), (.ref b2)])) rfl rfl (hb hby d17_18) _ ?_
    exact k_
  obtain ⟨_, _, ⟨T15, L15, k15, n15⟩, -, X15, ⟨Lc15, hQ15, l15, y15, z15⟩, st15⟩ := Jvm.LawKit.callS X12 hx (y := own_y13) hown (mvT hZ (own_w hw 96 rfl)) (mvT hZ (own_w hw 97 rfl)) (mvT hZ (own_w hw 98 rfl)) (mvT hZ (own_w hw 99 rfl)) (by decide) (backOf (W := 2) (rmRnn l Z a0 hw [] gg2 h12 n0 (Nat.le_trans Z0 K12.1)) hZ (own_w hw 99 rfl) (own_w hw 98 rfl) (by decide) (by decide)) (g := (mkF m 19 #[.val (.ref sr), .val (.ref b2), .val (.int (2 : Int32))] [(.ref gg2), (.int (2 : Int32)), (.ref b2)])) rfl (by rw [hml]; rfl) (argsL := [(.ref gg2)]) (rest := [(.int (2 : Int32)), (.ref b2)]) (lenOf pd_10 rfl) rfl (by show 2 * 0 + _ ≤ _; exact Nat.le_of_eq rfl) (hb hby d17_19) (fun _ _ => ⟨rfl, e12, (by decide : 1 + 0 ≤ _), (by decide : 3 + 0 ≤ _)⟩)
  dsimp only [Pt.U, Pt.locs, Pt.cells, Pt.slots] at X15 l15 y15 z15 st15 hQ15
  subst l15 y15 z15
  obtain ⟨rfl, N15q, eh15⟩ := hQ15
  have N15 := Fr.app N12 N15q
  refine own_go st15 ?_
  obtain ⟨cl16, Ar16, q16, S16, M16, H16, G16⟩ := id B12
  have hin16 : ¬ ((2 : Int32) < 0 ∨ cl16.slots.size ≤ ((2 : Int32)).toNatClampNeg) := inb_of S16 ⟨by decide, by decide⟩
  obtain ⟨T17, h17, X17, e17, W17, st17⟩ := stR X15 hx hZ eh15 Ar16 (j := (2 : Int32)) hin16 rfl (Sto.ofV Ar16 q16 V2 (Ins.of_exa (((u3.ext E2).wr W7).wr W12) (own_w hw 100 rfl))) (g := (mkF m 22 #[.val (.ref sr), .val (.ref b2), .val (.int (2 : Int32))] [(.ref gg2), (.int (2 : Int32)), (.ref b2)])) rfl rfl (hb hby d17_22)
  have B17 : Arv Z h17 b2 k2 (.object "java/lang/Object") (3 : Int32) [(.ref gg0), (.ref gg1), (.ref gg2)] .null := Arv.set Ar16 q16 S16 M16 H16 G16 rfl W17 2 rfl (Nat.le_of_ble_eq_true rfl)
  refine own_go st17 ?_
  have K17 : Keep h0 h17 [] := K12.wr W17 (Or.inr (Nat.le_of_eq g2.symm))
  have N17 := Fr.snoc X17 N15 (Nat.le_trans Z0 (Nat.le_of_eq g2.symm))
  obtain ⟨cl18, Ar18, q18, S18, M18, H18, G18⟩ := id ((((u0.ext E2).other W7 (Nat.ne_of_lt (Nat.lt_of_lt_of_le u0.lt (Nat.le_of_eq g2.symm)))).other W12 (Nat.ne_of_lt (Nat.lt_of_lt_of_le u0.lt (Nat.le_of_eq g2.symm)))).other W17 (Nat.ne_of_lt (Nat.lt_of_lt_of_le u0.lt (Nat.le_of_eq g2.symm))))
  refine own_go (A := T17.setTop (mkF m 29 #[.val (.ref sr), .val (.ref b2), .val (.int (3 : Int32))] [])) (fun t_ k_ => ?_) ?_
  · show Steps p.tables e below (T17.setTop (mkF m 23 #[.val (.ref sr), .val (.ref b2), .val (.int (2 : Int32))] [])) t_
    refine XS.iinc X17.here hx rfl (hb hby d17_23) rfl (l' := #[.val (.ref sr), .val (.ref b2), .val (.int (3 : Int32))]) rfl ?_
    show Steps p.tables e below (T17.setTop (mkF m 26 #[.val (.ref sr), .val (.ref b2), .val (.int (3 : Int32))] [])) t_
    refine XS.goto X17.here hx rfl (pc0 := 26) (pc' := 8) rfl (hb hby d17_26) (by decide) (by decide) ?_
    show Steps p.tables e below (T17.setTop (mkF m 8 #[.val (.ref sr), .val (.ref b2), .val (.int (3 : Int32))] [])) t_
    refine XS.iloadN X17.here hx rfl (hb hby d17_8) rfl ?_
    show Steps p.tables e below (T17.setTop (mkF m 9 #[.val (.ref sr), .val (.ref b2), .val (.int (3 : Int32))] [(.int (3 : Int32))])) t_
    refine XS.aloadN X17.here hx rfl (hb hby d17_9) rfl rfl ?_
    show Steps p.tables e below (T17.setTop (mkF m 10 #[.val (.ref sr), .val (.ref b2), .val (.int (3 : Int32))] [(.ref sr), (.int (3 : Int32))])) t_
    refine X17.arraylength hx (by rw [e17]; exact Ar18.1) (State.isArrayOf_alike hZ.alike Ar18.2.1) (g := (mkF m 10 #[.val (.ref sr), .val (.ref b2), .val (.int (3 : Int32))] [(.ref sr), (.int (3 : Int32))])) rfl rfl (hb hby d17_10) _ ?_
    rw [len_of S18 M18]
    show Steps p.tables e below (T17.setTop (mkF m 11 #[.val (.ref sr), .val (.ref b2), .val (.int (3 : Int32))] [(.int (3 : Int32)), (.int (3 : Int32))])) t_
    refine XS.icmpYes X17.here hx rfl (pc0 := 11) (pc' := 29) rfl (hb hby d17_11) rfl (flt (by decide : ¬ ((3 : Int32) < (3 : Int32)))).2.1 (by decide) (by decide) ?_
    exact k_
  obtain ⟨T19, h19, X19, e19, E19, A19, D19, -, st19⟩ := newO X17 hx hZ hown (own_w hw 101 rfl) (own_w hw 102 rfl) (own_w hw 66 rfl) e17 (g := (mkF m 29 #[.val (.ref sr), .val (.ref b2), .val (.int (3 : Int32))] [])) rfl (hb hby d17_29) (by decide) (by decide)
  obtain ⟨b19, g19⟩ : ∃ z, z = h17.size := ⟨_, rfl⟩
  rw [← g19] at A19 D19 st19
  refine own_go st19 ?_
  have K19 : Keep h0 h19 [] := K17.ext E19
  have F19_elements : Fld Z h19 b19 "java/util/ImmutableCollections$ListN" "elements" "[Ljava/lang/Object;" .null := D19 (Or.inr (own_w hw 69 rfl)) (ty := (.array (.object "java/lang/Object"))) (by decide)
  have F19_allowNulls : Fld Z h19 b19 "java/util/ImmutableCollections$ListN" "allowNulls" "Z" (.int (0 : Int32)) := D19 (Or.inr (own_w hw 127 rfl)) (ty := .boolean) (by decide)
  refine own_go (A := T19.setTop (mkF m 35 #[.val (.ref sr), .val (.ref b2), .val (.int (3 : Int32))] [(.int (0 : Int32)), (.ref b2), (.ref b19), (.ref b19)])) (fun t_ k_ => ?_) ?_
  · show Steps p.tables e below (T19.setTop (mkF m 32 #[.val (.ref sr), .val (.ref b2), .val (.int (3 : Int32))] [(.ref b19)])) t_
    refine XS.dup X19.here hx rfl (hb hby d17_32) rfl rfl ?_
    show Steps p.tables e below (T19.setTop (mkF m 33 #[.val (.ref sr), .val (.ref b2), .val (.int (3 : Int32))] [(.ref b19), (.ref b19)])) t_
    refine XS.aloadN X19.here hx rfl (hb hby d17_33) rfl rfl ?_
    show Steps p.tables e below (T19.setTop (mkF m 34 #[.val (.ref sr), .val (.ref b2), .val (.int (3 : Int32))] [(.ref b2), (.ref b19), (.ref b19)])) t_
    refine XS.iconst X19.here hx rfl (hb hby d17_34) ?_
    exact k_
  obtain ⟨_, _, ⟨T20, L20, k20, n20⟩, -, X20, ⟨Lc20, hQ20, l20, y20, z20⟩, st20⟩ := X19.specialBackNest hx (y := own_y16) rfl hown (own_mvMN hZ (own_w hw 103 rfl)) (mvT hZ (own_w hw 104 rfl)) (mvT hZ (own_w hw 106 rfl)) (by decide) (backOf (W := 1) (rmLN l Z a0 hw [] b19 b2 h19 n0 (Nat.le_trans Z0 K19.1) A19 F19_elements F19_allowNulls (Nat.le_trans Z0 (Nat.le_trans K17.1 (Nat.le_of_eq g19.symm)))) hZ (own_w hw 106 rfl) (own_w hw 66 rfl) (by decide) (by decide)) (g := (mkF m 35 #[.val (.ref sr), .val (.ref b2), .val (.int (3 : Int32))] [(.int (0 : Int32)), (.ref b2), (.ref b19), (.ref b19)])) rfl (by rw [hml]; rfl) (Steps.refl _) (a := b19) (argsL := [(.ref b2), (.int (0 : Int32))]) (rest := [(.ref b19)]) (lenOf pd_11 rfl) rfl (by show 2 * 0 + _ ≤ _; exact Nat.le_of_eq rfl) (hb hby d17_35) (fun _ _ => ⟨rfl, e19, (by decide : 2 + 0 ≤ _), (by decide : 5 + 0 ≤ _)⟩)
  dsimp only [Pt.U, Pt.locs, Pt.cells, Pt.slots] at X20 l20 y20 z20 st20 hQ20
  subst l20 y20 z20
  obtain ⟨rfl, N20q, Kc20, r20_0⟩ := hQ20
  have N20 := Fr.app N17 N20q
  refine own_via st20 ?_
  have K20 : Keep h0 T20.heap [] := K19.trans Kc20 (allS (P := fun x => x ∈ _ ∨ _ ≤ x) (Or.inr (Nat.le_trans K17.1 (Nat.le_of_eq g19.symm))) all0)
  obtain ⟨fs21, hr21, hrun21, hended21, hW21, hsame21⟩ := X20.leave (v := some (.ref b19)) (fun h => by rw [Bd.returns] at h; cases h)
  refine ⟨_, _, ?_, hrun21, hended21, _, _, rfl, ?_, ⟨_, rfl⟩, hW21, hsame21.mono (by decide) (by decide)⟩
  · exact own_retA X20 hx Bd.returns rfl rfl rfl (hb hby d17_38) hr21
  · show Q_rmLfa Z sr ks gg0 gg1 gg2 h0 n0 _ T20.heap _
    exact ⟨b19, b2, k2, rfl, N20, K20, (Nat.le_trans K17.1 (Nat.le_of_eq g19.symm)), (A19.keep Kc20), (Nat.le_of_eq g2.symm), r20_0, ((B17.ext E19).keep Kc20 (ninS (Nat.ne_of_lt (Nat.lt_of_lt_of_le (Nat.lt_of_lt_of_le (Nat.lt_of_lt_of_le (Nat.lt_of_lt_of_le B2.lt (Keep.of_wr W7).1) (Keep.of_wr W12).1) (Keep.of_wr W17).1) (Nat.le_of_eq g19.symm))) nin0))⟩
theorem d16_0 : decode jdk_40_method_47_code 0 = .ok (.aload_n 0, 1) := by decide +kernel
theorem d16_1 : decode jdk_40_method_47_code 1 = .ok (.arraylength, 1) := by decide +kernel
theorem d16_2 : decode jdk_40_method_47_code 2 = .ok (.tableswitch 57 0 2 #[26, 32, 43], 26) := by decide +kernel
theorem d16_34 : decode jdk_40_method_47_code 34 = .ok (.new 96, 3) := by decide +kernel
theorem d16_37 : decode jdk_40_method_47_code 37 = .ok (.dup, 1) := by decide +kernel
theorem d16_38 : decode jdk_40_method_47_code 38 = .ok (.aload_n 0, 1) := by decide +kernel
theorem d16_39 : decode jdk_40_method_47_code 39 = .ok (.iconst 0, 1) := by decide +kernel
theorem d16_40 : decode jdk_40_method_47_code 40 = .ok (.aaload, 1) := by decide +kernel
theorem pd_12 : parseMethodDescriptor "(Ljava/lang/Object;)V" = some ⟨[(.object "java/lang/Object")], none⟩ := by decide +kernel
theorem d16_41 : decode jdk_40_method_47_code 41 = .ok (.invokespecial 98, 3) := by decide +kernel
theorem d16_44 : decode jdk_40_method_47_code 44 = .ok (.areturn, 1) := by decide +kernel
abbrev own_y18 : MethodName := ⟨"java/util/List", "of", "([Ljava/lang/Object;)Ljava/util/List;"⟩
theorem ef_rmOf1 (m : MethodId) (sr : Addr) : entryFrame m #[(.ref sr)] 2 = mkF m 0 #[.val (.ref sr), .unset] [] := by first | (simp [entryFrame, mkF, argsToLocals, Value.category]; done) | rfl
def Q_rmOf1 (Z : State) (sr : Addr) (ks : ClassId) (gg0 : Addr) (em : Addr) (h0 : Heap) (n0 : Nat) (v_ : Option Value) (h_ : Heap) (L_ : List Loc) : Prop := ∃ li : Addr, v_ = some (.ref li) ∧ Fr n0 L_ ∧ Keep h0 h_ [] ∧ h0.size ≤ li ∧ Exa Z h_ li "java/util/ImmutableCollections$List12" ∧ Fld Z h_ li "java/util/ImmutableCollections$List12" "e0" "Ljava/lang/Object;" (.ref gg0) ∧ Fld Z h_ li "java/util/ImmutableCollections$List12" "e1" "Ljava/lang/Object;" (.ref em)
theorem pn_11 : plainName "java/util/List" = true := by first | (simp [plainName, overriddenIn]; done) | decide +kernel
set_option maxRecDepth 65536 in
set_option maxHeartbeats 40000000 in
theorem rmOf1 (l : Launch) (Z : State) (a0 : Array Value) (hw : ∀ d ∈ tables_1, d.before a0 Z = true) (ws : List Jvm.Cond) (sr : Addr) (ks : ClassId) (gg0 : Addr) (em : Addr) (h0 : Heap) (n0 : Nat) (Z0 : n0 ≤ h0.size) (O0 : Old Z n0 h0) (u1 : Sta Z Z.heap "java/util/ImmutableCollections" "EMPTY" "Ljava/lang/Object;" (.ref em)) (u2 : Arv Z h0 sr ks (.object "java/lang/String") (1 : Int32) [(.ref gg0)] .null) (u3 : Exa Z h0 gg0 "java/lang/String") :
    MetFree l own_y18 (head1 (Jvm.Cond.code own_y18 jdk_40_method_47_code 2 (some (.object "java/util/List")) :: ws) ({ frames := 5, cells := 1, slots := 2, locals := 62 } : Room)) (fun a_ U_ => a_ = #[(.ref sr)] ∧ Z.Warmed39 U_.vm ∧ U_.heap = h0) (fun _ _ _ _ _ => True) (fun _ U_ o_ U2_ => ∃ v_ L_, o_ = .returned v_ ∧ Q_rmOf1 Z sr ks gg0 em h0 n0 v_ U2_.heap L_ ∧ FrameEnd U_ o_ U2_ L_ ({ frames := 5, cells := 1, slots := 2, locals := 62 } : Room).cells ({ frames := 5, cells := 1, slots := 2, locals := 62 } : Room).slots) := by
  refine MetFree.of_bodySF (plainFor_of_name pn_11) hisR ?_
  intro p e s m args below meth c s₁ Bd hml0 hP hK
  obtain ⟨rfl, hZ, hh⟩ := hP
  have hx := Bd.exec
  have hby := Bd.bytes
  have hml : c.maxLocals = 2 := hml0
  have hown : s.vm.findClass "java/util/List" = some m.cls := findClass_of_methodNamed Bd.named
  have hnm := (name_of_methodNamed Bd.named Bd.method).1
  have X0 : Stand p l e ({ frames := 5, cells := 1, slots := 2, locals := 62 } : Room) s m #[(.ref sr)] below meth c s₁ [] 0 0 := Stand.of_body Bd
  have e0 : s₁.heap = h0 := by rw [← hh, Bd.state]; rfl
  have N0 := Fr.nil n0
  refine own_go (A := s₁.setTop (mkF m 0 #[.val (.ref sr), .unset] [])) (fun t_ k_ => castTop (ef_rmOf1 m sr) k_) ?_
  obtain ⟨cl1, Ar1, q1, S1, M1, H1, G1⟩ := id u2
  refine own_go (A := s₁.setTop (mkF m 34 #[.val (.ref sr), .unset] [])) (fun t_ k_ => ?_) ?_
  · show Steps p.tables e below (s₁.setTop (mkF m 0 #[.val (.ref sr), .unset] [])) t_
    refine XS.aloadN X0.here hx rfl (hb hby d16_0) rfl rfl ?_
    show Steps p.tables e below (s₁.setTop (mkF m 1 #[.val (.ref sr), .unset] [(.ref sr)])) t_
    refine X0.arraylength hx (by rw [e0]; exact Ar1.1) (State.isArrayOf_alike hZ.alike Ar1.2.1) (g := (mkF m 1 #[.val (.ref sr), .unset] [(.ref sr)])) rfl rfl (hb hby d16_1) _ ?_
    rw [len_of S1 M1]
    show Steps p.tables e below (s₁.setTop (mkF m 2 #[.val (.ref sr), .unset] [(.int (1 : Int32))])) t_
    refine XS.tswIn X0.here hx rfl (pc0 := 2) (pc' := 34) rfl (hb hby d16_2) rfl (by decide) (o := 32) (by decide) (by decide) (by decide) ?_
    exact k_
  obtain ⟨T2, h2, X2, e2, E2, A2, D2, -, st2⟩ := newO X0 hx hZ hown (own_w hw 145 rfl) (own_w hw 146 rfl) (own_w hw 147 rfl) e0 (g := (mkF m 34 #[.val (.ref sr), .unset] [])) rfl (hb hby d16_34) (by decide) (by decide)
  obtain ⟨b2, g2⟩ : ∃ z, z = h0.size := ⟨_, rfl⟩
  rw [← g2] at A2 D2 st2
  refine own_go st2 ?_
  have K2 : Keep h0 h2 [] := (Keep.refl h0 []).ext E2
  have O2 := O0.ext E2
  have F2_e0 : Fld Z h2 b2 "java/util/ImmutableCollections$List12" "e0" "Ljava/lang/Object;" .null := D2 (Or.inr (own_w hw 158 rfl)) (ty := (.object "java/lang/Object")) (by decide)
  have F2_e1 : Fld Z h2 b2 "java/util/ImmutableCollections$List12" "e1" "Ljava/lang/Object;" .null := D2 (Or.inr (own_w hw 160 rfl)) (ty := (.object "java/lang/Object")) (by decide)
  obtain ⟨cl3, Ar3, q3, S3, M3, H3, G3⟩ := id (u2.ext E2)
  have hin3 : ¬ ((0 : Int32) < 0 ∨ cl3.slots.size ≤ ((0 : Int32)).toNatClampNeg) := inb_of S3 ⟨by decide, by decide⟩
  have hat3 : cl3.slots[((0 : Int32)).toNatClampNeg]? = some (.ref gg0) := Has.at H3 hin3 rfl
  refine own_go (A := T2.setTop (mkF m 41 #[.val (.ref sr), .unset] [(.ref gg0), (.ref b2), (.ref b2)])) (fun t_ k_ => ?_) ?_
  · show Steps p.tables e below (T2.setTop (mkF m 37 #[.val (.ref sr), .unset] [(.ref b2)])) t_
    refine XS.dup X2.here hx rfl (hb hby d16_37) rfl rfl ?_
    show Steps p.tables e below (T2.setTop (mkF m 38 #[.val (.ref sr), .unset] [(.ref b2), (.ref b2)])) t_
    refine XS.aloadN X2.here hx rfl (hb hby d16_38) rfl rfl ?_
    show Steps p.tables e below (T2.setTop (mkF m 39 #[.val (.ref sr), .unset] [(.ref sr), (.ref b2), (.ref b2)])) t_
    refine XS.iconst X2.here hx rfl (hb hby d16_39) ?_
    show Steps p.tables e below (T2.setTop (mkF m 40 #[.val (.ref sr), .unset] [(.int (0 : Int32)), (.ref sr), (.ref b2), (.ref b2)])) t_
    refine X2.aaload hx (j := (0 : Int32)) (v := (.ref gg0)) (by rw [e2]; exact Ar3.1) (State.isArrayOf_alike hZ.alike Ar3.2.1) rfl Ar3.2.2 hin3 hat3 (g := (mkF m 40 #[.val (.ref sr), .unset] [(.int (0 : Int32)), (.ref sr), (.ref b2), (.ref b2)])) rfl rfl (hb hby d16_40) _ ?_
    exact k_
  obtain ⟨_, _, ⟨T4, L4, k4, n4⟩, -, X4, ⟨Lc4, hQ4, l4, y4, z4⟩, st4⟩ := X2.specialBack hx (y := own_y14) rfl hown (mvT hZ (own_w hw 173 rfl)) (mvT hZ (own_w hw 174 rfl)) (mvT hZ (own_w hw 175 rfl)) (by decide) (backOf (W := 1) (rmL1 l Z a0 hw [] b2 gg0 em h2 n0 (Nat.le_trans Z0 K2.1) O2 u1 A2 F2_e0 F2_e1 (Nat.le_trans Z0 (Nat.le_of_eq g2.symm))) hZ (own_w hw 175 rfl) (own_w hw 147 rfl) (by decide) (by decide)) (g := (mkF m 41 #[.val (.ref sr), .unset] [(.ref gg0), (.ref b2), (.ref b2)])) rfl (by rw [hml]; rfl) (Steps.refl _) (a := b2) (argsL := [(.ref gg0)]) (rest := [(.ref b2)]) (lenOf pd_12 rfl) rfl (by show 2 * 0 + _ ≤ _; exact Nat.le_of_eq rfl) (hb hby d16_41) (fun _ _ => ⟨rfl, e2, (by decide : 1 + 0 ≤ _), (by decide : 2 + 0 ≤ _)⟩)
  dsimp only [Pt.U, Pt.locs, Pt.cells, Pt.slots] at X4 l4 y4 z4 st4 hQ4
  subst l4 y4 z4
  obtain ⟨rfl, N4q, Kc4, r4_0, r4_1⟩ := hQ4
  have N4 := Fr.app N0 N4q
  refine own_via st4 ?_
  have K4 : Keep h0 T4.heap [] := K2.trans Kc4 (allS (P := fun x => x ∈ _ ∨ _ ≤ x) (Or.inr (Nat.le_of_eq g2.symm)) all0)
  have O4 := O2.keep Kc4 (allS (P := fun x => n0 ≤ x) (Nat.le_trans Z0 (Nat.le_of_eq g2.symm)) all0)
  obtain ⟨fs5, hr5, hrun5, hended5, hW5, hsame5⟩ := X4.leave (v := some (.ref b2)) (fun h => by rw [Bd.returns] at h; cases h)
  refine ⟨_, _, ?_, hrun5, hended5, _, _, rfl, ?_, ⟨_, rfl⟩, hW5, hsame5.mono (by decide) (by decide)⟩
  · exact own_retA X4 hx Bd.returns rfl rfl rfl (hb hby d16_44) hr5
  · show Q_rmOf1 Z sr ks gg0 em h0 n0 _ T4.heap _
    exact ⟨b2, rfl, N4, K4, (Nat.le_of_eq g2.symm), (A2.keep Kc4), r4_0, r4_1⟩
theorem d16_45 : decode jdk_40_method_47_code 45 = .ok (.new 96, 3) := by decide +kernel
theorem d16_48 : decode jdk_40_method_47_code 48 = .ok (.dup, 1) := by decide +kernel
theorem d16_49 : decode jdk_40_method_47_code 49 = .ok (.aload_n 0, 1) := by decide +kernel
theorem d16_50 : decode jdk_40_method_47_code 50 = .ok (.iconst 0, 1) := by decide +kernel
theorem d16_51 : decode jdk_40_method_47_code 51 = .ok (.aaload, 1) := by decide +kernel
theorem d16_52 : decode jdk_40_method_47_code 52 = .ok (.aload_n 0, 1) := by decide +kernel
theorem d16_53 : decode jdk_40_method_47_code 53 = .ok (.iconst 1, 1) := by decide +kernel
theorem d16_54 : decode jdk_40_method_47_code 54 = .ok (.aaload, 1) := by decide +kernel
theorem pd_13 : parseMethodDescriptor "(Ljava/lang/Object;Ljava/lang/Object;)V" = some ⟨[(.object "java/lang/Object"), (.object "java/lang/Object")], none⟩ := by decide +kernel
theorem d16_55 : decode jdk_40_method_47_code 55 = .ok (.invokespecial 100, 3) := by decide +kernel
theorem d16_58 : decode jdk_40_method_47_code 58 = .ok (.areturn, 1) := by decide +kernel
theorem ef_rmOf2 (m : MethodId) (sr : Addr) : entryFrame m #[(.ref sr)] 2 = mkF m 0 #[.val (.ref sr), .unset] [] := by first | (simp [entryFrame, mkF, argsToLocals, Value.category]; done) | rfl
def Q_rmOf2 (Z : State) (sr : Addr) (ks : ClassId) (gg0 : Addr) (gg1 : Addr) (h0 : Heap) (n0 : Nat) (v_ : Option Value) (h_ : Heap) (L_ : List Loc) : Prop := ∃ li : Addr, v_ = some (.ref li) ∧ Fr n0 L_ ∧ Keep h0 h_ [] ∧ h0.size ≤ li ∧ Exa Z h_ li "java/util/ImmutableCollections$List12" ∧ Fld Z h_ li "java/util/ImmutableCollections$List12" "e0" "Ljava/lang/Object;" (.ref gg0) ∧ Fld Z h_ li "java/util/ImmutableCollections$List12" "e1" "Ljava/lang/Object;" (.ref gg1)
set_option maxRecDepth 65536 in
set_option maxHeartbeats 40000000 in
theorem rmOf2 (l : Launch) (Z : State) (a0 : Array Value) (hw : ∀ d ∈ tables_1, d.before a0 Z = true) (ws : List Jvm.Cond) (sr : Addr) (ks : ClassId) (gg0 : Addr) (gg1 : Addr) (h0 : Heap) (n0 : Nat) (Z0 : n0 ≤ h0.size) (u0 : Arv Z h0 sr ks (.object "java/lang/String") (2 : Int32) [(.ref gg0), (.ref gg1)] .null) (u1 : Exa Z h0 gg0 "java/lang/String") (u2 : Exa Z h0 gg1 "java/lang/String") :
    MetFree l own_y18 (head1 (Jvm.Cond.code own_y18 jdk_40_method_47_code 2 (some (.object "java/util/List")) :: ws) ({ frames := 5, cells := 1, slots := 2, locals := 63 } : Room)) (fun a_ U_ => a_ = #[(.ref sr)] ∧ Z.Warmed39 U_.vm ∧ U_.heap = h0) (fun _ _ _ _ _ => True) (fun _ U_ o_ U2_ => ∃ v_ L_, o_ = .returned v_ ∧ Q_rmOf2 Z sr ks gg0 gg1 h0 n0 v_ U2_.heap L_ ∧ FrameEnd U_ o_ U2_ L_ ({ frames := 5, cells := 1, slots := 2, locals := 63 } : Room).cells ({ frames := 5, cells := 1, slots := 2, locals := 63 } : Room).slots) := by
  refine MetFree.of_bodySF (plainFor_of_name pn_11) hisR ?_
  intro p e s m args below meth c s₁ Bd hml0 hP hK
  obtain ⟨rfl, hZ, hh⟩ := hP
  have hx := Bd.exec
  have hby := Bd.bytes
  have hml : c.maxLocals = 2 := hml0
  have hown : s.vm.findClass "java/util/List" = some m.cls := findClass_of_methodNamed Bd.named
  have hnm := (name_of_methodNamed Bd.named Bd.method).1
  have X0 : Stand p l e ({ frames := 5, cells := 1, slots := 2, locals := 63 } : Room) s m #[(.ref sr)] below meth c s₁ [] 0 0 := Stand.of_body Bd
  have e0 : s₁.heap = h0 := by rw [← hh, Bd.state]; rfl
  have N0 := Fr.nil n0
  refine own_go (A := s₁.setTop (mkF m 0 #[.val (.ref sr), .unset] [])) (fun t_ k_ => castTop (ef_rmOf2 m sr) k_) ?_
  obtain ⟨cl1, Ar1, q1, S1, M1, H1, G1⟩ := id u0
  refine own_go (A := s₁.setTop (mkF m 45 #[.val (.ref sr), .unset] [])) (fun t_ k_ => ?_) ?_
  · show Steps p.tables e below (s₁.setTop (mkF m 0 #[.val (.ref sr), .unset] [])) t_
    refine XS.aloadN X0.here hx rfl (hb hby d16_0) rfl rfl ?_
    show Steps p.tables e below (s₁.setTop (mkF m 1 #[.val (.ref sr), .unset] [(.ref sr)])) t_
    refine X0.arraylength hx (by rw [e0]; exact Ar1.1) (State.isArrayOf_alike hZ.alike Ar1.2.1) (g := (mkF m 1 #[.val (.ref sr), .unset] [(.ref sr)])) rfl rfl (hb hby d16_1) _ ?_
    rw [len_of S1 M1]
    show Steps p.tables e below (s₁.setTop (mkF m 2 #[.val (.ref sr), .unset] [(.int (2 : Int32))])) t_
    refine XS.tswIn X0.here hx rfl (pc0 := 2) (pc' := 45) rfl (hb hby d16_2) rfl (by decide) (o := 43) (by decide) (by decide) (by decide) ?_
    exact k_
  obtain ⟨T2, h2, X2, e2, E2, A2, D2, -, st2⟩ := newO X0 hx hZ hown (own_w hw 145 rfl) (own_w hw 146 rfl) (own_w hw 147 rfl) e0 (g := (mkF m 45 #[.val (.ref sr), .unset] [])) rfl (hb hby d16_45) (by decide) (by decide)
  obtain ⟨b2, g2⟩ : ∃ z, z = h0.size := ⟨_, rfl⟩
  rw [← g2] at A2 D2 st2
  refine own_go st2 ?_
  have K2 : Keep h0 h2 [] := (Keep.refl h0 []).ext E2
  have F2_e0 : Fld Z h2 b2 "java/util/ImmutableCollections$List12" "e0" "Ljava/lang/Object;" .null := D2 (Or.inr (own_w hw 158 rfl)) (ty := (.object "java/lang/Object")) (by decide)
  have F2_e1 : Fld Z h2 b2 "java/util/ImmutableCollections$List12" "e1" "Ljava/lang/Object;" .null := D2 (Or.inr (own_w hw 160 rfl)) (ty := (.object "java/lang/Object")) (by decide)
  obtain ⟨cl3, Ar3, q3, S3, M3, H3, G3⟩ := id (u0.ext E2)
  have hin3 : ¬ ((0 : Int32) < 0 ∨ cl3.slots.size ≤ ((0 : Int32)).toNatClampNeg) := inb_of S3 ⟨by decide, by decide⟩
  have hat3 : cl3.slots[((0 : Int32)).toNatClampNeg]? = some (.ref gg0) := Has.at H3 hin3 rfl
  obtain ⟨cl4, Ar4, q4, S4, M4, H4, G4⟩ := id (u0.ext E2)
  have hin4 : ¬ ((1 : Int32) < 0 ∨ cl4.slots.size ≤ ((1 : Int32)).toNatClampNeg) := inb_of S4 ⟨by decide, by decide⟩
  have hat4 : cl4.slots[((1 : Int32)).toNatClampNeg]? = some (.ref gg1) := Has.at H4 hin4 rfl
  refine own_go (A := T2.setTop (mkF m 55 #[.val (.ref sr), .unset] [(.ref gg1), (.ref gg0), (.ref b2), (.ref b2)])) (fun t_ k_ => ?_) ?_
  · show Steps p.tables e below (T2.setTop (mkF m 48 #[.val (.ref sr), .unset] [(.ref b2)])) t_
    refine XS.dup X2.here hx rfl (hb hby d16_48) rfl rfl ?_
    show Steps p.tables e below (T2.setTop (mkF m 49 #[.val (.ref sr), .unset] [(.ref b2), (.ref b2)])) t_
    refine XS.aloadN X2.here hx rfl (hb hby d16_49) rfl rfl ?_
    show Steps p.tables e below (T2.setTop (mkF m 50 #[.val (.ref sr), .unset] [(.ref sr), (.ref b2), (.ref b2)])) t_
    refine XS.iconst X2.here hx rfl (hb hby d16_50) ?_
    show Steps p.tables e below (T2.setTop (mkF m 51 #[.val (.ref sr), .unset] [(.int (0 : Int32)), (.ref sr), (.ref b2), (.ref b2)])) t_
    refine X2.aaload hx (j := (0 : Int32)) (v := (.ref gg0)) (by rw [e2]; exact Ar3.1) (State.isArrayOf_alike hZ.alike Ar3.2.1) rfl Ar3.2.2 hin3 hat3 (g := (mkF m 51 #[.val (.ref sr), .unset] [(.int (0 : Int32)), (.ref sr), (.ref b2), (.ref b2)])) rfl rfl (hb hby d16_51) _ ?_
    show Steps p.tables e below (T2.setTop (mkF m 52 #[.val (.ref sr), .unset] [(.ref gg0), (.ref b2), (.ref b2)])) t_
    refine XS.aloadN X2.here hx rfl (hb hby d16_52) rfl rfl ?_
    show Steps p.tables e below (T2.setTop (mkF m 53 #[.val (.ref sr), .unset] [(.ref sr), (.ref gg0), (.ref b2), (.ref b2)])) t_
    refine XS.iconst X2.here hx rfl (hb hby d16_53) ?_
    show Steps p.tables e below (T2.setTop (mkF m 54 #[.val (.ref sr), .unset] [(.int (1 : Int32)), (.ref sr), (.ref gg0), (.ref b2), (.ref b2)])) t_
    refine X2.aaload hx (j := (1 : Int32)) (v := (.ref gg1)) (by rw [e2]; exact Ar4.1) (State.isArrayOf_alike hZ.alike Ar4.2.1) rfl Ar4.2.2 hin4 hat4 (g := (mkF m 54 #[.val (.ref sr), .unset] [(.int (1 : Int32)), (.ref sr), (.ref gg0), (.ref b2), (.ref b2)])) rfl rfl (hb hby d16_54) _ ?_
    exact k_
  obtain ⟨_, _, ⟨T5, L5, k5, n5⟩, -, X5, ⟨Lc5, hQ5, l5, y5, z5⟩, st5⟩ := X2.specialBack hx (y := own_y15) rfl hown (mvT hZ (own_w hw 148 rfl)) (mvT hZ (own_w hw 149 rfl)) (mvT hZ (own_w hw 151 rfl)) (by decide) (backOf (W := 1) (rmL2 l Z a0 hw [] b2 gg0 gg1 h2 n0 (Nat.le_trans Z0 K2.1) A2 F2_e0 F2_e1 (Nat.le_trans Z0 (Nat.le_of_eq g2.symm))) hZ (own_w hw 151 rfl) (own_w hw 147 rfl) (by decide) (by decide)) (g := (mkF m 55 #[.val (.ref sr), .unset] [(.ref gg1), (.ref gg0), (.ref b2), (.ref b2)])) rfl (by rw [hml]; rfl) (Steps.refl _) (a := b2) (argsL := [(.ref gg0), (.ref gg1)]) (rest := [(.ref b2)]) (lenOf pd_13 rfl) rfl (by show 2 * 0 + _ ≤ _; exact Nat.le_of_eq rfl) (hb hby d16_55) (fun _ _ => ⟨rfl, e2, (by decide : 1 + 0 ≤ _), (by decide : 2 + 0 ≤ _)⟩)
  dsimp only [Pt.U, Pt.locs, Pt.cells, Pt.slots] at X5 l5 y5 z5 st5 hQ5
  subst l5 y5 z5
  obtain ⟨rfl, N5q, Kc5, r5_0, r5_1⟩ := hQ5
  have N5 := Fr.app N0 N5q
  refine own_via st5 ?_
  have K5 : Keep h0 T5.heap [] := K2.trans Kc5 (allS (P := fun x => x ∈ _ ∨ _ ≤ x) (Or.inr (Nat.le_of_eq g2.symm)) all0)
  obtain ⟨fs6, hr6, hrun6, hended6, hW6, hsame6⟩ := X5.leave (v := some (.ref b2)) (fun h => by rw [Bd.returns] at h; cases h)
  refine ⟨_, _, ?_, hrun6, hended6, _, _, rfl, ?_, ⟨_, rfl⟩, hW6, hsame6.mono (by decide) (by decide)⟩
  · exact own_retA X5 hx Bd.returns rfl rfl rfl (hb hby d16_58) hr6
  · show Q_rmOf2 Z sr ks gg0 gg1 h0 n0 _ T5.heap _
    exact ⟨b2, rfl, N5, K5, (Nat.le_of_eq g2.symm), (A2.keep Kc5), r5_0, r5_1⟩
theorem d16_59 : decode jdk_40_method_47_code 59 = .ok (.aload_n 0, 1) := by decide +kernel
theorem pd_14 : parseMethodDescriptor "([Ljava/lang/Object;)Ljava/util/List;" = some ⟨[(.array (.object "java/lang/Object"))], some (.object "java/util/List")⟩ := by decide +kernel
theorem d16_60 : decode jdk_40_method_47_code 60 = .ok (.invokestatic 109, 3) := by decide +kernel
theorem d16_63 : decode jdk_40_method_47_code 63 = .ok (.areturn, 1) := by decide +kernel
theorem ef_rmOf3 (m : MethodId) (sr : Addr) : entryFrame m #[(.ref sr)] 2 = mkF m 0 #[.val (.ref sr), .unset] [] := by first | (simp [entryFrame, mkF, argsToLocals, Value.category]; done) | rfl
def Q_rmOf3 (Z : State) (sr : Addr) (ks : ClassId) (gg0 : Addr) (gg1 : Addr) (gg2 : Addr) (h0 : Heap) (n0 : Nat) (v_ : Option Value) (h_ : Heap) (L_ : List Loc) : Prop := ∃ li : Addr, ∃ es : Addr, ∃ k : ClassId, v_ = some (.ref li) ∧ Fr n0 L_ ∧ Keep h0 h_ [] ∧ h0.size ≤ li ∧ Exa Z h_ li "java/util/ImmutableCollections$ListN" ∧ h0.size ≤ es ∧ Fld Z h_ li "java/util/ImmutableCollections$ListN" "elements" "[Ljava/lang/Object;" (.ref es) ∧ Arv Z h_ es k (.object "java/lang/Object") (3 : Int32) [(.ref gg0), (.ref gg1), (.ref gg2)] .null
set_option maxRecDepth 65536 in
set_option maxHeartbeats 40000000 in
theorem rmOf3 (l : Launch) (Z : State) (a0 : Array Value) (hw : ∀ d ∈ tables_1, d.before a0 Z = true) (ws : List Jvm.Cond) (sr : Addr) (ks : ClassId) (gg0 : Addr) (gg1 : Addr) (gg2 : Addr) (h0 : Heap) (n0 : Nat) (Z0 : n0 ≤ h0.size) (u0 : Arv Z h0 sr ks (.object "java/lang/String") (3 : Int32) [(.ref gg0), (.ref gg1), (.ref gg2)] .null) (u1 : Exa Z h0 gg0 "java/lang/String") (u2 : Exa Z h0 gg1 "java/lang/String") (u3 : Exa Z h0 gg2 "java/lang/String") :
    MetFree l own_y18 (head1 (Jvm.Cond.code own_y18 jdk_40_method_47_code 2 (some (.object "java/util/List")) :: ws) ({ frames := 6, cells := 2, slots := 5, locals := 77 } : Room)) (fun a_ U_ => a_ = #[(.ref sr)] ∧ Z.Warmed39 U_.vm ∧ U_.heap = h0) (fun _ _ _ _ _ => True) (fun _ U_ o_ U2_ => ∃ v_ L_, o_ = .returned v_ ∧ Q_rmOf3 Z sr ks gg0 gg1 gg2 h0 n0 v_ U2_.heap L_ ∧ FrameEnd U_ o_ U2_ L_ ({ frames := 6, cells := 2, slots := 5, locals := 77 } : Room).cells ({ frames := 6, cells := 2, slots := 5, locals := 77 } : Room).slots) := by
  refine MetFree.of_bodySF (plainFor_of_name pn_11) hisR ?_
  intro p e s m args below meth c s₁ Bd hml0 hP hK
  obtain ⟨rfl, hZ, hh⟩ := hP
  have hx := Bd.exec
  have hby := Bd.bytes
  have hml : c.maxLocals = 2 := hml0
  have hown : s.vm.findClass "java/util/List" = some m.cls := findClass_of_methodNamed Bd.named
  have hnm := (name_of_methodNamed Bd.named Bd.method).1
  have X0 : Stand p l e ({ frames := 6, cells := 2, slots := 5, locals := 77 } : Room) s m #[(.ref sr)] below meth c s₁ [] 0 0 := Stand.of_body Bd
  have e0 : s₁.heap = h0 := by rw [← hh, Bd.state]; rfl
  have N0 := Fr.nil n0
  refine own_go (A := s₁.setTop (mkF m 0 #[.val (.ref sr), .unset] [])) (fun t_ k_ => castTop (ef_rmOf3 m sr) k_) ?_
  obtain ⟨cl1, Ar1, q1, S1, M1, H1, G1⟩ := id u0
  refine own_go (A := s₁.setTop (mkF m 60 #[.val (.ref sr), .unset] [(.ref sr)])) (fun t_ k_ => ?_) ?_
  · show Steps p.tables e below (s₁.setTop (mkF m 0 #[.val (.ref sr), .unset] [])) t_
    refine XS.aloadN X0.here hx rfl (hb hby d16_0) rfl rfl ?_
    show Steps p.tables e below (s₁.setTop (mkF m 1 #[.val (.ref sr), .unset] [(.ref sr)])) t_
    refine X0.arraylength hx (by rw [e0]; exact Ar1.1) (State.isArrayOf_alike hZ.alike Ar1.2.1) (g := (mkF m 1 #[.val (.ref sr), .unset] [(.ref sr)])) rfl rfl (hb hby d16_1) _ ?_
    rw [len_of S1 M1]
    show Steps p.tables e below (s₁.setTop (mkF m 2 #[.val (.ref sr), .unset] [(.int (3 : Int32))])) t_
    refine XS.tswOut X0.here hx rfl (pc0 := 2) (pc' := 59) rfl (hb hby d16_2) rfl (by decide) (by decide) (by decide) ?_
    show Steps p.tables e below (s₁.setTop (mkF m 59 #[.val (.ref sr), .unset] [])) t_
    refine XS.aloadN X0.here hx rfl (hb hby d16_59) rfl rfl ?_
    exact k_
  obtain ⟨_, _, ⟨T2, L2, k2, n2⟩, -, X2, ⟨Lc2, hQ2, l2, y2, z2⟩, st2⟩ := Jvm.LawKit.callS X0 hx (y := own_y17) hown (mvT hZ (own_w hw 90 rfl)) (mvT hZ (own_w hw 91 rfl)) (mvT hZ (own_w hw 92 rfl)) (mvT hZ (own_w hw 93 rfl)) (by decide) (backOf (W := 0) (rmLfa l Z a0 hw [] sr ks gg0 gg1 gg2 h0 n0 Z0 u0 u1 u2 u3) hZ (own_w hw 93 rfl) (own_w hw 92 rfl) (by decide) (by decide)) (g := (mkF m 60 #[.val (.ref sr), .unset] [(.ref sr)])) rfl (by rw [hml]; rfl) (argsL := [(.ref sr)]) (rest := []) (lenOf pd_14 rfl) rfl (by show 2 * 0 + _ ≤ _; exact Nat.le_of_eq rfl) (hb hby d16_60) (fun _ _ => ⟨rfl, e0, (by decide : 0 + 2 ≤ _), (by decide : 0 + 5 ≤ _)⟩)
  dsimp only [Pt.U, Pt.locs, Pt.cells, Pt.slots] at X2 l2 y2 z2 st2 hQ2
  subst l2 y2 z2
  obtain ⟨li_2, es_2, k_2, rfl, N2q, Kc2, r2_0, r2_1, r2_2, r2_3, r2_4⟩ := hQ2
  have N2 := Fr.app N0 N2q
  refine own_go st2 ?_
  have K2 : Keep h0 T2.heap [] := (Keep.refl h0 []).trans Kc2 all0
  obtain ⟨fs3, hr3, hrun3, hended3, hW3, hsame3⟩ := X2.leave (v := some (.ref li_2)) (fun h => by rw [Bd.returns] at h; cases h)
  refine ⟨_, _, ?_, hrun3, hended3, _, _, rfl, ?_, ⟨_, rfl⟩, hW3, hsame3.mono (by decide) (by decide)⟩
  · exact own_retA X2 hx Bd.returns rfl rfl rfl (hb hby d16_63) hr3
  · show Q_rmOf3 Z sr ks gg0 gg1 gg2 h0 n0 _ T2.heap _
    exact ⟨li_2, es_2, k_2, rfl, N2, K2, r2_0, r2_1, r2_2, r2_3, r2_4⟩
theorem d23_0 : decode prog_20_method_1_code 0 = .ok (.aload_n 0, 1) := by decide +kernel
theorem d23_1 : decode prog_20_method_1_code 1 = .ok (.invokespecial 1, 3) := by decide +kernel
theorem d23_4 : decode prog_20_method_1_code 4 = .ok (.aload_n 0, 1) := by decide +kernel
theorem d23_5 : decode prog_20_method_1_code 5 = .ok (.iload_n 1, 1) := by decide +kernel
theorem d23_6 : decode prog_20_method_1_code 6 = .ok (.putfield 7, 3) := by decide +kernel
theorem d23_9 : decode prog_20_method_1_code 9 = .ok (.aload_n 0, 1) := by decide +kernel
theorem d23_10 : decode prog_20_method_1_code 10 = .ok (.aload_n 2, 1) := by decide +kernel
theorem d23_11 : decode prog_20_method_1_code 11 = .ok (.putfield 13, 3) := by decide +kernel
theorem d23_14 : decode prog_20_method_1_code 14 = .ok (.return_, 1) := by decide +kernel
abbrev own_y19 : MethodName := ⟨"com/example/portcullis/portcullis/authorization/Vote", "<init>", "(ZLjava/util/List;)V"⟩
theorem ef_rmVote (m : MethodId) (a : Addr) (li : Addr) : entryFrame m #[(.ref a), (.int (0 : Int32)), (.ref li)] 3 = mkF m 0 #[.val (.ref a), .val (.int (0 : Int32)), .val (.ref li)] [] := by first | (simp [entryFrame, mkF, argsToLocals, Value.category]; done) | rfl
def Q_rmVote (Z : State) (a : Addr) (li : Addr) (h0 : Heap) (n0 : Nat) (v_ : Option Value) (h_ : Heap) (L_ : List Loc) : Prop := v_ = none ∧ Fr n0 L_ ∧ Keep h0 h_ [a] ∧ Fld Z h_ a "com/example/portcullis/portcullis/authorization/Vote" "allowed" "Z" (.int (0 : Int32)) ∧ Fld Z h_ a "com/example/portcullis/portcullis/authorization/Vote" "reasons" "Ljava/util/List;" (.ref li)
theorem pn_12 : plainName "com/example/portcullis/portcullis/authorization/Vote" = true := by first | (simp [plainName, overriddenIn]; done) | decide +kernel
set_option maxRecDepth 65536 in
set_option maxHeartbeats 40000000 in
theorem rmVote (l : Launch) (Z : State) (a0 : Array Value) (hw : ∀ d ∈ tables_1, d.before a0 Z = true) (ws : List Jvm.Cond) (a : Addr) (li : Addr) (h0 : Heap) (n0 : Nat) (Z0 : n0 ≤ h0.size) (u0 : Exa Z h0 a "com/example/portcullis/portcullis/authorization/Vote") (u1 : Fld Z h0 a "com/example/portcullis/portcullis/authorization/Vote" "allowed" "Z" (.int (0 : Int32))) (u2 : Fld Z h0 a "com/example/portcullis/portcullis/authorization/Vote" "reasons" "Ljava/util/List;" .null) (u3 : n0 ≤ a) :
    MetFree l own_y19 (head1 (Jvm.Cond.code own_y19 prog_20_method_1_code 3 none :: ws) ({ frames := 1, cells := 0, slots := 0, locals := 12 } : Room)) (fun a_ U_ => a_ = #[(.ref a), (.int (0 : Int32)), (.ref li)] ∧ Z.Warmed39 U_.vm ∧ U_.heap = h0) (fun _ _ _ _ _ => True) (fun _ U_ o_ U2_ => ∃ v_ L_, o_ = .returned v_ ∧ Q_rmVote Z a li h0 n0 v_ U2_.heap L_ ∧ FrameEnd U_ o_ U2_ L_ ({ frames := 1, cells := 0, slots := 0, locals := 12 } : Room).cells ({ frames := 1, cells := 0, slots := 0, locals := 12 } : Room).slots) := by
  refine MetFree.of_bodySF (plainFor_of_name pn_12) hisR ?_
  intro p e s m args below meth c s₁ Bd hml0 hP hK
  obtain ⟨rfl, hZ, hh⟩ := hP
  have hx := Bd.exec
  have hby := Bd.bytes
  have hml : c.maxLocals = 3 := hml0
  have hown : s.vm.findClass "com/example/portcullis/portcullis/authorization/Vote" = some m.cls := findClass_of_methodNamed Bd.named
  have hnm := (name_of_methodNamed Bd.named Bd.method).1
  have X0 : Stand p l e ({ frames := 1, cells := 0, slots := 0, locals := 12 } : Room) s m #[(.ref a), (.int (0 : Int32)), (.ref li)] below meth c s₁ [] 0 0 := Stand.of_body Bd
  have e0 : s₁.heap = h0 := by rw [← hh, Bd.state]; rfl
  have N0 := Fr.nil n0
  refine own_go (A := s₁.setTop (mkF m 0 #[.val (.ref a), .val (.int (0 : Int32)), .val (.ref li)] [])) (fun t_ k_ => castTop (ef_rmVote m a li) k_) ?_
  refine own_go (A := s₁.setTop (mkF m 1 #[.val (.ref a), .val (.int (0 : Int32)), .val (.ref li)] [(.ref a)])) (fun t_ k_ => ?_) ?_
  · show Steps p.tables e below (s₁.setTop (mkF m 0 #[.val (.ref a), .val (.int (0 : Int32)), .val (.ref li)] [])) t_
    refine XS.aloadN X0.here hx rfl (hb hby d23_0) rfl rfl ?_
    exact k_
  obtain ⟨T1, X1, e1, st1⟩ := initO X0 hx hZ hown (own_w hw 131 rfl) (own_w hw 16 rfl) (own_w hw 17 rfl) e0 (g := (mkF m 1 #[.val (.ref a), .val (.int (0 : Int32)), .val (.ref li)] [(.ref a)])) rfl (by rw [hml]; rfl) rfl (hb hby d23_1) (by decide) (W := 0) (by show 2 * 0 + _ ≤ _; exact Nat.le_of_eq rfl) (by decide)
  refine own_go st1 ?_
  refine own_go (A := T1.setTop (mkF m 6 #[.val (.ref a), .val (.int (0 : Int32)), .val (.ref li)] [(.int (0 : Int32)), (.ref a)])) (fun t_ k_ => ?_) ?_
  · show Steps p.tables e below (T1.setTop (mkF m 4 #[.val (.ref a), .val (.int (0 : Int32)), .val (.ref li)] [])) t_
    refine XS.aloadN X1.here hx rfl (hb hby d23_4) rfl rfl ?_
    show Steps p.tables e below (T1.setTop (mkF m 5 #[.val (.ref a), .val (.int (0 : Int32)), .val (.ref li)] [(.ref a)])) t_
    refine XS.iloadN X1.here hx rfl (hb hby d23_5) rfl ?_
    exact k_
  obtain ⟨T2, h2, X2, e2, W2, st2⟩ := putFN X1 hx hZ hown (own_w hw 49 rfl) Via.refl e1 u1 u0 (Or.inr ⟨(own_w hw 50 rfl), rfl, hnm⟩) (own_w hw 85 rfl) (ty := .boolean) (v' := (.int (0 : Int32))) (by decide) rfl rfl (g := (mkF m 6 #[.val (.ref a), .val (.int (0 : Int32)), .val (.ref li)] [(.int (0 : Int32)), (.ref a)])) rfl rfl (hb hby d23_6)
  have Fw2 : Fld Z h2 a "com/example/portcullis/portcullis/authorization/Vote" "allowed" "Z" (.int (0 : Int32)) := u1.same W2
  refine own_go st2 ?_
  have K2 : Keep h0 h2 [a] := (Keep.refl h0 [a]).wr W2 (Or.inl (List.mem_of_getElem? (i := 0) rfl))
  have N2 := Fr.snoc X2 N0 u3
  refine own_go (A := T2.setTop (mkF m 11 #[.val (.ref a), .val (.int (0 : Int32)), .val (.ref li)] [(.ref li), (.ref a)])) (fun t_ k_ => ?_) ?_
  · show Steps p.tables e below (T2.setTop (mkF m 9 #[.val (.ref a), .val (.int (0 : Int32)), .val (.ref li)] [])) t_
    refine XS.aloadN X2.here hx rfl (hb hby d23_9) rfl rfl ?_
    show Steps p.tables e below (T2.setTop (mkF m 10 #[.val (.ref a), .val (.int (0 : Int32)), .val (.ref li)] [(.ref a)])) t_
    refine XS.aloadN X2.here hx rfl (hb hby d23_10) rfl rfl ?_
    exact k_
  obtain ⟨T3, h3, X3, e3, W3, st3⟩ := putF X2 hx hZ hown (host := "") (Or.inl (own_w hw 56 rfl)) Via.refl e2 (u2.other W2 (Or.inr (slot_ne (Or.inr (own_w hw 57 rfl)) (Or.inr (own_w hw 50 rfl)) (by decide) (t := (.object "java/util/List")) (t' := .boolean) (by decide) (by decide)))) (u0.wr W2) (Or.inr ⟨(own_w hw 57 rfl), rfl, hnm⟩) (own_w hw 85 rfl) (ty := (.object "java/util/List")) (by decide) rfl rfl (g := (mkF m 11 #[.val (.ref a), .val (.int (0 : Int32)), .val (.ref li)] [(.ref li), (.ref a)])) rfl rfl (hb hby d23_11)
  have Fw3 : Fld Z h3 a "com/example/portcullis/portcullis/authorization/Vote" "reasons" "Ljava/util/List;" (.ref li) := (u2.other W2 (Or.inr (slot_ne (Or.inr (own_w hw 57 rfl)) (Or.inr (own_w hw 50 rfl)) (by decide) (t := (.object "java/util/List")) (t' := .boolean) (by decide) (by decide)))).same W3
  refine own_go st3 ?_
  have K3 : Keep h0 h3 [a] := K2.wr W3 (Or.inl (List.mem_of_getElem? (i := 0) rfl))
  have N3 := Fr.snoc X3 N2 u3
  obtain ⟨fs4, hr4, hrun4, hended4, hW4, hsame4⟩ := X3.leave (v := none) (fun _ => rfl)
  refine ⟨_, _, ?_, hrun4, hended4, _, _, rfl, ?_, ⟨_, rfl⟩, hW4, hsame4.mono (by decide) (by decide)⟩
  · exact X3.returnOut hx Bd.returns (hb hby d23_14) hr4
  · show Q_rmVote Z a li h0 n0 _ T3.heap _
    rw [e3]
    exact ⟨rfl, N3, K3, (Fw2.other W3 (Or.inr (slot_ne (Or.inr (own_w hw 50 rfl)) (Or.inr (own_w hw 57 rfl)) (by decide) (t := .boolean) (t' := (.object "java/util/List")) (by decide) (by decide)))), Fw3⟩
theorem d8_0 : decode prog_20_method_3_code 0 = .ok (.aload_n 0, 1) := by decide +kernel
theorem d8_1 : decode prog_20_method_3_code 1 = .ok (.arraylength, 1) := by decide +kernel
theorem d8_2 : decode prog_20_method_3_code 2 = .ok (.ifCond .ne 9, 3) := by decide +kernel
theorem d8_5 : decode prog_20_method_3_code 5 = .ok (.getstatic 21, 3) := by decide +kernel
theorem d8_8 : decode prog_20_method_3_code 8 = .ok (.goto 15, 3) := by decide +kernel
theorem d8_23 : decode prog_20_method_3_code 23 = .ok (.areturn, 1) := by decide +kernel
abbrev own_y20 : MethodName := ⟨"com/example/portcullis/portcullis/authorization/Vote", "deny", "([Ljava/lang/String;)Lcom/example/portcullis/portcullis/authorization/Vote;"⟩
theorem ef_rmDeny0 (m : MethodId) (sr : Addr) : entryFrame m #[(.ref sr)] 1 = mkF m 0 #[.val (.ref sr)] [] := by first | (simp [entryFrame, mkF, argsToLocals, Value.category]; done) | rfl
def Q_rmDeny0 (Z : State) (sr : Addr) (ks : ClassId) (dn : Addr) (h0 : Heap) (n0 : Nat) (v_ : Option Value) (h_ : Heap) (L_ : List Loc) : Prop := v_ = some (.ref dn) ∧ Fr n0 L_ ∧ h_ = h0
set_option maxRecDepth 65536 in
set_option maxHeartbeats 40000000 in
theorem rmDeny0 (l : Launch) (Z : State) (a0 : Array Value) (hw : ∀ d ∈ tables_1, d.before a0 Z = true) (ws : List Jvm.Cond) (sr : Addr) (ks : ClassId) (dn : Addr) (h0 : Heap) (n0 : Nat) (Z0 : n0 ≤ h0.size) (O0 : Old Z n0 h0) (u1 : Sta Z Z.heap "com/example/portcullis/portcullis/authorization/Vote" "DENY" "Lcom/example/portcullis/portcullis/authorization/Vote;" (.ref dn)) (u2 : Arv Z h0 sr ks (.object "java/lang/String") (0 : Int32) [] .null) :
    MetFree l own_y20 (head1 (Jvm.Cond.code own_y20 prog_20_method_3_code 1 (some (.object "com/example/portcullis/portcullis/authorization/Vote")) :: ws) ({ frames := 0, cells := 0, slots := 0, locals := 0 } : Room)) (fun a_ U_ => a_ = #[(.ref sr)] ∧ Z.Warmed39 U_.vm ∧ U_.heap = h0) (fun _ _ _ _ _ => True) (fun _ U_ o_ U2_ => ∃ v_ L_, o_ = .returned v_ ∧ Q_rmDeny0 Z sr ks dn h0 n0 v_ U2_.heap L_ ∧ FrameEnd U_ o_ U2_ L_ ({ frames := 0, cells := 0, slots := 0, locals := 0 } : Room).cells ({ frames := 0, cells := 0, slots := 0, locals := 0 } : Room).slots) := by
  refine MetFree.of_bodySF (plainFor_of_name pn_12) hisR ?_
  intro p e s m args below meth c s₁ Bd hml0 hP hK
  obtain ⟨rfl, hZ, hh⟩ := hP
  have hx := Bd.exec
  have hby := Bd.bytes
  have hml : c.maxLocals = 1 := hml0
  have hown : s.vm.findClass "com/example/portcullis/portcullis/authorization/Vote" = some m.cls := findClass_of_methodNamed Bd.named
  have hnm := (name_of_methodNamed Bd.named Bd.method).1
  have X0 : Stand p l e ({ frames := 0, cells := 0, slots := 0, locals := 0 } : Room) s m #[(.ref sr)] below meth c s₁ [] 0 0 := Stand.of_body Bd
  have e0 : s₁.heap = h0 := by rw [← hh, Bd.state]; rfl
  have N0 := Fr.nil n0
  refine own_go (A := s₁.setTop (mkF m 0 #[.val (.ref sr)] [])) (fun t_ k_ => castTop (ef_rmDeny0 m sr) k_) ?_
  obtain ⟨cl1, Ar1, q1, S1, M1, H1, G1⟩ := id u2
  refine own_go (A := s₁.setTop (mkF m 5 #[.val (.ref sr)] [])) (fun t_ k_ => ?_) ?_
  · show Steps p.tables e below (s₁.setTop (mkF m 0 #[.val (.ref sr)] [])) t_
    refine XS.aloadN X0.here hx rfl (hb hby d8_0) rfl rfl ?_
    show Steps p.tables e below (s₁.setTop (mkF m 1 #[.val (.ref sr)] [(.ref sr)])) t_
    refine X0.arraylength hx (by rw [e0]; exact Ar1.1) (State.isArrayOf_alike hZ.alike Ar1.2.1) (g := (mkF m 1 #[.val (.ref sr)] [(.ref sr)])) rfl rfl (hb hby d8_1) _ ?_
    rw [len_of S1 M1]
    show Steps p.tables e below (s₁.setTop (mkF m 2 #[.val (.ref sr)] [(.int (0 : Int32))])) t_
    refine XS.ifNo X0.here hx rfl (hb hby d8_2) rfl ((if0 _ _).trans (teq (by decide : (0 : Int32) = (0 : Int32))).2) ?_
    exact k_
  obtain ⟨T2, X2, e2, st2⟩ := getS2 X0 hx hZ hown (host := "") (Or.inl (own_w hw 42 rfl)) Via.refl e0 (u1.ext O0.2) (g := (mkF m 5 #[.val (.ref sr)] [])) rfl (hb hby d8_5)
  refine own_go st2 ?_
  refine own_go (A := T2.setTop (mkF m 23 #[.val (.ref sr)] [(.ref dn)])) (fun t_ k_ => ?_) ?_
  · show Steps p.tables e below (T2.setTop (mkF m 8 #[.val (.ref sr)] [(.ref dn)])) t_
    refine XS.goto X2.here hx rfl (pc0 := 8) (pc' := 23) rfl (hb hby d8_8) (by decide) (by decide) ?_
    exact k_
  obtain ⟨fs3, hr3, hrun3, hended3, hW3, hsame3⟩ := X2.leave (v := some (.ref dn)) (fun h => by rw [Bd.returns] at h; cases h)
  refine ⟨_, _, ?_, hrun3, hended3, _, _, rfl, ?_, ⟨_, rfl⟩, hW3, hsame3.mono (by decide) (by decide)⟩
  · exact own_retA X2 hx Bd.returns rfl rfl rfl (hb hby d8_23) hr3
  · show Q_rmDeny0 Z sr ks dn h0 n0 _ T2.heap _
    rw [e2]
    exact ⟨rfl, N0, rfl⟩
theorem d8_11 : decode prog_20_method_3_code 11 = .ok (.new 8, 3) := by decide +kernel
theorem d8_14 : decode prog_20_method_3_code 14 = .ok (.dup, 1) := by decide +kernel
theorem d8_15 : decode prog_20_method_3_code 15 = .ok (.iconst 0, 1) := by decide +kernel
theorem d8_16 : decode prog_20_method_3_code 16 = .ok (.aload_n 0, 1) := by decide +kernel
theorem d8_17 : decode prog_20_method_3_code 17 = .ok (.invokestatic 24, 3) := by decide +kernel
theorem pd_15 : parseMethodDescriptor "(ZLjava/util/List;)V" = some ⟨[.boolean, (.object "java/util/List")], none⟩ := by decide +kernel
theorem d8_20 : decode prog_20_method_3_code 20 = .ok (.invokespecial 30, 3) := by decide +kernel
theorem ef_rmDeny1 (m : MethodId) (sr : Addr) : entryFrame m #[(.ref sr)] 1 = mkF m 0 #[.val (.ref sr)] [] := by first | (simp [entryFrame, mkF, argsToLocals, Value.category]; done) | rfl
def Q_rmDeny1 (Z : State) (sr : Addr) (ks : ClassId) (gg0 : Addr) (em : Addr) (h0 : Heap) (n0 : Nat) (v_ : Option Value) (h_ : Heap) (L_ : List Loc) : Prop := ∃ vo : Addr, ∃ li : Addr, v_ = some (.ref vo) ∧ Fr n0 L_ ∧ Keep h0 h_ [] ∧ h0.size ≤ vo ∧ Exa Z h_ vo "com/example/portcullis/portcullis/authorization/Vote" ∧ Fld Z h_ vo "com/example/portcullis/portcullis/authorization/Vote" "allowed" "Z" (.int (0 : Int32)) ∧ Fld Z h_ vo "com/example/portcullis/portcullis/authorization/Vote" "reasons" "Ljava/util/List;" (.ref li) ∧ h0.size ≤ li ∧ Exa Z h_ li "java/util/ImmutableCollections$List12" ∧ Fld Z h_ li "java/util/ImmutableCollections$List12" "e0" "Ljava/lang/Object;" (.ref gg0) ∧ Fld Z h_ li "java/util/ImmutableCollections$List12" "e1" "Ljava/lang/Object;" (.ref em)
set_option maxRecDepth 65536 in
set_option maxHeartbeats 40000000 in
theorem rmDeny1 (l : Launch) (Z : State) (a0 : Array Value) (hw : ∀ d ∈ tables_1, d.before a0 Z = true) (ws : List Jvm.Cond) (sr : Addr) (ks : ClassId) (gg0 : Addr) (em : Addr) (h0 : Heap) (n0 : Nat) (Z0 : n0 ≤ h0.size) (O0 : Old Z n0 h0) (u1 : Sta Z Z.heap "java/util/ImmutableCollections" "EMPTY" "Ljava/lang/Object;" (.ref em)) (u2 : Arv Z h0 sr ks (.object "java/lang/String") (1 : Int32) [(.ref gg0)] .null) (u3 : Exa Z h0 gg0 "java/lang/String") :
    MetFree l own_y20 (head1 (Jvm.Cond.code own_y20 prog_20_method_3_code 1 (some (.object "com/example/portcullis/portcullis/authorization/Vote")) :: ws) ({ frames := 6, cells := 2, slots := 4, locals := 78 } : Room)) (fun a_ U_ => a_ = #[(.ref sr)] ∧ Z.Warmed39 U_.vm ∧ U_.heap = h0) (fun _ _ _ _ _ => True) (fun _ U_ o_ U2_ => ∃ v_ L_, o_ = .returned v_ ∧ Q_rmDeny1 Z sr ks gg0 em h0 n0 v_ U2_.heap L_ ∧ FrameEnd U_ o_ U2_ L_ ({ frames := 6, cells := 2, slots := 4, locals := 78 } : Room).cells ({ frames := 6, cells := 2, slots := 4, locals := 78 } : Room).slots) := by
  refine MetFree.of_bodySF (plainFor_of_name pn_12) hisR ?_
  intro p e s m args below meth c s₁ Bd hml0 hP hK
  obtain ⟨rfl, hZ, hh⟩ := hP
  have hx := Bd.exec
  have hby := Bd.bytes
  have hml : c.maxLocals = 1 := hml0
  have hown : s.vm.findClass "com/example/portcullis/portcullis/authorization/Vote" = some m.cls := findClass_of_methodNamed Bd.named
  have hnm := (name_of_methodNamed Bd.named Bd.method).1
  have X0 : Stand p l e ({ frames := 6, cells := 2, slots := 4, locals := 78 } : Room) s m #[(.ref sr)] below meth c s₁ [] 0 0 := Stand.of_body Bd
  have e0 : s₁.heap = h0 := by rw [← hh, Bd.state]; rfl
  have N0 := Fr.nil n0
  refine own_go (A := s₁.setTop (mkF m 0 #[.val (.ref sr)] [])) (fun t_ k_ => castTop (ef_rmDeny1 m sr) k_) ?_
  obtain ⟨cl1, Ar1, q1, S1, M1, H1, G1⟩ := id u2
  refine own_go (A := s₁.setTop (mkF m 11 #[.val (.ref sr)] [])) (fun t_ k_ => ?_) ?_
  · show Steps p.tables e below (s₁.setTop (mkF m 0 #[.val (.ref sr)] [])) t_
    refine XS.aloadN X0.here hx rfl (hb hby d8_0) rfl rfl ?_
    show Steps p.tables e below (s₁.setTop (mkF m 1 #[.val (.ref sr)] [(.ref sr)])) t_
    refine X0.arraylength hx (by rw [e0]; exact Ar1.1) (State.isArrayOf_alike hZ.alike Ar1.2.1) (g := (mkF m 1 #[.val (.ref sr)] [(.ref sr)])) rfl rfl (hb hby d8_1) _ ?_
    rw [len_of S1 M1]
    show Steps p.tables e below (s₁.setTop (mkF m 2 #[.val (.ref sr)] [(.int (1 : Int32))])) t_
    refine XS.ifYes X0.here hx rfl (pc0 := 2) (pc' := 11) rfl (hb hby d8_2) rfl ((if0 _ _).trans (feq (by decide : ¬ ((1 : Int32) = (0 : Int32)))).2) (by decide) (by decide) ?_
    exact k_
  obtain ⟨T2, h2, X2, e2, E2, A2, D2, -, st2⟩ := newO X0 hx hZ hown (own_w hw 84 rfl) (own_w hw 85 rfl) (own_w hw 40 rfl) e0 (g := (mkF m 11 #[.val (.ref sr)] [])) rfl (hb hby d8_11) (by decide) (by decide)
  obtain ⟨b2, g2⟩ : ∃ z, z = h0.size := ⟨_, rfl⟩
  rw [← g2] at A2 D2 st2
  refine own_go st2 ?_
  have K2 : Keep h0 h2 [] := (Keep.refl h0 []).ext E2
  have O2 := O0.ext E2
  have F2_allowed : Fld Z h2 b2 "com/example/portcullis/portcullis/authorization/Vote" "allowed" "Z" (.int (0 : Int32)) := D2 (Or.inr (own_w hw 50 rfl)) (ty := .boolean) (by decide)
  have F2_reasons : Fld Z h2 b2 "com/example/portcullis/portcullis/authorization/Vote" "reasons" "Ljava/util/List;" .null := D2 (Or.inr (own_w hw 57 rfl)) (ty := (.object "java/util/List")) (by decide)
  refine own_go (A := T2.setTop (mkF m 17 #[.val (.ref sr)] [(.ref sr), (.int (0 : Int32)), (.ref b2), (.ref b2)])) (fun t_ k_ => ?_) ?_
  · show Steps p.tables e below (T2.setTop (mkF m 14 #[.val (.ref sr)] [(.ref b2)])) t_
    refine XS.dup X2.here hx rfl (hb hby d8_14) rfl rfl ?_
    show Steps p.tables e below (T2.setTop (mkF m 15 #[.val (.ref sr)] [(.ref b2), (.ref b2)])) t_
    refine XS.iconst X2.here hx rfl (hb hby d8_15) ?_
    show Steps p.tables e below (T2.setTop (mkF m 16 #[.val (.ref sr)] [(.int (0 : Int32)), (.ref b2), (.ref b2)])) t_
    refine XS.aloadN X2.here hx rfl (hb hby d8_16) rfl rfl ?_
    exact k_
  obtain ⟨_, _, ⟨T3, L3, k3, n3⟩, -, X3, ⟨Lc3, hQ3, l3, y3, z3⟩, st3⟩ := Jvm.LawKit.callS X2 hx (y := own_y18) hown (mvT hZ (own_w hw 86 rfl)) (mvT hZ (own_w hw 87 rfl)) (mvT hZ (own_w hw 88 rfl)) (mvT hZ (own_w hw 89 rfl)) (by decide) (backOf (W := 3) (rmOf1 l Z a0 hw [] sr ks gg0 em h2 n0 (Nat.le_trans Z0 K2.1) O2 u1 (u2.ext E2) (u3.ext E2)) hZ (own_w hw 89 rfl) (own_w hw 88 rfl) (by decide) (by decide)) (g := (mkF m 17 #[.val (.ref sr)] [(.ref sr), (.int (0 : Int32)), (.ref b2), (.ref b2)])) rfl (by rw [hml]; rfl) (argsL := [(.ref sr)]) (rest := [(.int (0 : Int32)), (.ref b2), (.ref b2)]) (lenOf pd_14 rfl) rfl (by show 2 * 0 + _ ≤ _; exact Nat.le_of_eq rfl) (hb hby d8_17) (fun _ _ => ⟨rfl, e2, (by decide : 1 + 1 ≤ _), (by decide : 2 + 2 ≤ _)⟩)
  dsimp only [Pt.U, Pt.locs, Pt.cells, Pt.slots] at X3 l3 y3 z3 st3 hQ3
  subst l3 y3 z3
  obtain ⟨li_3, rfl, N3q, Kc3, r3_0, r3_1, r3_2, r3_3⟩ := hQ3
  have N3 := Fr.app N0 N3q
  refine own_go st3 ?_
  have K3 : Keep h0 T3.heap [] := K2.trans Kc3 all0
  have O3 := O2.keep Kc3 all0
  obtain ⟨_, _, ⟨T4, L4, k4, n4⟩, -, X4, ⟨Lc4, hQ4, l4, y4, z4⟩, st4⟩ := X3.specialBack hx (y := own_y19) rfl hown (mvT hZ (own_w hw 128 rfl)) (mvT hZ (own_w hw 129 rfl)) (mvT hZ (own_w hw 130 rfl)) (by decide) (backOf (W := 1) (rmVote l Z a0 hw [] b2 li_3 T3.heap n0 (Nat.le_trans Z0 K3.1) (A2.keep Kc3) (F2_allowed.keep Kc3 nin0) (F2_reasons.keep Kc3 nin0) (Nat.le_trans Z0 (Nat.le_of_eq g2.symm))) hZ (own_w hw 130 rfl) (own_w hw 40 rfl) (by decide) (by decide)) (g := (mkF m 20 #[.val (.ref sr)] [(.ref li_3), (.int (0 : Int32)), (.ref b2), (.ref b2)])) rfl (by rw [hml]; rfl) (Steps.refl _) (a := b2) (argsL := [(.int (0 : Int32)), (.ref li_3)]) (rest := [(.ref b2)]) (lenOf pd_15 rfl) rfl (by show 2 * 0 + _ ≤ _; exact Nat.le_of_eq rfl) (hb hby d8_20) (fun _ _ => ⟨rfl, rfl, (by decide : 2 + 0 ≤ _), (by decide : 4 + 0 ≤ _)⟩)
  dsimp only [Pt.U, Pt.locs, Pt.cells, Pt.slots] at X4 l4 y4 z4 st4 hQ4
  subst l4 y4 z4
  obtain ⟨rfl, N4q, Kc4, r4_0, r4_1⟩ := hQ4
  have N4 := Fr.app N3 N4q
  refine own_via st4 ?_
  have K4 : Keep h0 T4.heap [] := K3.trans Kc4 (allS (P := fun x => x ∈ _ ∨ _ ≤ x) (Or.inr (Nat.le_of_eq g2.symm)) all0)
  have O4 := O3.keep Kc4 (allS (P := fun x => n0 ≤ x) (Nat.le_trans Z0 (Nat.le_of_eq g2.symm)) all0)
  obtain ⟨fs5, hr5, hrun5, hended5, hW5, hsame5⟩ := X4.leave (v := some (.ref b2)) (fun h => by rw [Bd.returns] at h; cases h)
  refine ⟨_, _, ?_, hrun5, hended5, _, _, rfl, ?_, ⟨_, rfl⟩, hW5, hsame5.mono (by decide) (by decide)⟩
  · exact own_retA X4 hx Bd.returns rfl rfl rfl (hb hby d8_23) hr5
  · show Q_rmDeny1 Z sr ks gg0 em h0 n0 _ T4.heap _
    exact ⟨b2, li_3, rfl, N4, K4, (Nat.le_of_eq g2.symm), ((A2.keep Kc3).keep Kc4), r4_0, r4_1, (Nat.le_trans K2.1 r3_0), (r3_1.keep Kc4), (r3_2.keep Kc4 (ninS (Ne.symm (Nat.ne_of_lt (Nat.lt_of_lt_of_le A2.lt r3_0))) nin0)), (r3_3.keep Kc4 (ninS (Ne.symm (Nat.ne_of_lt (Nat.lt_of_lt_of_le A2.lt r3_0))) nin0))⟩
theorem ef_rmDeny2 (m : MethodId) (sr : Addr) : entryFrame m #[(.ref sr)] 1 = mkF m 0 #[.val (.ref sr)] [] := by first | (simp [entryFrame, mkF, argsToLocals, Value.category]; done) | rfl
def Q_rmDeny2 (Z : State) (sr : Addr) (ks : ClassId) (gg0 : Addr) (gg1 : Addr) (h0 : Heap) (n0 : Nat) (v_ : Option Value) (h_ : Heap) (L_ : List Loc) : Prop := ∃ vo : Addr, ∃ li : Addr, v_ = some (.ref vo) ∧ Fr n0 L_ ∧ Keep h0 h_ [] ∧ h0.size ≤ vo ∧ Exa Z h_ vo "com/example/portcullis/portcullis/authorization/Vote" ∧ Fld Z h_ vo "com/example/portcullis/portcullis/authorization/Vote" "allowed" "Z" (.int (0 : Int32)) ∧ Fld Z h_ vo "com/example/portcullis/portcullis/authorization/Vote" "reasons" "Ljava/util/List;" (.ref li) ∧ h0.size ≤ li ∧ Exa Z h_ li "java/util/ImmutableCollections$List12" ∧ Fld Z h_ li "java/util/ImmutableCollections$List12" "e0" "Ljava/lang/Object;" (.ref gg0) ∧ Fld Z h_ li "java/util/ImmutableCollections$List12" "e1" "Ljava/lang/Object;" (.ref gg1)
set_option maxRecDepth 65536 in
set_option maxHeartbeats 40000000 in
theorem rmDeny2 (l : Launch) (Z : State) (a0 : Array Value) (hw : ∀ d ∈ tables_1, d.before a0 Z = true) (ws : List Jvm.Cond) (sr : Addr) (ks : ClassId) (gg0 : Addr) (gg1 : Addr) (h0 : Heap) (n0 : Nat) (Z0 : n0 ≤ h0.size) (u0 : Arv Z h0 sr ks (.object "java/lang/String") (2 : Int32) [(.ref gg0), (.ref gg1)] .null) (u1 : Exa Z h0 gg0 "java/lang/String") (u2 : Exa Z h0 gg1 "java/lang/String") :
    MetFree l own_y20 (head1 (Jvm.Cond.code own_y20 prog_20_method_3_code 1 (some (.object "com/example/portcullis/portcullis/authorization/Vote")) :: ws) ({ frames := 6, cells := 2, slots := 4, locals := 79 } : Room)) (fun a_ U_ => a_ = #[(.ref sr)] ∧ Z.Warmed39 U_.vm ∧ U_.heap = h0) (fun _ _ _ _ _ => True) (fun _ U_ o_ U2_ => ∃ v_ L_, o_ = .returned v_ ∧ Q_rmDeny2 Z sr ks gg0 gg1 h0 n0 v_ U2_.heap L_ ∧ FrameEnd U_ o_ U2_ L_ ({ frames := 6, cells := 2, slots := 4, locals := 79 } : Room).cells ({ frames := 6, cells := 2, slots := 4, locals := 79 } : Room).slots) := by
  refine MetFree.of_bodySF (plainFor_of_name pn_12) hisR ?_
  intro p e s m args below meth c s₁ Bd hml0 hP hK
  obtain ⟨rfl, hZ, hh⟩ := hP
  have hx := Bd.exec
  have hby := Bd.bytes
  have hml : c.maxLocals = 1 := hml0
  have hown : s.vm.findClass "com/example/portcullis/portcullis/authorization/Vote" = some m.cls := findClass_of_methodNamed Bd.named
  have hnm := (name_of_methodNamed Bd.named Bd.method).1
  have X0 : Stand p l e ({ frames := 6, cells := 2, slots := 4, locals := 79 } : Room) s m #[(.ref sr)] below meth c s₁ [] 0 0 := Stand.of_body Bd
  have e0 : s₁.heap = h0 := by rw [← hh, Bd.state]; rfl
  have N0 := Fr.nil n0
  refine own_go (A := s₁.setTop (mkF m 0 #[.val (.ref sr)] [])) (fun t_ k_ => castTop (ef_rmDeny2 m sr) k_) ?_
  obtain ⟨cl1, Ar1, q1, S1, M1, H1, G1⟩ := id u0
  refine own_go (A := s₁.setTop (mkF m 11 #[.val (.ref sr)] [])) (fun t_ k_ => ?_) ?_
  · show Steps p.tables e below (s₁.setTop (mkF m 0 #[.val (.ref sr)] [])) t_
    refine XS.aloadN X0.here hx rfl (hb hby d8_0) rfl rfl ?_
    show Steps p.tables e below (s₁.setTop (mkF m 1 #[.val (.ref sr)] [(.ref sr)])) t_
    refine X0.arraylength hx (by rw [e0]; exact Ar1.1) (State.isArrayOf_alike hZ.alike Ar1.2.1) (g := (mkF m 1 #[.val (.ref sr)] [(.ref sr)])) rfl rfl (hb hby d8_1) _ ?_
    rw [len_of S1 M1]
    show Steps p.tables e below (s₁.setTop (mkF m 2 #[.val (.ref sr)] [(.int (2 : Int32))])) t_
    refine XS.ifYes X0.here hx rfl (pc0 := 2) (pc' := 11) rfl (hb hby d8_2) rfl ((if0 _ _).trans (feq (by decide : ¬ ((2 : Int32) = (0 : Int32)))).2) (by decide) (by decide) ?_
    exact k_
  obtain ⟨T2, h2, X2, e2, E2, A2, D2, -, st2⟩ := newO X0 hx hZ hown (own_w hw 84 rfl) (own_w hw 85 rfl) (own_w hw 40 rfl) e0 (g := (mkF m 11 #[.val (.ref sr)] [])) rfl (hb hby d8_11) (by decide) (by decide)
  obtain ⟨b2, g2⟩ : ∃ z, z = h0.size := ⟨_, rfl⟩
  rw [← g2] at A2 D2 st2
  refine own_go st2 ?_
  have K2 : Keep h0 h2 [] := (Keep.refl h0 []).ext E2
  have F2_allowed : Fld Z h2 b2 "com/example/portcullis/portcullis/authorization/Vote" "allowed" "Z" (.int (0 : Int32)) := D2 (Or.inr (own_w hw 50 rfl)) (ty := .boolean) (by decide)
  have F2_reasons : Fld Z h2 b2 "com/example/portcullis/portcullis/authorization/Vote" "reasons" "Ljava/util/List;" .null := D2 (Or.inr (own_w hw 57 rfl)) (ty := (.object "java/util/List")) (by decide)
  refine own_go (A := T2.setTop (mkF m 17 #[.val (.ref sr)] [(.ref sr), (.int (0 : Int32)), (.ref b2), (.ref b2)])) (fun t_ k_ => ?_) ?_
  · show Steps p.tables e below (T2.setTop (mkF m 14 #[.val (.ref sr)] [(.ref b2)])) t_
    refine XS.dup X2.here hx rfl (hb hby d8_14) rfl rfl ?_
    show Steps p.tables e below (T2.setTop (mkF m 15 #[.val (.ref sr)] [(.ref b2), (.ref b2)])) t_
    refine XS.iconst X2.here hx rfl (hb hby d8_15) ?_
    show Steps p.tables e below (T2.setTop (mkF m 16 #[.val (.ref sr)] [(.int (0 : Int32)), (.ref b2), (.ref b2)])) t_
    refine XS.aloadN X2.here hx rfl (hb hby d8_16) rfl rfl ?_
    exact k_
  obtain ⟨_, _, ⟨T3, L3, k3, n3⟩, -, X3, ⟨Lc3, hQ3, l3, y3, z3⟩, st3⟩ := Jvm.LawKit.callS X2 hx (y := own_y18) hown (mvT hZ (own_w hw 86 rfl)) (mvT hZ (own_w hw 87 rfl)) (mvT hZ (own_w hw 88 rfl)) (mvT hZ (own_w hw 89 rfl)) (by decide) (backOf (W := 3) (rmOf2 l Z a0 hw [] sr ks gg0 gg1 h2 n0 (Nat.le_trans Z0 K2.1) (u0.ext E2) (u1.ext E2) (u2.ext E2)) hZ (own_w hw 89 rfl) (own_w hw 88 rfl) (by decide) (by decide)) (g := (mkF m 17 #[.val (.ref sr)] [(.ref sr), (.int (0 : Int32)), (.ref b2), (.ref b2)])) rfl (by rw [hml]; rfl) (argsL := [(.ref sr)]) (rest := [(.int (0 : Int32)), (.ref b2), (.ref b2)]) (lenOf pd_14 rfl) rfl (by show 2 * 0 + _ ≤ _; exact Nat.le_of_eq rfl) (hb hby d8_17) (fun _ _ => ⟨rfl, e2, (by decide : 1 + 1 ≤ _), (by decide : 2 + 2 ≤ _)⟩)
  dsimp only [Pt.U, Pt.locs, Pt.cells, Pt.slots] at X3 l3 y3 z3 st3 hQ3
  subst l3 y3 z3
  obtain ⟨li_3, rfl, N3q, Kc3, r3_0, r3_1, r3_2, r3_3⟩ := hQ3
  have N3 := Fr.app N0 N3q
  refine own_go st3 ?_
  have K3 : Keep h0 T3.heap [] := K2.trans Kc3 all0
  obtain ⟨_, _, ⟨T4, L4, k4, n4⟩, -, X4, ⟨Lc4, hQ4, l4, y4, z4⟩, st4⟩ := X3.specialBack hx (y := own_y19) rfl hown (mvT hZ (own_w hw 128 rfl)) (mvT hZ (own_w hw 129 rfl)) (mvT hZ (own_w hw 130 rfl)) (by decide) (backOf (W := 1) (rmVote l Z a0 hw [] b2 li_3 T3.heap n0 (Nat.le_trans Z0 K3.1) (A2.keep Kc3) (F2_allowed.keep Kc3 nin0) (F2_reasons.keep Kc3 nin0) (Nat.le_trans Z0 (Nat.le_of_eq g2.symm))) hZ (own_w hw 130 rfl) (own_w hw 40 rfl) (by decide) (by decide)) (g := (mkF m 20 #[.val (.ref sr)] [(.ref li_3), (.int (0 : Int32)), (.ref b2), (.ref b2)])) rfl (by rw [hml]; rfl) (Steps.refl _) (a := b2) (argsL := [(.int (0 : Int32)), (.ref li_3)]) (rest := [(.ref b2)]) (lenOf pd_15 rfl) rfl (by show 2 * 0 + _ ≤ _; exact Nat.le_of_eq rfl) (hb hby d8_20) (fun _ _ => ⟨rfl, rfl, (by decide : 2 + 0 ≤ _), (by decide : 4 + 0 ≤ _)⟩)
  dsimp only [Pt.U, Pt.locs, Pt.cells, Pt.slots] at X4 l4 y4 z4 st4 hQ4
  subst l4 y4 z4
  obtain ⟨rfl, N4q, Kc4, r4_0, r4_1⟩ := hQ4
  have N4 := Fr.app N3 N4q
  refine own_via st4 ?_
  have K4 : Keep h0 T4.heap [] := K3.trans Kc4 (allS (P := fun x => x ∈ _ ∨ _ ≤ x) (Or.inr (Nat.le_of_eq g2.symm)) all0)
  obtain ⟨fs5, hr5, hrun5, hended5, hW5, hsame5⟩ := X4.leave (v := some (.ref b2)) (fun h => by rw [Bd.returns] at h; cases h)
  refine ⟨_, _, ?_, hrun5, hended5, _, _, rfl, ?_, ⟨_, rfl⟩, hW5, hsame5.mono (by decide) (by decide)⟩
  · exact own_retA X4 hx Bd.returns rfl rfl rfl (hb hby d8_23) hr5
  · show Q_rmDeny2 Z sr ks gg0 gg1 h0 n0 _ T4.heap _
    exact ⟨b2, li_3, rfl, N4, K4, (Nat.le_of_eq g2.symm), ((A2.keep Kc3).keep Kc4), r4_0, r4_1, (Nat.le_trans K2.1 r3_0), (r3_1.keep Kc4), (r3_2.keep Kc4 (ninS (Ne.symm (Nat.ne_of_lt (Nat.lt_of_lt_of_le A2.lt r3_0))) nin0)), (r3_3.keep Kc4 (ninS (Ne.symm (Nat.ne_of_lt (Nat.lt_of_lt_of_le A2.lt r3_0))) nin0))⟩
theorem ef_rmDeny3 (m : MethodId) (sr : Addr) : entryFrame m #[(.ref sr)] 1 = mkF m 0 #[.val (.ref sr)] [] := by first | (simp [entryFrame, mkF, argsToLocals, Value.category]; done) | rfl
def Q_rmDeny3 (Z : State) (sr : Addr) (ks : ClassId) (gg0 : Addr) (gg1 : Addr) (gg2 : Addr) (h0 : Heap) (n0 : Nat) (v_ : Option Value) (h_ : Heap) (L_ : List Loc) : Prop := ∃ vo : Addr, ∃ li : Addr, ∃ es : Addr, ∃ k : ClassId, v_ = some (.ref vo) ∧ Fr n0 L_ ∧ Keep h0 h_ [] ∧ h0.size ≤ vo ∧ Exa Z h_ vo "com/example/portcullis/portcullis/authorization/Vote" ∧ Fld Z h_ vo "com/example/portcullis/portcullis/authorization/Vote" "allowed" "Z" (.int (0 : Int32)) ∧ Fld Z h_ vo "com/example/portcullis/portcullis/authorization/Vote" "reasons" "Ljava/util/List;" (.ref li) ∧ h0.size ≤ li ∧ Exa Z h_ li "java/util/ImmutableCollections$ListN" ∧ h0.size ≤ es ∧ Fld Z h_ li "java/util/ImmutableCollections$ListN" "elements" "[Ljava/lang/Object;" (.ref es) ∧ Arv Z h_ es k (.object "java/lang/Object") (3 : Int32) [(.ref gg0), (.ref gg1), (.ref gg2)] .null
set_option maxRecDepth 65536 in
set_option maxHeartbeats 40000000 in
theorem rmDeny3 (l : Launch) (Z : State) (a0 : Array Value) (hw : ∀ d ∈ tables_1, d.before a0 Z = true) (ws : List Jvm.Cond) (sr : Addr) (ks : ClassId) (gg0 : Addr) (gg1 : Addr) (gg2 : Addr) (h0 : Heap) (n0 : Nat) (Z0 : n0 ≤ h0.size) (u0 : Arv Z h0 sr ks (.object "java/lang/String") (3 : Int32) [(.ref gg0), (.ref gg1), (.ref gg2)] .null) (u1 : Exa Z h0 gg0 "java/lang/String") (u2 : Exa Z h0 gg1 "java/lang/String") (u3 : Exa Z h0 gg2 "java/lang/String") :
    MetFree l own_y20 (head1 (Jvm.Cond.code own_y20 prog_20_method_3_code 1 (some (.object "com/example/portcullis/portcullis/authorization/Vote")) :: ws) ({ frames := 7, cells := 3, slots := 7, locals := 93 } : Room)) (fun a_ U_ => a_ = #[(.ref sr)] ∧ Z.Warmed39 U_.vm ∧ U_.heap = h0) (fun _ _ _ _ _ => True) (fun _ U_ o_ U2_ => ∃ v_ L_, o_ = .returned v_ ∧ Q_rmDeny3 Z sr ks gg0 gg1 gg2 h0 n0 v_ U2_.heap L_ ∧ FrameEnd U_ o_ U2_ L_ ({ frames := 7, cells := 3, slots := 7, locals := 93 } : Room).cells ({ frames := 7, cells := 3, slots := 7, locals := 93 } : Room).slots) := by
  refine MetFree.of_bodySF (plainFor_of_name pn_12) hisR ?_
  intro p e s m args below meth c s₁ Bd hml0 hP hK
  obtain ⟨rfl, hZ, hh⟩ := hP
  have hx := Bd.exec
  have hby := Bd.bytes
  have hml : c.maxLocals = 1 := hml0
  have hown : s.vm.findClass "com/example/portcullis/portcullis/authorization/Vote" = some m.cls := findClass_of_methodNamed Bd.named
  have hnm := (name_of_methodNamed Bd.named Bd.method).1
  have X0 : Stand p l e ({ frames := 7, cells := 3, slots := 7, locals := 93 } : Room) s m #[(.ref sr)] below meth c s₁ [] 0 0 := Stand.of_body Bd
  have e0 : s₁.heap = h0 := by rw [← hh, Bd.state]; rfl
  have N0 := Fr.nil n0
  refine own_go (A := s₁.setTop (mkF m 0 #[.val (.ref sr)] [])) (fun t_ k_ => castTop (ef_rmDeny3 m sr) k_) ?_
  obtain ⟨cl1, Ar1, q1, S1, M1, H1, G1⟩ := id u0
  refine own_go (A := s₁.setTop (mkF m 11 #[.val (.ref sr)] [])) (fun t_ k_ => ?_) ?_
  · show Steps p.tables e below (s₁.setTop (mkF m 0 #[.val (.ref sr)] [])) t_
    refine XS.aloadN X0.here hx rfl (hb hby d8_0) rfl rfl ?_
    show Steps p.tables e below (s₁.setTop (mkF m 1 #[.val (.ref sr)] [(.ref sr)])) t_
    refine X0.arraylength hx (by rw [e0]; exact Ar1.1) (State.isArrayOf_alike hZ.alike Ar1.2.1) (g := (mkF m 1 #[.val (.ref sr)] [(.ref sr)])) rfl rfl (hb hby d8_1) _ ?_
    rw [len_of S1 M1]
    show Steps p.tables e below (s₁.setTop (mkF m 2 #[.val (.ref sr)] [(.int (3 : Int32))])) t_
    refine XS.ifYes X0.here hx rfl (pc0 := 2) (pc' := 11) rfl (hb hby d8_2) rfl ((if0 _ _).trans (feq (by decide : ¬ ((3 : Int32) = (0 : Int32)))).2) (by decide) (by decide) ?_
    exact k_
  obtain ⟨T2, h2, X2, e2, E2, A2, D2, -, st2⟩ := newO X0 hx hZ hown (own_w hw 84 rfl) (own_w hw 85 rfl) (own_w hw 40 rfl) e0 (g := (mkF m 11 #[.val (.ref sr)] [])) rfl (hb hby d8_11) (by decide) (by decide)
  obtain ⟨b2, g2⟩ : ∃ z, z = h0.size := ⟨_, rfl⟩
  rw [← g2] at A2 D2 st2
  refine own_go st2 ?_
  have K2 : Keep h0 h2 [] := (Keep.refl h0 []).ext E2
  have F2_allowed : Fld Z h2 b2 "com/example/portcullis/portcullis/authorization/Vote" "allowed" "Z" (.int (0 : Int32)) := D2 (Or.inr (own_w hw 50 rfl)) (ty := .boolean) (by decide)
  have F2_reasons : Fld Z h2 b2 "com/example/portcullis/portcullis/authorization/Vote" "reasons" "Ljava/util/List;" .null := D2 (Or.inr (own_w hw 57 rfl)) (ty := (.object "java/util/List")) (by decide)
  refine own_go (A := T2.setTop (mkF m 17 #[.val (.ref sr)] [(.ref sr), (.int (0 : Int32)), (.ref b2), (.ref b2)])) (fun t_ k_ => ?_) ?_
  · show Steps p.tables e below (T2.setTop (mkF m 14 #[.val (.ref sr)] [(.ref b2)])) t_
    refine XS.dup X2.here hx rfl (hb hby d8_14) rfl rfl ?_
    show Steps p.tables e below (T2.setTop (mkF m 15 #[.val (.ref sr)] [(.ref b2), (.ref b2)])) t_
    refine XS.iconst X2.here hx rfl (hb hby d8_15) ?_
    show Steps p.tables e below (T2.setTop (mkF m 16 #[.val (.ref sr)] [(.int (0 : Int32)), (.ref b2), (.ref b2)])) t_
    refine XS.aloadN X2.here hx rfl (hb hby d8_16) rfl rfl ?_
    exact k_
  obtain ⟨_, _, ⟨T3, L3, k3, n3⟩, -, X3, ⟨Lc3, hQ3, l3, y3, z3⟩, st3⟩ := Jvm.LawKit.callS X2 hx (y := own_y18) hown (mvT hZ (own_w hw 86 rfl)) (mvT hZ (own_w hw 87 rfl)) (mvT hZ (own_w hw 88 rfl)) (mvT hZ (own_w hw 89 rfl)) (by decide) (backOf (W := 3) (rmOf3 l Z a0 hw [] sr ks gg0 gg1 gg2 h2 n0 (Nat.le_trans Z0 K2.1) (u0.ext E2) (u1.ext E2) (u2.ext E2) (u3.ext E2)) hZ (own_w hw 89 rfl) (own_w hw 88 rfl) (by decide) (by decide)) (g := (mkF m 17 #[.val (.ref sr)] [(.ref sr), (.int (0 : Int32)), (.ref b2), (.ref b2)])) rfl (by rw [hml]; rfl) (argsL := [(.ref sr)]) (rest := [(.int (0 : Int32)), (.ref b2), (.ref b2)]) (lenOf pd_14 rfl) rfl (by show 2 * 0 + _ ≤ _; exact Nat.le_of_eq rfl) (hb hby d8_17) (fun _ _ => ⟨rfl, e2, (by decide : 1 + 2 ≤ _), (by decide : 2 + 5 ≤ _)⟩)
  dsimp only [Pt.U, Pt.locs, Pt.cells, Pt.slots] at X3 l3 y3 z3 st3 hQ3
  subst l3 y3 z3
  obtain ⟨li_3, es_3, k_3, rfl, N3q, Kc3, r3_0, r3_1, r3_2, r3_3, r3_4⟩ := hQ3
  have N3 := Fr.app N0 N3q
  refine own_go st3 ?_
  have K3 : Keep h0 T3.heap [] := K2.trans Kc3 all0
  obtain ⟨_, _, ⟨T4, L4, k4, n4⟩, -, X4, ⟨Lc4, hQ4, l4, y4, z4⟩, st4⟩ := X3.specialBack hx (y := own_y19) rfl hown (mvT hZ (own_w hw 128 rfl)) (mvT hZ (own_w hw 129 rfl)) (mvT hZ (own_w hw 130 rfl)) (by decide) (backOf (W := 1) (rmVote l Z a0 hw [] b2 li_3 T3.heap n0 (Nat.le_trans Z0 K3.1) (A2.keep Kc3) (F2_allowed.keep Kc3 nin0) (F2_reasons.keep Kc3 nin0) (Nat.le_trans Z0 (Nat.le_of_eq g2.symm))) hZ (own_w hw 130 rfl) (own_w hw 40 rfl) (by decide) (by decide)) (g := (mkF m 20 #[.val (.ref sr)] [(.ref li_3), (.int (0 : Int32)), (.ref b2), (.ref b2)])) rfl (by rw [hml]; rfl) (Steps.refl _) (a := b2) (argsL := [(.int (0 : Int32)), (.ref li_3)]) (rest := [(.ref b2)]) (lenOf pd_15 rfl) rfl (by show 2 * 0 + _ ≤ _; exact Nat.le_of_eq rfl) (hb hby d8_20) (fun _ _ => ⟨rfl, rfl, (by decide : 3 + 0 ≤ _), (by decide : 7 + 0 ≤ _)⟩)
  dsimp only [Pt.U, Pt.locs, Pt.cells, Pt.slots] at X4 l4 y4 z4 st4 hQ4
  subst l4 y4 z4
  obtain ⟨rfl, N4q, Kc4, r4_0, r4_1⟩ := hQ4
  have N4 := Fr.app N3 N4q
  refine own_via st4 ?_
  have K4 : Keep h0 T4.heap [] := K3.trans Kc4 (allS (P := fun x => x ∈ _ ∨ _ ≤ x) (Or.inr (Nat.le_of_eq g2.symm)) all0)
  obtain ⟨fs5, hr5, hrun5, hended5, hW5, hsame5⟩ := X4.leave (v := some (.ref b2)) (fun h => by rw [Bd.returns] at h; cases h)
  refine ⟨_, _, ?_, hrun5, hended5, _, _, rfl, ?_, ⟨_, rfl⟩, hW5, hsame5.mono (by decide) (by decide)⟩
  · exact own_retA X4 hx Bd.returns rfl rfl rfl (hb hby d8_23) hr5
  · show Q_rmDeny3 Z sr ks gg0 gg1 gg2 h0 n0 _ T4.heap _
    exact ⟨b2, li_3, es_3, k_3, rfl, N4, K4, (Nat.le_of_eq g2.symm), ((A2.keep Kc3).keep Kc4), r4_0, r4_1, (Nat.le_trans K2.1 r3_0), (r3_1.keep Kc4), (Nat.le_trans K2.1 r3_2), (r3_3.keep Kc4 (ninS (Ne.symm (Nat.ne_of_lt (Nat.lt_of_lt_of_le A2.lt r3_0))) nin0)), (r3_4.keep Kc4 (ninS (Ne.symm (Nat.ne_of_lt (Nat.lt_of_lt_of_le A2.lt r3_2))) nin0))⟩
theorem d9_0 : decode prog_20_method_4_code 0 = .ok (.aload_n 0, 1) := by decide +kernel
theorem d9_1 : decode prog_20_method_4_code 1 = .ok (.getfield 7, 3) := by decide +kernel
theorem d9_4 : decode prog_20_method_4_code 4 = .ok (.ireturn, 1) := by decide +kernel
abbrev own_y21 : MethodName := ⟨"com/example/portcullis/portcullis/authorization/Vote", "isAllowed", "()Z"⟩
theorem ef_rmAll (m : MethodId) (a : Addr) : entryFrame m #[(.ref a)] 1 = mkF m 0 #[.val (.ref a)] [] := by first | (simp [entryFrame, mkF, argsToLocals, Value.category]; done) | rfl
def Q_rmAll (Z : State) (a : Addr) (h0 : Heap) (n0 : Nat) (v_ : Option Value) (h_ : Heap) (L_ : List Loc) : Prop := v_ = some (.int (0 : Int32)) ∧ Fr n0 L_ ∧ h_ = h0
set_option maxRecDepth 65536 in
set_option maxHeartbeats 40000000 in
theorem rmAll (l : Launch) (Z : State) (a0 : Array Value) (hw : ∀ d ∈ tables_1, d.before a0 Z = true) (ws : List Jvm.Cond) (a : Addr) (h0 : Heap) (n0 : Nat) (Z0 : n0 ≤ h0.size) (u0 : Fld Z h0 a "com/example/portcullis/portcullis/authorization/Vote" "allowed" "Z" (.int (0 : Int32))) :
    MetFree l own_y21 (head1 (Jvm.Cond.code own_y21 prog_20_method_4_code 1 (some .boolean) :: ws) ({ frames := 0, cells := 0, slots := 0, locals := 0 } : Room)) (fun a_ U_ => a_ = #[(.ref a)] ∧ Z.Warmed39 U_.vm ∧ U_.heap = h0) (fun _ _ _ _ _ => True) (fun _ U_ o_ U2_ => ∃ v_ L_, o_ = .returned v_ ∧ Q_rmAll Z a h0 n0 v_ U2_.heap L_ ∧ FrameEnd U_ o_ U2_ L_ ({ frames := 0, cells := 0, slots := 0, locals := 0 } : Room).cells ({ frames := 0, cells := 0, slots := 0, locals := 0 } : Room).slots) := by
  refine MetFree.of_bodySF (plainFor_of_name pn_12) hisR ?_
  intro p e s m args below meth c s₁ Bd hml0 hP hK
  obtain ⟨rfl, hZ, hh⟩ := hP
  have hx := Bd.exec
  have hby := Bd.bytes
  have hml : c.maxLocals = 1 := hml0
  have hown : s.vm.findClass "com/example/portcullis/portcullis/authorization/Vote" = some m.cls := findClass_of_methodNamed Bd.named
  have hnm := (name_of_methodNamed Bd.named Bd.method).1
  have X0 : Stand p l e ({ frames := 0, cells := 0, slots := 0, locals := 0 } : Room) s m #[(.ref a)] below meth c s₁ [] 0 0 := Stand.of_body Bd
  have e0 : s₁.heap = h0 := by rw [← hh, Bd.state]; rfl
  have N0 := Fr.nil n0
  refine own_go (A := s₁.setTop (mkF m 0 #[.val (.ref a)] [])) (fun t_ k_ => castTop (ef_rmAll m a) k_) ?_
  refine own_go (A := s₁.setTop (mkF m 1 #[.val (.ref a)] [(.ref a)])) (fun t_ k_ => ?_) ?_
  · show Steps p.tables e below (s₁.setTop (mkF m 0 #[.val (.ref a)] [])) t_
    refine XS.aloadN X0.here hx rfl (hb hby d9_0) rfl rfl ?_
    exact k_
  obtain ⟨T1, X1, e1, st1⟩ := getF X0 hx hZ hown (host := "") (Or.inl (own_w hw 49 rfl)) Via.refl e0 u0 (g := (mkF m 1 #[.val (.ref a)] [(.ref a)])) rfl rfl (hb hby d9_1)
  refine own_go st1 ?_
  obtain ⟨fs2, hr2, hrun2, hended2, hW2, hsame2⟩ := X1.leave (v := some (.int (0 : Int32))) (fun h => by rw [Bd.returns] at h; cases h)
  refine ⟨_, _, ?_, hrun2, hended2, _, _, rfl, ?_, ⟨_, rfl⟩, hW2, hsame2.mono (by decide) (by decide)⟩
  · exact retN X1 hx (t := .boolean) Bd.returns (by simp) (hb hby d9_4) hr2
  · show Q_rmAll Z a h0 n0 _ T1.heap _
    rw [e1]
    exact ⟨rfl, N0, rfl⟩
theorem d10_0 : decode prog_20_method_5_code 0 = .ok (.aload_n 0, 1) := by decide +kernel
theorem d10_1 : decode prog_20_method_5_code 1 = .ok (.getfield 13, 3) := by decide +kernel
theorem d10_4 : decode prog_20_method_5_code 4 = .ok (.areturn, 1) := by decide +kernel
abbrev own_y22 : MethodName := ⟨"com/example/portcullis/portcullis/authorization/Vote", "reasons", "()Ljava/util/List;"⟩
theorem ef_rmRea (m : MethodId) (a : Addr) : entryFrame m #[(.ref a)] 1 = mkF m 0 #[.val (.ref a)] [] := by first | (simp [entryFrame, mkF, argsToLocals, Value.category]; done) | rfl
def Q_rmRea (Z : State) (a : Addr) (li : Addr) (h0 : Heap) (n0 : Nat) (v_ : Option Value) (h_ : Heap) (L_ : List Loc) : Prop := v_ = some (.ref li) ∧ Fr n0 L_ ∧ h_ = h0
set_option maxRecDepth 65536 in
set_option maxHeartbeats 40000000 in
theorem rmRea (l : Launch) (Z : State) (a0 : Array Value) (hw : ∀ d ∈ tables_1, d.before a0 Z = true) (ws : List Jvm.Cond) (a : Addr) (li : Addr) (h0 : Heap) (n0 : Nat) (Z0 : n0 ≤ h0.size) (u0 : Fld Z h0 a "com/example/portcullis/portcullis/authorization/Vote" "reasons" "Ljava/util/List;" (.ref li)) :
    MetFree l own_y22 (head1 (Jvm.Cond.code own_y22 prog_20_method_5_code 1 (some (.object "java/util/List")) :: ws) ({ frames := 0, cells := 0, slots := 0, locals := 0 } : Room)) (fun a_ U_ => a_ = #[(.ref a)] ∧ Z.Warmed39 U_.vm ∧ U_.heap = h0) (fun _ _ _ _ _ => True) (fun _ U_ o_ U2_ => ∃ v_ L_, o_ = .returned v_ ∧ Q_rmRea Z a li h0 n0 v_ U2_.heap L_ ∧ FrameEnd U_ o_ U2_ L_ ({ frames := 0, cells := 0, slots := 0, locals := 0 } : Room).cells ({ frames := 0, cells := 0, slots := 0, locals := 0 } : Room).slots) := by
  refine MetFree.of_bodySF (plainFor_of_name pn_12) hisR ?_
  intro p e s m args below meth c s₁ Bd hml0 hP hK
  obtain ⟨rfl, hZ, hh⟩ := hP
  have hx := Bd.exec
  have hby := Bd.bytes
  have hml : c.maxLocals = 1 := hml0
  have hown : s.vm.findClass "com/example/portcullis/portcullis/authorization/Vote" = some m.cls := findClass_of_methodNamed Bd.named
  have hnm := (name_of_methodNamed Bd.named Bd.method).1
  have X0 : Stand p l e ({ frames := 0, cells := 0, slots := 0, locals := 0 } : Room) s m #[(.ref a)] below meth c s₁ [] 0 0 := Stand.of_body Bd
  have e0 : s₁.heap = h0 := by rw [← hh, Bd.state]; rfl
  have N0 := Fr.nil n0
  refine own_go (A := s₁.setTop (mkF m 0 #[.val (.ref a)] [])) (fun t_ k_ => castTop (ef_rmRea m a) k_) ?_
  refine own_go (A := s₁.setTop (mkF m 1 #[.val (.ref a)] [(.ref a)])) (fun t_ k_ => ?_) ?_
  · show Steps p.tables e below (s₁.setTop (mkF m 0 #[.val (.ref a)] [])) t_
    refine XS.aloadN X0.here hx rfl (hb hby d10_0) rfl rfl ?_
    exact k_
  obtain ⟨T1, X1, e1, st1⟩ := getF X0 hx hZ hown (host := "") (Or.inl (own_w hw 56 rfl)) Via.refl e0 u0 (g := (mkF m 1 #[.val (.ref a)] [(.ref a)])) rfl rfl (hb hby d10_1)
  refine own_go st1 ?_
  obtain ⟨fs2, hr2, hrun2, hended2, hW2, hsame2⟩ := X1.leave (v := some (.ref li)) (fun h => by rw [Bd.returns] at h; cases h)
  refine ⟨_, _, ?_, hrun2, hended2, _, _, rfl, ?_, ⟨_, rfl⟩, hW2, hsame2.mono (by decide) (by decide)⟩
  · exact own_retA X1 hx Bd.returns rfl rfl rfl (hb hby d10_4) hr2
  · show Q_rmRea Z a li h0 n0 _ T1.heap _
    rw [e1]
    exact ⟨rfl, N0, rfl⟩
theorem d11_0 : decode jdk_45_method_3_code 0 = .ok (.aload_n 0, 1) := by decide +kernel
theorem d11_1 : decode jdk_45_method_3_code 1 = .ok (.getfield 7, 3) := by decide +kernel
theorem d11_4 : decode jdk_45_method_3_code 4 = .ok (.arraylength, 1) := by decide +kernel
theorem d11_5 : decode jdk_45_method_3_code 5 = .ok (.ireturn, 1) := by decide +kernel
abbrev own_y23 : MethodName := ⟨"java/util/ImmutableCollections$ListN", "size", "()I"⟩
theorem ef_rmNs (m : MethodId) (a : Addr) : entryFrame m #[(.ref a)] 1 = mkF m 0 #[.val (.ref a)] [] := by first | (simp [entryFrame, mkF, argsToLocals, Value.category]; done) | rfl
def Q_rmNs (Z : State) (a : Addr) (es : Addr) (k : ClassId) (n : Int32) (vs : List Value) (h0 : Heap) (n0 : Nat) (v_ : Option Value) (h_ : Heap) (L_ : List Loc) : Prop := v_ = some (.int n) ∧ Fr n0 L_ ∧ h_ = h0
set_option maxRecDepth 65536 in
set_option maxHeartbeats 40000000 in
theorem rmNs (l : Launch) (Z : State) (a0 : Array Value) (hw : ∀ d ∈ tables_1, d.before a0 Z = true) (ws : List Jvm.Cond) (a : Addr) (es : Addr) (k : ClassId) (n : Int32) (vs : List Value) (h0 : Heap) (n0 : Nat) (Z0 : n0 ≤ h0.size) (u0 : Fld Z h0 a "java/util/ImmutableCollections$ListN" "elements" "[Ljava/lang/Object;" (.ref es)) (u1 : Arv Z h0 es k (.object "java/lang/Object") n vs .null) :
    MetFree l own_y23 (head1 (Jvm.Cond.code own_y23 jdk_45_method_3_code 1 (some .int) :: ws) ({ frames := 0, cells := 0, slots := 0, locals := 0 } : Room)) (fun a_ U_ => a_ = #[(.ref a)] ∧ Z.Warmed39 U_.vm ∧ U_.heap = h0) (fun _ _ _ _ _ => True) (fun _ U_ o_ U2_ => ∃ v_ L_, o_ = .returned v_ ∧ Q_rmNs Z a es k n vs h0 n0 v_ U2_.heap L_ ∧ FrameEnd U_ o_ U2_ L_ ({ frames := 0, cells := 0, slots := 0, locals := 0 } : Room).cells ({ frames := 0, cells := 0, slots := 0, locals := 0 } : Room).slots) := by
  refine MetFree.of_bodySF (plainFor_of_name pn_9) hisR ?_
  intro p e s m args below meth c s₁ Bd hml0 hP hK
  obtain ⟨rfl, hZ, hh⟩ := hP
  have hx := Bd.exec
  have hby := Bd.bytes
  have hml : c.maxLocals = 1 := hml0
  have hown : s.vm.findClass "java/util/ImmutableCollections$ListN" = some m.cls := findClass_of_methodNamed Bd.named
  have hnm := (name_of_methodNamed Bd.named Bd.method).1
  have X0 : Stand p l e ({ frames := 0, cells := 0, slots := 0, locals := 0 } : Room) s m #[(.ref a)] below meth c s₁ [] 0 0 := Stand.of_body Bd
  have e0 : s₁.heap = h0 := by rw [← hh, Bd.state]; rfl
  have N0 := Fr.nil n0
  refine own_go (A := s₁.setTop (mkF m 0 #[.val (.ref a)] [])) (fun t_ k_ => castTop (ef_rmNs m a) k_) ?_
  refine own_go (A := s₁.setTop (mkF m 1 #[.val (.ref a)] [(.ref a)])) (fun t_ k_ => ?_) ?_
  · show Steps p.tables e below (s₁.setTop (mkF m 0 #[.val (.ref a)] [])) t_
    refine XS.aloadN X0.here hx rfl (hb hby d11_0) rfl rfl ?_
    exact k_
  obtain ⟨T1, X1, e1, st1⟩ := getF X0 hx hZ hown (host := "") (Or.inl (own_w hw 68 rfl)) Via.refl e0 u0 (g := (mkF m 1 #[.val (.ref a)] [(.ref a)])) rfl rfl (hb hby d11_1)
  refine own_go st1 ?_
  obtain ⟨cl2, Ar2, q2, S2, M2, H2, G2⟩ := id u1
  refine own_go (A := T1.setTop (mkF m 5 #[.val (.ref a)] [(.int n)])) (fun t_ k_ => ?_) ?_
  · show Steps p.tables e below (T1.setTop (mkF m 4 #[.val (.ref a)] [(.ref es)])) t_
    refine X1.arraylength hx (by rw [e1]; exact Ar2.1) (State.isArrayOf_alike hZ.alike Ar2.2.1) (g := (mkF m 4 #[.val (.ref a)] [(.ref es)])) rfl rfl (hb hby d11_4) _ ?_
    rw [len_of S2 M2]
    exact k_
  obtain ⟨fs3, hr3, hrun3, hended3, hW3, hsame3⟩ := X1.leave (v := some (.int n)) (fun h => by rw [Bd.returns] at h; cases h)
  refine ⟨_, _, ?_, hrun3, hended3, _, _, rfl, ?_, ⟨_, rfl⟩, hW3, hsame3.mono (by decide) (by decide)⟩
  · exact own_retI X1 hx Bd.returns (hb hby d11_5) hr3
  · show Q_rmNs Z a es k n vs h0 n0 _ T1.heap _
    rw [e1]
    exact ⟨rfl, N0, rfl⟩
theorem d24_0 : decode jdk_45_method_4_code 0 = .ok (.aload_n 0, 1) := by decide +kernel
theorem d24_1 : decode jdk_45_method_4_code 1 = .ok (.getfield 7, 3) := by decide +kernel
theorem d24_4 : decode jdk_45_method_4_code 4 = .ok (.iload_n 1, 1) := by decide +kernel
theorem d24_5 : decode jdk_45_method_4_code 5 = .ok (.aaload, 1) := by decide +kernel
theorem d24_6 : decode jdk_45_method_4_code 6 = .ok (.areturn, 1) := by decide +kernel
abbrev own_y24 : MethodName := ⟨"java/util/ImmutableCollections$ListN", "get", "(I)Ljava/lang/Object;"⟩
theorem ef_rmNg0 (m : MethodId) (a : Addr) : entryFrame m #[(.ref a), (.int (0 : Int32))] 2 = mkF m 0 #[.val (.ref a), .val (.int (0 : Int32))] [] := by first | (simp [entryFrame, mkF, argsToLocals, Value.category]; done) | rfl
def Q_rmNg0 (Z : State) (a : Addr) (es : Addr) (k : ClassId) (gg0 : Addr) (gg1 : Addr) (gg2 : Addr) (h0 : Heap) (n0 : Nat) (v_ : Option Value) (h_ : Heap) (L_ : List Loc) : Prop := v_ = some (.ref gg0) ∧ Fr n0 L_ ∧ h_ = h0
set_option maxRecDepth 65536 in
set_option maxHeartbeats 40000000 in
theorem rmNg0 (l : Launch) (Z : State) (a0 : Array Value) (hw : ∀ d ∈ tables_1, d.before a0 Z = true) (ws : List Jvm.Cond) (a : Addr) (es : Addr) (k : ClassId) (gg0 : Addr) (gg1 : Addr) (gg2 : Addr) (h0 : Heap) (n0 : Nat) (Z0 : n0 ≤ h0.size) (u0 : Fld Z h0 a "java/util/ImmutableCollections$ListN" "elements" "[Ljava/lang/Object;" (.ref es)) (u1 : Arv Z h0 es k (.object "java/lang/Object") (3 : Int32) [(.ref gg0), (.ref gg1), (.ref gg2)] .null) :
    MetFree l own_y24 (head1 (Jvm.Cond.code own_y24 jdk_45_method_4_code 2 (some (.object "java/lang/Object")) :: ws) ({ frames := 0, cells := 0, slots := 0, locals := 0 } : Room)) (fun a_ U_ => a_ = #[(.ref a), (.int (0 : Int32))] ∧ Z.Warmed39 U_.vm ∧ U_.heap = h0) (fun _ _ _ _ _ => True) (fun _ U_ o_ U2_ => ∃ v_ L_, o_ = .returned v_ ∧ Q_rmNg0 Z a es k gg0 gg1 gg2 h0 n0 v_ U2_.heap L_ ∧ FrameEnd U_ o_ U2_ L_ ({ frames := 0, cells := 0, slots := 0, locals := 0 } : Room).cells ({ frames := 0, cells := 0, slots := 0, locals := 0 } : Room).slots) := by
  refine MetFree.of_bodySF (plainFor_of_name pn_9) hisR ?_
  intro p e s m args below meth c s₁ Bd hml0 hP hK
  obtain ⟨rfl, hZ, hh⟩ := hP
  have hx := Bd.exec
  have hby := Bd.bytes
  have hml : c.maxLocals = 2 := hml0
  have hown : s.vm.findClass "java/util/ImmutableCollections$ListN" = some m.cls := findClass_of_methodNamed Bd.named
  have hnm := (name_of_methodNamed Bd.named Bd.method).1
  have X0 : Stand p l e ({ frames := 0, cells := 0, slots := 0, locals := 0 } : Room) s m #[(.ref a), (.int (0 : Int32))] below meth c s₁ [] 0 0 := Stand.of_body Bd
  have e0 : s₁.heap = h0 := by rw [← hh, Bd.state]; rfl
  have N0 := Fr.nil n0
  refine own_go (A := s₁.setTop (mkF m 0 #[.val (.ref a), .val (.int (0 : Int32))] [])) (fun t_ k_ => castTop (ef_rmNg0 m a) k_) ?_
  refine own_go (A := s₁.setTop (mkF m 1 #[.val (.ref a), .val (.int (0 : Int32))] [(.ref a)])) (fun t_ k_ => ?_) ?_
  · show Steps p.tables e below (s₁.setTop (mkF m 0 #[.val (.ref a), .val (.int (0 : Int32))] [])) t_
    refine XS.aloadN X0.here hx rfl (hb hby d24_0) rfl rfl ?_
    exact k_
  obtain ⟨T1, X1, e1, st1⟩ := getF X0 hx hZ hown (host := "") (Or.inl (own_w hw 68 rfl)) Via.refl e0 u0 (g := (mkF m 1 #[.val (.ref a), .val (.int (0 : Int32))] [(.ref a)])) rfl rfl (hb hby d24_1)
  refine own_go st1 ?_
  obtain ⟨cl2, Ar2, q2, S2, M2, H2, G2⟩ := id u1
  have hin2 : ¬ ((0 : Int32) < 0 ∨ cl2.slots.size ≤ ((0 : Int32)).toNatClampNeg) := inb_of S2 ⟨by decide, by decide⟩
  have hat2 : cl2.slots[((0 : Int32)).toNatClampNeg]? = some (.ref gg0) := Has.at H2 hin2 rfl
  refine own_go (A := T1.setTop (mkF m 6 #[.val (.ref a), .val (.int (0 : Int32))] [(.ref gg0)])) (fun t_ k_ => ?_) ?_
  · show Steps p.tables e below (T1.setTop (mkF m 4 #[.val (.ref a), .val (.int (0 : Int32))] [(.ref es)])) t_
    refine XS.iloadN X1.here hx rfl (hb hby d24_4) rfl ?_
    show Steps p.tables e below (T1.setTop (mkF m 5 #[.val (.ref a), .val (.int (0 : Int32))] [(.int (0 : Int32)), (.ref es)])) t_
    refine X1.aaload hx (j := (0 : Int32)) (v := (.ref gg0)) (by rw [e1]; exact Ar2.1) (State.isArrayOf_alike hZ.alike Ar2.2.1) rfl Ar2.2.2 hin2 hat2 (g := (mkF m 5 #[.val (.ref a), .val (.int (0 : Int32))] [(.int (0 : Int32)), (.ref es)])) rfl rfl (hb hby d24_5) _ ?_
    exact k_
  obtain ⟨fs3, hr3, hrun3, hended3, hW3, hsame3⟩ := X1.leave (v := some (.ref gg0)) (fun h => by rw [Bd.returns] at h; cases h)
  refine ⟨_, _, ?_, hrun3, hended3, _, _, rfl, ?_, ⟨_, rfl⟩, hW3, hsame3.mono (by decide) (by decide)⟩
  · exact own_retA X1 hx Bd.returns rfl rfl rfl (hb hby d24_6) hr3
  · show Q_rmNg0 Z a es k gg0 gg1 gg2 h0 n0 _ T1.heap _
    rw [e1]
    exact ⟨rfl, N0, rfl⟩
theorem ef_rmNg1 (m : MethodId) (a : Addr) : entryFrame m #[(.ref a), (.int (1 : Int32))] 2 = mkF m 0 #[.val (.ref a), .val (.int (1 : Int32))] [] := by first | (simp [entryFrame, mkF, argsToLocals, Value.category]; done) | rfl
def Q_rmNg1 (Z : State) (a : Addr) (es : Addr) (k : ClassId) (gg0 : Addr) (gg1 : Addr) (gg2 : Addr) (h0 : Heap) (n0 : Nat) (v_ : Option Value) (h_ : Heap) (L_ : List Loc) : Prop := v_ = some (.ref gg1) ∧ Fr n0 L_ ∧ h_ = h0
set_option maxRecDepth 65536 in
set_option maxHeartbeats 40000000 in
theorem rmNg1 (l : Launch) (Z : State) (a0 : Array Value) (hw : ∀ d ∈ tables_1, d.before a0 Z = true) (ws : List Jvm.Cond) (a : Addr) (es : Addr) (k : ClassId) (gg0 : Addr) (gg1 : Addr) (gg2 : Addr) (h0 : Heap) (n0 : Nat) (Z0 : n0 ≤ h0.size) (u0 : Fld Z h0 a "java/util/ImmutableCollections$ListN" "elements" "[Ljava/lang/Object;" (.ref es)) (u1 : Arv Z h0 es k (.object "java/lang/Object") (3 : Int32) [(.ref gg0), (.ref gg1), (.ref gg2)] .null) :
    MetFree l own_y24 (head1 (Jvm.Cond.code own_y24 jdk_45_method_4_code 2 (some (.object "java/lang/Object")) :: ws) ({ frames := 0, cells := 0, slots := 0, locals := 0 } : Room)) (fun a_ U_ => a_ = #[(.ref a), (.int (1 : Int32))] ∧ Z.Warmed39 U_.vm ∧ U_.heap = h0) (fun _ _ _ _ _ => True) (fun _ U_ o_ U2_ => ∃ v_ L_, o_ = .returned v_ ∧ Q_rmNg1 Z a es k gg0 gg1 gg2 h0 n0 v_ U2_.heap L_ ∧ FrameEnd U_ o_ U2_ L_ ({ frames := 0, cells := 0, slots := 0, locals := 0 } : Room).cells ({ frames := 0, cells := 0, slots := 0, locals := 0 } : Room).slots) := by
  refine MetFree.of_bodySF (plainFor_of_name pn_9) hisR ?_
  intro p e s m args below meth c s₁ Bd hml0 hP hK
  obtain ⟨rfl, hZ, hh⟩ := hP
  have hx := Bd.exec
  have hby := Bd.bytes
  have hml : c.maxLocals = 2 := hml0
  have hown : s.vm.findClass "java/util/ImmutableCollections$ListN" = some m.cls := findClass_of_methodNamed Bd.named
  have hnm := (name_of_methodNamed Bd.named Bd.method).1
  have X0 : Stand p l e ({ frames := 0, cells := 0, slots := 0, locals := 0 } : Room) s m #[(.ref a), (.int (1 : Int32))] below meth c s₁ [] 0 0 := Stand.of_body Bd
  have e0 : s₁.heap = h0 := by rw [← hh, Bd.state]; rfl
  have N0 := Fr.nil n0
  refine own_go (A := s₁.setTop (mkF m 0 #[.val (.ref a), .val (.int (1 : Int32))] [])) (fun t_ k_ => castTop (ef_rmNg1 m a) k_) ?_
  refine own_go (A := s₁.setTop (mkF m 1 #[.val (.ref a), .val (.int (1 : Int32))] [(.ref a)])) (fun t_ k_ => ?_) ?_
  · show Steps p.tables e below (s₁.setTop (mkF m 0 #[.val (.ref a), .val (.int (1 : Int32))] [])) t_
    refine XS.aloadN X0.here hx rfl (hb hby d24_0) rfl rfl ?_
    exact k_
  obtain ⟨T1, X1, e1, st1⟩ := getF X0 hx hZ hown (host := "") (Or.inl (own_w hw 68 rfl)) Via.refl e0 u0 (g := (mkF m 1 #[.val (.ref a), .val (.int (1 : Int32))] [(.ref a)])) rfl rfl (hb hby d24_1)
  refine own_go st1 ?_
  obtain ⟨cl2, Ar2, q2, S2, M2, H2, G2⟩ := id u1
  have hin2 : ¬ ((1 : Int32) < 0 ∨ cl2.slots.size ≤ ((1 : Int32)).toNatClampNeg) := inb_of S2 ⟨by decide, by decide⟩
  have hat2 : cl2.slots[((1 : Int32)).toNatClampNeg]? = some (.ref gg1) := Has.at H2 hin2 rfl
  refine own_go (A := T1.setTop (mkF m 6 #[.val (.ref a), .val (.int (1 : Int32))] [(.ref gg1)])) (fun t_ k_ => ?_) ?_
  · show Steps p.tables e below (T1.setTop (mkF m 4 #[.val (.ref a), .val (.int (1 : Int32))] [(.ref es)])) t_
    refine XS.iloadN X1.here hx rfl (hb hby d24_4) rfl ?_
    show Steps p.tables e below (T1.setTop (mkF m 5 #[.val (.ref a), .val (.int (1 : Int32))] [(.int (1 : Int32)), (.ref es)])) t_
    refine X1.aaload hx (j := (1 : Int32)) (v := (.ref gg1)) (by rw [e1]; exact Ar2.1) (State.isArrayOf_alike hZ.alike Ar2.2.1) rfl Ar2.2.2 hin2 hat2 (g := (mkF m 5 #[.val (.ref a), .val (.int (1 : Int32))] [(.int (1 : Int32)), (.ref es)])) rfl rfl (hb hby d24_5) _ ?_
    exact k_
  obtain ⟨fs3, hr3, hrun3, hended3, hW3, hsame3⟩ := X1.leave (v := some (.ref gg1)) (fun h => by rw [Bd.returns] at h; cases h)
  refine ⟨_, _, ?_, hrun3, hended3, _, _, rfl, ?_, ⟨_, rfl⟩, hW3, hsame3.mono (by decide) (by decide)⟩
  · exact own_retA X1 hx Bd.returns rfl rfl rfl (hb hby d24_6) hr3
  · show Q_rmNg1 Z a es k gg0 gg1 gg2 h0 n0 _ T1.heap _
    rw [e1]
    exact ⟨rfl, N0, rfl⟩
theorem ef_rmNg2 (m : MethodId) (a : Addr) : entryFrame m #[(.ref a), (.int (2 : Int32))] 2 = mkF m 0 #[.val (.ref a), .val (.int (2 : Int32))] [] := by first | (simp [entryFrame, mkF, argsToLocals, Value.category]; done) | rfl
def Q_rmNg2 (Z : State) (a : Addr) (es : Addr) (k : ClassId) (gg0 : Addr) (gg1 : Addr) (gg2 : Addr) (h0 : Heap) (n0 : Nat) (v_ : Option Value) (h_ : Heap) (L_ : List Loc) : Prop := v_ = some (.ref gg2) ∧ Fr n0 L_ ∧ h_ = h0
set_option maxRecDepth 65536 in
set_option maxHeartbeats 40000000 in
theorem rmNg2 (l : Launch) (Z : State) (a0 : Array Value) (hw : ∀ d ∈ tables_1, d.before a0 Z = true) (ws : List Jvm.Cond) (a : Addr) (es : Addr) (k : ClassId) (gg0 : Addr) (gg1 : Addr) (gg2 : Addr) (h0 : Heap) (n0 : Nat) (Z0 : n0 ≤ h0.size) (u0 : Fld Z h0 a "java/util/ImmutableCollections$ListN" "elements" "[Ljava/lang/Object;" (.ref es)) (u1 : Arv Z h0 es k (.object "java/lang/Object") (3 : Int32) [(.ref gg0), (.ref gg1), (.ref gg2)] .null) :
    MetFree l own_y24 (head1 (Jvm.Cond.code own_y24 jdk_45_method_4_code 2 (some (.object "java/lang/Object")) :: ws) ({ frames := 0, cells := 0, slots := 0, locals := 0 } : Room)) (fun a_ U_ => a_ = #[(.ref a), (.int (2 : Int32))] ∧ Z.Warmed39 U_.vm ∧ U_.heap = h0) (fun _ _ _ _ _ => True) (fun _ U_ o_ U2_ => ∃ v_ L_, o_ = .returned v_ ∧ Q_rmNg2 Z a es k gg0 gg1 gg2 h0 n0 v_ U2_.heap L_ ∧ FrameEnd U_ o_ U2_ L_ ({ frames := 0, cells := 0, slots := 0, locals := 0 } : Room).cells ({ frames := 0, cells := 0, slots := 0, locals := 0 } : Room).slots) := by
  refine MetFree.of_bodySF (plainFor_of_name pn_9) hisR ?_
  intro p e s m args below meth c s₁ Bd hml0 hP hK
  obtain ⟨rfl, hZ, hh⟩ := hP
  have hx := Bd.exec
  have hby := Bd.bytes
  have hml : c.maxLocals = 2 := hml0
  have hown : s.vm.findClass "java/util/ImmutableCollections$ListN" = some m.cls := findClass_of_methodNamed Bd.named
  have hnm := (name_of_methodNamed Bd.named Bd.method).1
  have X0 : Stand p l e ({ frames := 0, cells := 0, slots := 0, locals := 0 } : Room) s m #[(.ref a), (.int (2 : Int32))] below meth c s₁ [] 0 0 := Stand.of_body Bd
  have e0 : s₁.heap = h0 := by rw [← hh, Bd.state]; rfl
  have N0 := Fr.nil n0
  refine own_go (A := s₁.setTop (mkF m 0 #[.val (.ref a), .val (.int (2 : Int32))] [])) (fun t_ k_ => castTop (ef_rmNg2 m a) k_) ?_
  refine own_go (A := s₁.setTop (mkF m 1 #[.val (.ref a), .val (.int (2 : Int32))] [(.ref a)])) (fun t_ k_ => ?_) ?_
  · show Steps p.tables e below (s₁.setTop (mkF m 0 #[.val (.ref a), .val (.int (2 : Int32))] [])) t_
    refine XS.aloadN X0.here hx rfl (hb hby d24_0) rfl rfl ?_
    exact k_
  obtain ⟨T1, X1, e1, st1⟩ := getF X0 hx hZ hown (host := "") (Or.inl (own_w hw 68 rfl)) Via.refl e0 u0 (g := (mkF m 1 #[.val (.ref a), .val (.int (2 : Int32))] [(.ref a)])) rfl rfl (hb hby d24_1)
  refine own_go st1 ?_
  obtain ⟨cl2, Ar2, q2, S2, M2, H2, G2⟩ := id u1
  have hin2 : ¬ ((2 : Int32) < 0 ∨ cl2.slots.size ≤ ((2 : Int32)).toNatClampNeg) := inb_of S2 ⟨by decide, by decide⟩
  have hat2 : cl2.slots[((2 : Int32)).toNatClampNeg]? = some (.ref gg2) := Has.at H2 hin2 rfl
  refine own_go (A := T1.setTop (mkF m 6 #[.val (.ref a), .val (.int (2 : Int32))] [(.ref gg2)])) (fun t_ k_ => ?_) ?_
  · show Steps p.tables e below (T1.setTop (mkF m 4 #[.val (.ref a), .val (.int (2 : Int32))] [(.ref es)])) t_
    refine XS.iloadN X1.here hx rfl (hb hby d24_4) rfl ?_
    show Steps p.tables e below (T1.setTop (mkF m 5 #[.val (.ref a), .val (.int (2 : Int32))] [(.int (2 : Int32)), (.ref es)])) t_
    refine X1.aaload hx (j := (2 : Int32)) (v := (.ref gg2)) (by rw [e1]; exact Ar2.1) (State.isArrayOf_alike hZ.alike Ar2.2.1) rfl Ar2.2.2 hin2 hat2 (g := (mkF m 5 #[.val (.ref a), .val (.int (2 : Int32))] [(.int (2 : Int32)), (.ref es)])) rfl rfl (hb hby d24_5) _ ?_
    exact k_
  obtain ⟨fs3, hr3, hrun3, hended3, hW3, hsame3⟩ := X1.leave (v := some (.ref gg2)) (fun h => by rw [Bd.returns] at h; cases h)
  refine ⟨_, _, ?_, hrun3, hended3, _, _, rfl, ?_, ⟨_, rfl⟩, hW3, hsame3.mono (by decide) (by decide)⟩
  · exact own_retA X1 hx Bd.returns rfl rfl rfl (hb hby d24_6) hr3
  · show Q_rmNg2 Z a es k gg0 gg1 gg2 h0 n0 _ T1.heap _
    rw [e1]
    exact ⟨rfl, N0, rfl⟩
theorem d27_0 : decode jdk_44_method_3_code 0 = .ok (.aload_n 0, 1) := by decide +kernel
theorem d27_1 : decode jdk_44_method_3_code 1 = .ok (.getfield 24, 3) := by decide +kernel
theorem d27_4 : decode jdk_44_method_3_code 4 = .ok (.getstatic 19, 3) := by decide +kernel
theorem d27_7 : decode jdk_44_method_3_code 7 = .ok (.if_acmp .eq 7, 3) := by decide +kernel
theorem d27_10 : decode jdk_44_method_3_code 10 = .ok (.iconst 2, 1) := by decide +kernel
theorem d27_11 : decode jdk_44_method_3_code 11 = .ok (.goto 4, 3) := by decide +kernel
theorem d27_15 : decode jdk_44_method_3_code 15 = .ok (.ireturn, 1) := by decide +kernel
abbrev own_y25 : MethodName := ⟨"java/util/ImmutableCollections$List12", "size", "()I"⟩
theorem ef_rm2s2 (m : MethodId) (a : Addr) : entryFrame m #[(.ref a)] 1 = mkF m 0 #[.val (.ref a)] [] := by first | (simp [entryFrame, mkF, argsToLocals, Value.category]; done) | rfl
def Q_rm2s2 (Z : State) (a : Addr) (gg1 : Addr) (em : Addr) (h0 : Heap) (n0 : Nat) (v_ : Option Value) (h_ : Heap) (L_ : List Loc) : Prop := v_ = some (.int (2 : Int32)) ∧ Fr n0 L_ ∧ h_ = h0
set_option maxRecDepth 65536 in
set_option maxHeartbeats 40000000 in
theorem rm2s2 (l : Launch) (Z : State) (a0 : Array Value) (hw : ∀ d ∈ tables_1, d.before a0 Z = true) (ws : List Jvm.Cond) (a : Addr) (gg1 : Addr) (em : Addr) (h0 : Heap) (n0 : Nat) (Z0 : n0 ≤ h0.size) (O0 : Old Z n0 h0) (u1 : Sta Z Z.heap "java/util/ImmutableCollections" "EMPTY" "Ljava/lang/Object;" (.ref em)) (u2 : Fld Z h0 a "java/util/ImmutableCollections$List12" "e1" "Ljava/lang/Object;" (.ref gg1)) (u3 : gg1 ≠ em) :
    MetFree l own_y25 (head1 (Jvm.Cond.code own_y25 jdk_44_method_3_code 1 (some .int) :: ws) ({ frames := 0, cells := 0, slots := 0, locals := 0 } : Room)) (fun a_ U_ => a_ = #[(.ref a)] ∧ Z.Warmed39 U_.vm ∧ U_.heap = h0) (fun _ _ _ _ _ => True) (fun _ U_ o_ U2_ => ∃ v_ L_, o_ = .returned v_ ∧ Q_rm2s2 Z a gg1 em h0 n0 v_ U2_.heap L_ ∧ FrameEnd U_ o_ U2_ L_ ({ frames := 0, cells := 0, slots := 0, locals := 0 } : Room).cells ({ frames := 0, cells := 0, slots := 0, locals := 0 } : Room).slots) := by
  refine MetFree.of_bodySF (plainFor_of_name pn_8) hisR ?_
  intro p e s m args below meth c s₁ Bd hml0 hP hK
  obtain ⟨rfl, hZ, hh⟩ := hP
  have hx := Bd.exec
  have hby := Bd.bytes
  have hml : c.maxLocals = 1 := hml0
  have hown : s.vm.findClass "java/util/ImmutableCollections$List12" = some m.cls := findClass_of_methodNamed Bd.named
  have hnm := (name_of_methodNamed Bd.named Bd.method).1
  have X0 : Stand p l e ({ frames := 0, cells := 0, slots := 0, locals := 0 } : Room) s m #[(.ref a)] below meth c s₁ [] 0 0 := Stand.of_body Bd
  have e0 : s₁.heap = h0 := by rw [← hh, Bd.state]; rfl
  have N0 := Fr.nil n0
  refine own_go (A := s₁.setTop (mkF m 0 #[.val (.ref a)] [])) (fun t_ k_ => castTop (ef_rm2s2 m a) k_) ?_
  refine own_go (A := s₁.setTop (mkF m 1 #[.val (.ref a)] [(.ref a)])) (fun t_ k_ => ?_) ?_
  · show Steps p.tables e below (s₁.setTop (mkF m 0 #[.val (.ref a)] [])) t_
    refine XS.aloadN X0.here hx rfl (hb hby d27_0) rfl rfl ?_
    exact k_
  obtain ⟨T1, X1, e1, st1⟩ := getF X0 hx hZ hown (host := "") (Or.inl (own_w hw 159 rfl)) Via.refl e0 u2 (g := (mkF m 1 #[.val (.ref a)] [(.ref a)])) rfl rfl (hb hby d27_1)
  refine own_go st1 ?_
  obtain ⟨T2, X2, e2, st2⟩ := getS2 X1 hx hZ hown (Or.inr (own_w hw 167 rfl)) Via.refl e1 (u1.ext O0.2) (g := (mkF m 4 #[.val (.ref a)] [(.ref gg1)])) rfl (hb hby d27_4)
  refine own_go st2 ?_
  refine own_go (A := T2.setTop (mkF m 15 #[.val (.ref a)] [(.int (2 : Int32))])) (fun t_ k_ => ?_) ?_
  · show Steps p.tables e below (T2.setTop (mkF m 7 #[.val (.ref a)] [(.ref em), (.ref gg1)])) t_
    refine Jvm.RoadKit.acmp (g := (mkF m 7 #[.val (.ref a)] [(.ref em), (.ref gg1)])) X2 hx rfl rfl rfl (pc0 := 7) (pc' := 10) (same := false) rfl (hb hby d27_7) rfl (decide_eq_false fun q => u3 (Value.ref.inj q)) (by decide) (by decide) ?_
    show Steps p.tables e below (T2.setTop (mkF m 10 #[.val (.ref a)] [])) t_
    refine XS.iconst X2.here hx rfl (hb hby d27_10) ?_
    show Steps p.tables e below (T2.setTop (mkF m 11 #[.val (.ref a)] [(.int (2 : Int32))])) t_
    refine XS.goto X2.here hx rfl (pc0 := 11) (pc' := 15) rfl (hb hby d27_11) (by decide) (by decide) ?_
    exact k_
  obtain ⟨fs3, hr3, hrun3, hended3, hW3, hsame3⟩ := X2.leave (v := some (.int (2 : Int32))) (fun h => by rw [Bd.returns] at h; cases h)
  refine ⟨_, _, ?_, hrun3, hended3, _, _, rfl, ?_, ⟨_, rfl⟩, hW3, hsame3.mono (by decide) (by decide)⟩
  · exact own_retI X2 hx Bd.returns (hb hby d27_15) hr3
  · show Q_rm2s2 Z a gg1 em h0 n0 _ T2.heap _
    rw [e2]
    exact ⟨rfl, N0, rfl⟩
theorem d27_14 : decode jdk_44_method_3_code 14 = .ok (.iconst 1, 1) := by decide +kernel
theorem ef_rm2s1 (m : MethodId) (a : Addr) : entryFrame m #[(.ref a)] 1 = mkF m 0 #[.val (.ref a)] [] := by first | (simp [entryFrame, mkF, argsToLocals, Value.category]; done) | rfl
def Q_rm2s1 (Z : State) (a : Addr) (em : Addr) (h0 : Heap) (n0 : Nat) (v_ : Option Value) (h_ : Heap) (L_ : List Loc) : Prop := v_ = some (.int (1 : Int32)) ∧ Fr n0 L_ ∧ h_ = h0
set_option maxRecDepth 65536 in
set_option maxHeartbeats 40000000 in
theorem rm2s1 (l : Launch) (Z : State) (a0 : Array Value) (hw : ∀ d ∈ tables_1, d.before a0 Z = true) (ws : List Jvm.Cond) (a : Addr) (em : Addr) (h0 : Heap) (n0 : Nat) (Z0 : n0 ≤ h0.size) (O0 : Old Z n0 h0) (u1 : Sta Z Z.heap "java/util/ImmutableCollections" "EMPTY" "Ljava/lang/Object;" (.ref em)) (u2 : Fld Z h0 a "java/util/ImmutableCollections$List12" "e1" "Ljava/lang/Object;" (.ref em)) :
    MetFree l own_y25 (head1 (Jvm.Cond.code own_y25 jdk_44_method_3_code 1 (some .int) :: ws) ({ frames := 0, cells := 0, slots := 0, locals := 0 } : Room)) (fun a_ U_ => a_ = #[(.ref a)] ∧ Z.Warmed39 U_.vm ∧ U_.heap = h0) (fun _ _ _ _ _ => True) (fun _ U_ o_ U2_ => ∃ v_ L_, o_ = .returned v_ ∧ Q_rm2s1 Z a em h0 n0 v_ U2_.heap L_ ∧ FrameEnd U_ o_ U2_ L_ ({ frames := 0, cells := 0, slots := 0, locals := 0 } : Room).cells ({ frames := 0, cells := 0, slots := 0, locals := 0 } : Room).slots) := by
  refine MetFree.of_bodySF (plainFor_of_name pn_8) hisR ?_
  intro p e s m args below meth c s₁ Bd hml0 hP hK
  obtain ⟨rfl, hZ, hh⟩ := hP
  have hx := Bd.exec
  have hby := Bd.bytes
  have hml : c.maxLocals = 1 := hml0
  have hown : s.vm.findClass "java/util/ImmutableCollections$List12" = some m.cls := findClass_of_methodNamed Bd.named
  have hnm := (name_of_methodNamed Bd.named Bd.method).1
  have X0 : Stand p l e ({ frames := 0, cells := 0, slots := 0, locals := 0 } : Room) s m #[(.ref a)] below meth c s₁ [] 0 0 := Stand.of_body Bd
  have e0 : s₁.heap = h0 := by rw [← hh, Bd.state]; rfl
  have N0 := Fr.nil n0
  refine own_go (A := s₁.setTop (mkF m 0 #[.val (.ref a)] [])) (fun t_ k_ => castTop (ef_rm2s1 m a) k_) ?_
  refine own_go (A := s₁.setTop (mkF m 1 #[.val (.ref a)] [(.ref a)])) (fun t_ k_ => ?_) ?_
  · show Steps p.tables e below (s₁.setTop (mkF m 0 #[.val (.ref a)] [])) t_
    refine XS.aloadN X0.here hx rfl (hb hby d27_0) rfl rfl ?_
    exact k_
  obtain ⟨T1, X1, e1, st1⟩ := getF X0 hx hZ hown (host := "") (Or.inl (own_w hw 159 rfl)) Via.refl e0 u2 (g := (mkF m 1 #[.val (.ref a)] [(.ref a)])) rfl rfl (hb hby d27_1)
  refine own_go st1 ?_
  obtain ⟨T2, X2, e2, st2⟩ := getS2 X1 hx hZ hown (Or.inr (own_w hw 167 rfl)) Via.refl e1 (u1.ext O0.2) (g := (mkF m 4 #[.val (.ref a)] [(.ref em)])) rfl (hb hby d27_4)
  refine own_go st2 ?_
  refine own_go (A := T2.setTop (mkF m 15 #[.val (.ref a)] [(.int (1 : Int32))])) (fun t_ k_ => ?_) ?_
  · show Steps p.tables e below (T2.setTop (mkF m 7 #[.val (.ref a)] [(.ref em), (.ref em)])) t_
    refine Jvm.RoadKit.acmp (g := (mkF m 7 #[.val (.ref a)] [(.ref em), (.ref em)])) X2 hx rfl rfl rfl (pc0 := 7) (pc' := 14) (same := true) rfl (hb hby d27_7) rfl (decide_eq_true rfl) (by decide) (by decide) ?_
    show Steps p.tables e below (T2.setTop (mkF m 14 #[.val (.ref a)] [])) t_
    refine XS.iconst X2.here hx rfl (hb hby d27_14) ?_
    exact k_
  obtain ⟨fs3, hr3, hrun3, hended3, hW3, hsame3⟩ := X2.leave (v := some (.int (1 : Int32))) (fun h => by rw [Bd.returns] at h; cases h)
  refine ⟨_, _, ?_, hrun3, hended3, _, _, rfl, ?_, ⟨_, rfl⟩, hW3, hsame3.mono (by decide) (by decide)⟩
  · exact own_retI X2 hx Bd.returns (hb hby d27_15) hr3
  · show Q_rm2s1 Z a em h0 n0 _ T2.heap _
    rw [e2]
    exact ⟨rfl, N0, rfl⟩
theorem d28_0 : decode jdk_44_method_5_code 0 = .ok (.iload_n 1, 1) := by decide +kernel
theorem d28_1 : decode jdk_44_method_5_code 1 = .ok (.ifCond .ne 8, 3) := by decide +kernel
theorem d28_4 : decode jdk_44_method_5_code 4 = .ok (.aload_n 0, 1) := by decide +kernel
theorem d28_5 : decode jdk_44_method_5_code 5 = .ok (.getfield 13, 3) := by decide +kernel
theorem d28_8 : decode jdk_44_method_5_code 8 = .ok (.areturn, 1) := by decide +kernel
abbrev own_y26 : MethodName := ⟨"java/util/ImmutableCollections$List12", "get", "(I)Ljava/lang/Object;"⟩
theorem ef_rm2g0 (m : MethodId) (a : Addr) : entryFrame m #[(.ref a), (.int (0 : Int32))] 2 = mkF m 0 #[.val (.ref a), .val (.int (0 : Int32))] [] := by first | (simp [entryFrame, mkF, argsToLocals, Value.category]; done) | rfl
def Q_rm2g0 (Z : State) (a : Addr) (gg0 : Addr) (h0 : Heap) (n0 : Nat) (v_ : Option Value) (h_ : Heap) (L_ : List Loc) : Prop := v_ = some (.ref gg0) ∧ Fr n0 L_ ∧ h_ = h0
set_option maxRecDepth 65536 in
set_option maxHeartbeats 40000000 in
theorem rm2g0 (l : Launch) (Z : State) (a0 : Array Value) (hw : ∀ d ∈ tables_1, d.before a0 Z = true) (ws : List Jvm.Cond) (a : Addr) (gg0 : Addr) (h0 : Heap) (n0 : Nat) (Z0 : n0 ≤ h0.size) (u0 : Fld Z h0 a "java/util/ImmutableCollections$List12" "e0" "Ljava/lang/Object;" (.ref gg0)) :
    MetFree l own_y26 (head1 (Jvm.Cond.code own_y26 jdk_44_method_5_code 2 (some (.object "java/lang/Object")) :: ws) ({ frames := 0, cells := 0, slots := 0, locals := 0 } : Room)) (fun a_ U_ => a_ = #[(.ref a), (.int (0 : Int32))] ∧ Z.Warmed39 U_.vm ∧ U_.heap = h0) (fun _ _ _ _ _ => True) (fun _ U_ o_ U2_ => ∃ v_ L_, o_ = .returned v_ ∧ Q_rm2g0 Z a gg0 h0 n0 v_ U2_.heap L_ ∧ FrameEnd U_ o_ U2_ L_ ({ frames := 0, cells := 0, slots := 0, locals := 0 } : Room).cells ({ frames := 0, cells := 0, slots := 0, locals := 0 } : Room).slots) := by
  refine MetFree.of_bodySF (plainFor_of_name pn_8) hisR ?_
  intro p e s m args below meth c s₁ Bd hml0 hP hK
  obtain ⟨rfl, hZ, hh⟩ := hP
  have hx := Bd.exec
  have hby := Bd.bytes
  have hml : c.maxLocals = 2 := hml0
  have hown : s.vm.findClass "java/util/ImmutableCollections$List12" = some m.cls := findClass_of_methodNamed Bd.named
  have hnm := (name_of_methodNamed Bd.named Bd.method).1
  have X0 : Stand p l e ({ frames := 0, cells := 0, slots := 0, locals := 0 } : Room) s m #[(.ref a), (.int (0 : Int32))] below meth c s₁ [] 0 0 := Stand.of_body Bd
  have e0 : s₁.heap = h0 := by rw [← hh, Bd.state]; rfl
  have N0 := Fr.nil n0
  refine own_go (A := s₁.setTop (mkF m 0 #[.val (.ref a), .val (.int (0 : Int32))] [])) (fun t_ k_ => castTop (ef_rm2g0 m a) k_) ?_
  refine own_go (A := s₁.setTop (mkF m 5 #[.val (.ref a), .val (.int (0 : Int32))] [(.ref a)])) (fun t_ k_ => ?_) ?_
  · show Steps p.tables e below (s₁.setTop (mkF m 0 #[.val (.ref a), .val (.int (0 : Int32))] [])) t_
    refine XS.iloadN X0.here hx rfl (hb hby d28_0) rfl ?_
    show Steps p.tables e below (s₁.setTop (mkF m 1 #[.val (.ref a), .val (.int (0 : Int32))] [(.int (0 : Int32))])) t_
    refine XS.ifNo X0.here hx rfl (hb hby d28_1) rfl ((if0 _ _).trans (teq (by decide : (0 : Int32) = (0 : Int32))).2) ?_
    show Steps p.tables e below (s₁.setTop (mkF m 4 #[.val (.ref a), .val (.int (0 : Int32))] [])) t_
    refine XS.aloadN X0.here hx rfl (hb hby d28_4) rfl rfl ?_
    exact k_
  obtain ⟨T1, X1, e1, st1⟩ := getF X0 hx hZ hown (host := "") (Or.inl (own_w hw 157 rfl)) Via.refl e0 u0 (g := (mkF m 5 #[.val (.ref a), .val (.int (0 : Int32))] [(.ref a)])) rfl rfl (hb hby d28_5)
  refine own_go st1 ?_
  obtain ⟨fs2, hr2, hrun2, hended2, hW2, hsame2⟩ := X1.leave (v := some (.ref gg0)) (fun h => by rw [Bd.returns] at h; cases h)
  refine ⟨_, _, ?_, hrun2, hended2, _, _, rfl, ?_, ⟨_, rfl⟩, hW2, hsame2.mono (by decide) (by decide)⟩
  · exact own_retA X1 hx Bd.returns rfl rfl rfl (hb hby d28_8) hr2
  · show Q_rm2g0 Z a gg0 h0 n0 _ T1.heap _
    rw [e1]
    exact ⟨rfl, N0, rfl⟩
theorem d28_9 : decode jdk_44_method_5_code 9 = .ok (.iload_n 1, 1) := by decide +kernel
theorem d28_10 : decode jdk_44_method_5_code 10 = .ok (.iconst 1, 1) := by decide +kernel
theorem d28_11 : decode jdk_44_method_5_code 11 = .ok (.if_icmp .ne 18, 3) := by decide +kernel
theorem d28_14 : decode jdk_44_method_5_code 14 = .ok (.aload_n 0, 1) := by decide +kernel
theorem d28_15 : decode jdk_44_method_5_code 15 = .ok (.getfield 24, 3) := by decide +kernel
theorem d28_18 : decode jdk_44_method_5_code 18 = .ok (.getstatic 19, 3) := by decide +kernel
theorem d28_21 : decode jdk_44_method_5_code 21 = .ok (.if_acmp .eq 8, 3) := by decide +kernel
theorem d28_24 : decode jdk_44_method_5_code 24 = .ok (.aload_n 0, 1) := by decide +kernel
theorem d28_25 : decode jdk_44_method_5_code 25 = .ok (.getfield 24, 3) := by decide +kernel
theorem d28_28 : decode jdk_44_method_5_code 28 = .ok (.areturn, 1) := by decide +kernel
theorem ef_rm2g1 (m : MethodId) (a : Addr) : entryFrame m #[(.ref a), (.int (1 : Int32))] 2 = mkF m 0 #[.val (.ref a), .val (.int (1 : Int32))] [] := by first | (simp [entryFrame, mkF, argsToLocals, Value.category]; done) | rfl
def Q_rm2g1 (Z : State) (a : Addr) (gg1 : Addr) (em : Addr) (h0 : Heap) (n0 : Nat) (v_ : Option Value) (h_ : Heap) (L_ : List Loc) : Prop := v_ = some (.ref gg1) ∧ Fr n0 L_ ∧ h_ = h0
set_option maxRecDepth 65536 in
set_option maxHeartbeats 40000000 in
theorem rm2g1 (l : Launch) (Z : State) (a0 : Array Value) (hw : ∀ d ∈ tables_1, d.before a0 Z = true) (ws : List Jvm.Cond) (a : Addr) (gg1 : Addr) (em : Addr) (h0 : Heap) (n0 : Nat) (Z0 : n0 ≤ h0.size) (O0 : Old Z n0 h0) (u1 : Sta Z Z.heap "java/util/ImmutableCollections" "EMPTY" "Ljava/lang/Object;" (.ref em)) (u2 : Fld Z h0 a "java/util/ImmutableCollections$List12" "e1" "Ljava/lang/Object;" (.ref gg1)) (u3 : gg1 ≠ em) :
    MetFree l own_y26 (head1 (Jvm.Cond.code own_y26 jdk_44_method_5_code 2 (some (.object "java/lang/Object")) :: ws) ({ frames := 0, cells := 0, slots := 0, locals := 0 } : Room)) (fun a_ U_ => a_ = #[(.ref a), (.int (1 : Int32))] ∧ Z.Warmed39 U_.vm ∧ U_.heap = h0) (fun _ _ _ _ _ => True) (fun _ U_ o_ U2_ => ∃ v_ L_, o_ = .returned v_ ∧ Q_rm2g1 Z a gg1 em h0 n0 v_ U2_.heap L_ ∧ FrameEnd U_ o_ U2_ L_ ({ frames := 0, cells := 0, slots := 0, locals := 0 } : Room).cells ({ frames := 0, cells := 0, slots := 0, locals := 0 } : Room).slots) := by
  refine MetFree.of_bodySF (plainFor_of_name pn_8) hisR ?_
  intro p e s m args below meth c s₁ Bd hml0 hP hK
  obtain ⟨rfl, hZ, hh⟩ := hP
  have hx := Bd.exec
  have hby := Bd.bytes
  have hml : c.maxLocals = 2 := hml0
  have hown : s.vm.findClass "java/util/ImmutableCollections$List12" = some m.cls := findClass_of_methodNamed Bd.named
  have hnm := (name_of_methodNamed Bd.named Bd.method).1
  have X0 : Stand p l e ({ frames := 0, cells := 0, slots := 0, locals := 0 } : Room) s m #[(.ref a), (.int (1 : Int32))] below meth c s₁ [] 0 0 := Stand.of_body Bd
  have e0 : s₁.heap = h0 := by rw [← hh, Bd.state]; rfl
  have N0 := Fr.nil n0
  refine own_go (A := s₁.setTop (mkF m 0 #[.val (.ref a), .val (.int (1 : Int32))] [])) (fun t_ k_ => castTop (ef_rm2g1 m a) k_) ?_
  refine own_go (A := s₁.setTop (mkF m 15 #[.val (.ref a), .val (.int (1 : Int32))] [(.ref a)])) (fun t_ k_ => ?_) ?_
  · show Steps p.tables e below (s₁.setTop (mkF m 0 #[.val (.ref a), .val (.int (1 : Int32))] [])) t_
    refine XS.iloadN X0.here hx rfl (hb hby d28_0) rfl ?_
    show Steps p.tables e below (s₁.setTop (mkF m 1 #[.val (.ref a), .val (.int (1 : Int32))] [(.int (1 : Int32))])) t_
    refine XS.ifYes X0.here hx rfl (pc0 := 1) (pc' := 9) rfl (hb hby d28_1) rfl ((if0 _ _).trans (feq (by decide : ¬ ((1 : Int32) = (0 : Int32)))).2) (by decide) (by decide) ?_
    show Steps p.tables e below (s₁.setTop (mkF m 9 #[.val (.ref a), .val (.int (1 : Int32))] [])) t_
    refine XS.iloadN X0.here hx rfl (hb hby d28_9) rfl ?_
    show Steps p.tables e below (s₁.setTop (mkF m 10 #[.val (.ref a), .val (.int (1 : Int32))] [(.int (1 : Int32))])) t_
    refine XS.iconst X0.here hx rfl (hb hby d28_10) ?_
    show Steps p.tables e below (s₁.setTop (mkF m 11 #[.val (.ref a), .val (.int (1 : Int32))] [(.int (1 : Int32)), (.int (1 : Int32))])) t_
    refine XS.icmpNo X0.here hx rfl (hb hby d28_11) rfl (teq (by decide : (1 : Int32) = (1 : Int32))).2 ?_
    show Steps p.tables e below (s₁.setTop (mkF m 14 #[.val (.ref a), .val (.int (1 : Int32))] [])) t_
    refine XS.aloadN X0.here hx rfl (hb hby d28_14) rfl rfl ?_
    exact k_
  obtain ⟨T1, X1, e1, st1⟩ := getF X0 hx hZ hown (host := "") (Or.inl (own_w hw 159 rfl)) Via.refl e0 u2 (g := (mkF m 15 #[.val (.ref a), .val (.int (1 : Int32))] [(.ref a)])) rfl rfl (hb hby d28_15)
  refine own_go st1 ?_
  obtain ⟨T2, X2, e2, st2⟩ := getS2 X1 hx hZ hown (Or.inr (own_w hw 167 rfl)) Via.refl e1 (u1.ext O0.2) (g := (mkF m 18 #[.val (.ref a), .val (.int (1 : Int32))] [(.ref gg1)])) rfl (hb hby d28_18)
  refine own_go st2 ?_
  refine own_go (A := T2.setTop (mkF m 25 #[.val (.ref a), .val (.int (1 : Int32))] [(.ref a)])) (fun t_ k_ => ?_) ?_
  · show Steps p.tables e below (T2.setTop (mkF m 21 #[.val (.ref a), .val (.int (1 : Int32))] [(.ref em), (.ref gg1)])) t_
    refine Jvm.RoadKit.acmp (g := (mkF m 21 #[.val (.ref a), .val (.int (1 : Int32))] [(.ref em), (.ref gg1)])) X2 hx rfl rfl rfl (pc0 := 21) (pc' := 24) (same := false) rfl (hb hby d28_21) rfl (decide_eq_false fun q => u3 (Value.ref.inj q)) (by decide) (by decide) ?_
    show Steps p.tables e below (T2.setTop (mkF m 24 #[.val (.ref a), .val (.int (1 : Int32))] [])) t_
    refine XS.aloadN X2.here hx rfl (hb hby d28_24) rfl rfl ?_
    exact k_
  obtain ⟨T3, X3, e3, st3⟩ := getF X2 hx hZ hown (host := "") (Or.inl (own_w hw 159 rfl)) Via.refl e2 u2 (g := (mkF m 25 #[.val (.ref a), .val (.int (1 : Int32))] [(.ref a)])) rfl rfl (hb hby d28_25)
  refine own_go st3 ?_
  obtain ⟨fs4, hr4, hrun4, hended4, hW4, hsame4⟩ := X3.leave (v := some (.ref gg1)) (fun h => by rw [Bd.returns] at h; cases h)
  refine ⟨_, _, ?_, hrun4, hended4, _, _, rfl, ?_, ⟨_, rfl⟩, hW4, hsame4.mono (by decide) (by decide)⟩
  · exact own_retA X3 hx Bd.returns rfl rfl rfl (hb hby d28_28) hr4
  · show Q_rm2g1 Z a gg1 em h0 n0 _ T3.heap _
    rw [e3]
    exact ⟨rfl, N0, rfl⟩
theorem d25_0 : decode jdk_42_method_66_code 0 = .ok (.aload_n 0, 1) := by decide +kernel
theorem d25_1 : decode jdk_42_method_66_code 1 = .ok (.aload_n 1, 1) := by decide +kernel
theorem d25_2 : decode jdk_42_method_66_code 2 = .ok (.if_acmp .ne 5, 3) := by decide +kernel
theorem d25_5 : decode jdk_42_method_66_code 5 = .ok (.iconst 1, 1) := by decide +kernel
theorem d25_6 : decode jdk_42_method_66_code 6 = .ok (.ireturn, 1) := by decide +kernel
abbrev own_y27 : MethodName := ⟨"java/lang/String", "equals", "(Ljava/lang/Object;)Z"⟩
theorem ef_rmEq (m : MethodId) (a : Addr) : entryFrame m #[(.ref a), (.ref a)] 3 = mkF m 0 #[.val (.ref a), .val (.ref a), .unset] [] := by first | (simp [entryFrame, mkF, argsToLocals, Value.category]; done) | rfl
def Q_rmEq (Z : State) (a : Addr) (h0 : Heap) (n0 : Nat) (v_ : Option Value) (h_ : Heap) (L_ : List Loc) : Prop := v_ = some (.int (1 : Int32)) ∧ Fr n0 L_ ∧ h_ = h0
set_option maxRecDepth 65536 in
set_option maxHeartbeats 40000000 in
theorem rmEq (l : Launch) (Z : State) (a0 : Array Value) (hw : ∀ d ∈ tables_1, d.before a0 Z = true) (ws : List Jvm.Cond) (a : Addr) (h0 : Heap) (n0 : Nat) (Z0 : n0 ≤ h0.size)  :
    MetFree l own_y27 (head1 (Jvm.Cond.code own_y27 jdk_42_method_66_code 3 (some .boolean) :: ws) ({ frames := 0, cells := 0, slots := 0, locals := 0 } : Room)) (fun a_ U_ => a_ = #[(.ref a), (.ref a)] ∧ Z.Warmed39 U_.vm ∧ U_.heap = h0) (fun _ _ _ _ _ => True) (fun _ U_ o_ U2_ => ∃ v_ L_, o_ = .returned v_ ∧ Q_rmEq Z a h0 n0 v_ U2_.heap L_ ∧ FrameEnd U_ o_ U2_ L_ ({ frames := 0, cells := 0, slots := 0, locals := 0 } : Room).cells ({ frames := 0, cells := 0, slots := 0, locals := 0 } : Room).slots) := by
  refine MetFree.of_bodySF (plainFor_of_name pn_1) hisR ?_
  intro p e s m args below meth c s₁ Bd hml0 hP hK
  obtain ⟨rfl, hZ, hh⟩ := hP
  have hx := Bd.exec
  have hby := Bd.bytes
  have hml : c.maxLocals = 3 := hml0
  have hown : s.vm.findClass "java/lang/String" = some m.cls := findClass_of_methodNamed Bd.named
  have hnm := (name_of_methodNamed Bd.named Bd.method).1
  have X0 : Stand p l e ({ frames := 0, cells := 0, slots := 0, locals := 0 } : Room) s m #[(.ref a), (.ref a)] below meth c s₁ [] 0 0 := Stand.of_body Bd
  have e0 : s₁.heap = h0 := by rw [← hh, Bd.state]; rfl
  have N0 := Fr.nil n0
  refine own_go (A := s₁.setTop (mkF m 0 #[.val (.ref a), .val (.ref a), .unset] [])) (fun t_ k_ => castTop (ef_rmEq m a) k_) ?_
  refine own_go (A := s₁.setTop (mkF m 6 #[.val (.ref a), .val (.ref a), .unset] [(.int (1 : Int32))])) (fun t_ k_ => ?_) ?_
  · show Steps p.tables e below (s₁.setTop (mkF m 0 #[.val (.ref a), .val (.ref a), .unset] [])) t_
    refine XS.aloadN X0.here hx rfl (hb hby d25_0) rfl rfl ?_
    show Steps p.tables e below (s₁.setTop (mkF m 1 #[.val (.ref a), .val (.ref a), .unset] [(.ref a)])) t_
    refine XS.aloadN X0.here hx rfl (hb hby d25_1) rfl rfl ?_
    show Steps p.tables e below (s₁.setTop (mkF m 2 #[.val (.ref a), .val (.ref a), .unset] [(.ref a), (.ref a)])) t_
    refine Jvm.RoadKit.acmp (g := (mkF m 2 #[.val (.ref a), .val (.ref a), .unset] [(.ref a), (.ref a)])) X0 hx rfl rfl rfl (pc0 := 2) (pc' := 5) (same := true) rfl (hb hby d25_2) rfl (decide_eq_true rfl) (by decide) (by decide) ?_
    show Steps p.tables e below (s₁.setTop (mkF m 5 #[.val (.ref a), .val (.ref a), .unset] [])) t_
    refine XS.iconst X0.here hx rfl (hb hby d25_5) ?_
    exact k_
  obtain ⟨fs1, hr1, hrun1, hended1, hW1, hsame1⟩ := X0.leave (v := some (.int (1 : Int32))) (fun h => by rw [Bd.returns] at h; cases h)
  refine ⟨_, _, ?_, hrun1, hended1, _, _, rfl, ?_, ⟨_, rfl⟩, hW1, hsame1.mono (by decide) (by decide)⟩
  · exact retN X0 hx (t := .boolean) Bd.returns (by simp) (hb hby d25_6) hr1
  · show Q_rmEq Z a h0 n0 _ s₁.heap _
    rw [e0]
    exact ⟨rfl, N0, rfl⟩
theorem own_and3 (p : Int32) : (p &&& (3 : Int32)) = (0 : Int32) ∨ (p &&& (3 : Int32)) = (1 : Int32) ∨ (p &&& (3 : Int32)) = (2 : Int32) ∨ (p &&& (3 : Int32)) = (3 : Int32) := by
  have h1 := c_and p 3 (by decide)
  rw [show ((3 : Int32).toInt) = 3 from by decide] at h1
  have h3 : (p &&& (3 : Int32)).toInt = 0 ∨ (p &&& (3 : Int32)).toInt = 1 ∨ (p &&& (3 : Int32)).toInt = 2 ∨ (p &&& (3 : Int32)).toInt = 3 := by omega
  rcases h3 with h | h | h | h
  · exact Or.inl (Int32.toInt_inj.mp (h.trans (by decide)))
  · exact Or.inr (Or.inl (Int32.toInt_inj.mp (h.trans (by decide))))
  · exact Or.inr (Or.inr (Or.inl (Int32.toInt_inj.mp (h.trans (by decide)))))
  · exact Or.inr (Or.inr (Or.inr (Int32.toInt_inj.mp (h.trans (by decide)))))
theorem pd_16 : parseMethodDescriptor "(II)Ljava/lang/String;" = some ⟨[.int, .int], some (.object "java/lang/String")⟩ := by decide +kernel
theorem pd_17 : parseMethodDescriptor "([Ljava/lang/String;)Lcom/example/portcullis/portcullis/authorization/Vote;" = some ⟨[(.array (.object "java/lang/String"))], some (.object "com/example/portcullis/portcullis/authorization/Vote")⟩ := by decide +kernel
theorem pd_18 : parseMethodDescriptor "()Z" = some ⟨[], some .boolean⟩ := by decide +kernel
theorem pd_19 : parseMethodDescriptor "()Ljava/util/List;" = some ⟨[], some (.object "java/util/List")⟩ := by decide +kernel
theorem pd_20 : parseMethodDescriptor "()I" = some ⟨[], some .int⟩ := by decide +kernel
abbrev own_y28 : MethodName := ⟨"java/util/List", "size", "()I"⟩
theorem pd_21 : parseMethodDescriptor "(I)Ljava/lang/Object;" = some ⟨[.int], some (.object "java/lang/Object")⟩ := by decide +kernel
abbrev own_y29 : MethodName := ⟨"java/util/List", "get", "(I)Ljava/lang/Object;"⟩
theorem pd_22 : parseMethodDescriptor "(Ljava/lang/Object;)Z" = some ⟨[(.object "java/lang/Object")], some .boolean⟩ := by decide +kernel
theorem ef_rm0 (m : MethodId) (p1 : Int32) (p2 : Int32) (p3 : Int32) (p4 : Int32) (p5 : Int32) : entryFrame m #[(.int p1), (.int p2), (.int p3), (.int p4), (.int p5)] maxLocals = mkF m 0 #[.val (.int p1), .val (.int p2), .val (.int p3), .val (.int p4), .val (.int p5), .unset, .unset, .unset, .unset, .unset, .unset, .unset, .unset] [] := by first | (simp [entryFrame, mkF, argsToLocals, Value.category, maxLocals]; done) | rfl
def Q_rm0 (Z : State) (p1 : Int32) (p2 : Int32) (p3 : Int32) (p4 : Int32) (p5 : Int32) (cs : Int32) (em : Addr) (dn : Addr) (li0 : Addr) (es0 : Addr) (ka : ClassId) (h0 : Heap) (n0 : Nat) (v_ : Option Value) (h_ : Heap) (L_ : List Loc) : Prop := v_ = some (.int (1 : Int32)) ∧ Fr n0 L_ ∧ Keep h0 h_ []
set_option maxRecDepth 65536 in
set_option maxHeartbeats 40000000 in
theorem rm0 (l : Launch) (Z : State) (a0 : Array Value) (hw : ∀ d ∈ tables_1, d.before a0 Z = true) (ws : List Jvm.Cond) (p1 : Int32) (p2 : Int32) (p3 : Int32) (p4 : Int32) (p5 : Int32) (cs : Int32) (em : Addr) (dn : Addr) (li0 : Addr) (es0 : Addr) (ka : ClassId) (h0 : Heap) (n0 : Nat) (Z0 : n0 ≤ h0.size) (O0 : Old Z n0 h0) (u1 : Sta Z Z.heap "java/lang/String" "COMPACT_STRINGS" "Z" (.int cs)) (hcs : ¬ (cs = (0 : Int32))) (u3 : Sta Z Z.heap "java/util/ImmutableCollections" "EMPTY" "Ljava/lang/Object;" (.ref em)) (u4 : Exa Z Z.heap em "java/lang/Object") (u5 : Sta Z Z.heap "com/example/portcullis/portcullis/authorization/Vote" "DENY" "Lcom/example/portcullis/portcullis/authorization/Vote;" (.ref dn)) (u6 : Exa Z Z.heap dn "com/example/portcullis/portcullis/authorization/Vote") (u7 : Fld Z Z.heap dn "com/example/portcullis/portcullis/authorization/Vote" "allowed" "Z" (.int (0 : Int32))) (u8 : Fld Z Z.heap dn "com/example/portcullis/portcullis/authorization/Vote" "reasons" "Ljava/util/List;" (.ref li0)) (u9 : Exa Z Z.heap li0 "java/util/ImmutableCollections$ListN") (u10 : Fld Z Z.heap li0 "java/util/ImmutableCollections$ListN" "elements" "[Ljava/lang/Object;" (.ref es0)) (u11 : Arv Z Z.heap es0 ka (.object "java/lang/Object") (0 : Int32) [] .null) :
    MetFree l x (head1 (Jvm.Cond.code x code maxLocals ret :: ws) room_1) (fun a_ U_ => a_ = #[(.int p1), (.int p2), (.int p3), (.int p4), (.int p5)] ∧ Z.Warmed39 U_.vm ∧ U_.heap = h0 ∧ CHv Z own_EL U_.vm h0) (fun _ _ _ _ _ => True) (fun _ U_ o_ U2_ => ∃ v_ L_, o_ = .returned v_ ∧ Q_rm0 Z p1 p2 p3 p4 p5 cs em dn li0 es0 ka h0 n0 v_ U2_.heap L_ ∧ CHr Z own_EL U_.vm U_.heap U2_.vm U2_.heap ∧ ReturnedEndW U_ o_ U2_ L_ room_1.cells room_1.slots) := by
  refine MetFree.of_bodySF (plainFor_of_name pn_3) hisR ?_
  intro p e s m args below meth c s₁ Bd hml0 hP hK
  obtain ⟨rfl, hZ, hh, hC⟩ := hP
  have hx := Bd.exec
  have hby := Bd.bytes
  have hml : c.maxLocals = 13 := hml0
  have hown : s.vm.findClass "com/example/portcullis/portcullis/authorization/VoteDenyPinLaw" = some m.cls := findClass_of_methodNamed Bd.named
  have hnm := (name_of_methodNamed Bd.named Bd.method).1
  have X0 : Stand p l e room_1 (s.setVm s.vm) m #[(.int p1), (.int p2), (.int p3), (.int p4), (.int p5)] below meth c s₁ [] 0 0 := Stand.of_body Bd
  have e0 : s₁.heap = h0 := by rw [← hh, Bd.state]; rfl
  have N0 := Fr.nil n0
  have hS : s.Since s.vm h0.size := (State.WarmedH.refl s).since _
  have hk := Nat.le_refl h0.size
  have hSA := own_strA hw
  have hEL := own_EW hw
  have R0 : CHr Z own_EL s.vm h0 s.vm h0 := CHr.refl hC
  refine own_go (A := s₁.setTop (mkF m 0 #[.val (.int p1), .val (.int p2), .val (.int p3), .val (.int p4), .val (.int p5), .unset, .unset, .unset, .unset, .unset, .unset, .unset, .unset] [])) (fun t_ k_ => castTop (ef_rm0 m p1 p2 p3 p4 p5) k_) ?_
  refine own_go (A := s₁.setTop (mkF m 3 #[.val (.int p1), .val (.int p2), .val (.int p3), .val (.int p4), .val (.int p5), .unset, .unset, .unset, .unset, .unset, .unset, .unset, .unset] [(.int (p1 &&& (3 : Int32)))])) (fun t_ k_ => ?_) ?_
  · show Steps p.tables e below (s₁.setTop (mkF m 0 #[.val (.int p1), .val (.int p2), .val (.int p3), .val (.int p4), .val (.int p5), .unset, .unset, .unset, .unset, .unset, .unset, .unset, .unset] [])) t_
    refine XS.iloadN X0.here hx rfl (hb hby at_0) rfl ?_
    show Steps p.tables e below (s₁.setTop (mkF m 1 #[.val (.int p1), .val (.int p2), .val (.int p3), .val (.int p4), .val (.int p5), .unset, .unset, .unset, .unset, .unset, .unset, .unset, .unset] [(.int p1)])) t_
    refine XS.iconst X0.here hx rfl (hb hby at_1) ?_
    show Steps p.tables e below (s₁.setTop (mkF m 2 #[.val (.int p1), .val (.int p2), .val (.int p3), .val (.int p4), .val (.int p5), .unset, .unset, .unset, .unset, .unset, .unset, .unset, .unset] [(.int (3 : Int32)), (.int p1)])) t_
    refine XS.iand X0.here hx rfl (hb hby at_2) rfl ?_
    exact k_
  rcases own_and3 p1 with hm1 | hm1 | hm1 | hm1
  · rw [hm1]
    refine own_go (A := s₁.setTop (mkF m 12 #[.val (.int p1), .val (.int p2), .val (.int p3), .val (.int p4), .val (.int p5), .val (.int (0 : Int32)), .unset, .unset, .unset, .unset, .unset, .unset, .unset] [(.int ((p5 &&& (3 : Int32)) % (3 : Int32))), (.int p2)])) (fun t_ k_ => ?_) ?_
    · show Steps p.tables e below (s₁.setTop (mkF m 3 #[.val (.int p1), .val (.int p2), .val (.int p3), .val (.int p4), .val (.int p5), .unset, .unset, .unset, .unset, .unset, .unset, .unset, .unset] [(.int (0 : Int32))])) t_
      refine XS.istore X0.here hx rfl (hb hby at_3) rfl (l' := #[.val (.int p1), .val (.int p2), .val (.int p3), .val (.int p4), .val (.int p5), .val (.int (0 : Int32)), .unset, .unset, .unset, .unset, .unset, .unset, .unset]) rfl ?_
      show Steps p.tables e below (s₁.setTop (mkF m 5 #[.val (.int p1), .val (.int p2), .val (.int p3), .val (.int p4), .val (.int p5), .val (.int (0 : Int32)), .unset, .unset, .unset, .unset, .unset, .unset, .unset] [])) t_
      refine XS.iloadN X0.here hx rfl (hb hby at_5) rfl ?_
      show Steps p.tables e below (s₁.setTop (mkF m 6 #[.val (.int p1), .val (.int p2), .val (.int p3), .val (.int p4), .val (.int p5), .val (.int (0 : Int32)), .unset, .unset, .unset, .unset, .unset, .unset, .unset] [(.int p2)])) t_
      refine XS.iload X0.here hx rfl (hb hby at_6) rfl ?_
      show Steps p.tables e below (s₁.setTop (mkF m 8 #[.val (.int p1), .val (.int p2), .val (.int p3), .val (.int p4), .val (.int p5), .val (.int (0 : Int32)), .unset, .unset, .unset, .unset, .unset, .unset, .unset] [(.int p5), (.int p2)])) t_
      refine XS.iconst X0.here hx rfl (hb hby at_8) ?_
      show Steps p.tables e below (s₁.setTop (mkF m 9 #[.val (.int p1), .val (.int p2), .val (.int p3), .val (.int p4), .val (.int p5), .val (.int (0 : Int32)), .unset, .unset, .unset, .unset, .unset, .unset, .unset] [(.int (3 : Int32)), (.int p5), (.int p2)])) t_
      refine XS.iand X0.here hx rfl (hb hby at_9) rfl ?_
      show Steps p.tables e below (s₁.setTop (mkF m 10 #[.val (.int p1), .val (.int p2), .val (.int p3), .val (.int p4), .val (.int p5), .val (.int (0 : Int32)), .unset, .unset, .unset, .unset, .unset, .unset, .unset] [(.int (p5 &&& (3 : Int32))), (.int p2)])) t_
      refine XS.iconst X0.here hx rfl (hb hby at_10) ?_
      show Steps p.tables e below (s₁.setTop (mkF m 11 #[.val (.int p1), .val (.int p2), .val (.int p3), .val (.int p4), .val (.int p5), .val (.int (0 : Int32)), .unset, .unset, .unset, .unset, .unset, .unset, .unset] [(.int (3 : Int32)), (.int (p5 &&& (3 : Int32))), (.int p2)])) t_
      refine iremM (g := (mkF m 11 #[.val (.int p1), .val (.int p2), .val (.int p3), .val (.int p4), .val (.int p5), .val (.int (0 : Int32)), .unset, .unset, .unset, .unset, .unset, .unset, .unset] [(.int (3 : Int32)), (.int (p5 &&& (3 : Int32))), (.int p2)])) X0 hx rfl (hb hby at_11) rfl (by decide : ¬ ((3 : Int32) = (0 : Int32))) ?_
      exact k_
    obtain ⟨y2, hqy2⟩ : ∃ z : Int32, z = ((p5 &&& (3 : Int32)) % (3 : Int32)) := ⟨_, rfl⟩
    rw [← hqy2]
    obtain ⟨_, _, ⟨T3, L3, k3, n3⟩, -, X3, hs3, gs3, ⟨Lc3, hQ3, l3, y3, z3, r3⟩, st3⟩ := callSS X0 hx (y := own_y9) hown (mvT hZ (own_w hw 0 rfl)) (mvT hZ (own_w hw 1 rfl)) (mvT hZ (own_w hw 2 rfl)) (mvT hZ (own_w hw 3 rfl)) (by decide) (backOfSH (W := 0) (rmMk l Z a0 hw [] p2 y2 cs h0 n0 Z0 O0 u1 hcs) hZ (own_w hw 3 rfl) (own_w hw 2 rfl) (by decide) (by decide) hEL R0.1) (g := (mkF m 12 #[.val (.int p1), .val (.int p2), .val (.int p3), .val (.int p4), .val (.int p5), .val (.int (0 : Int32)), .unset, .unset, .unset, .unset, .unset, .unset, .unset] [(.int y2), (.int p2)])) rfl (by rw [hml]; rfl) (argsL := [(.int p2), (.int y2)]) (rest := []) (lenOf pd_16 rfl) rfl (by show 2 * 0 + _ ≤ _; exact Nat.le_of_eq rfl) (hb hby at_12) (fun _ _ => ⟨rfl, e0, (by decide : 0 + 6 ≤ _), (by decide : 0 + 12 ≤ _)⟩)
    dsimp only [Pt.U, Pt.locs, Pt.cells, Pt.slots] at X3 l3 y3 z3 st3 hQ3 hs3 gs3 r3
    subst l3 y3 z3
    obtain ⟨X3, hS, hZ, hown⟩ := rebS hS (by rw [e0]; exact hk) X3 hs3 gs3 hZ hown
    obtain ⟨b_3, rfl, N3q, Kc3, r3_0, r3_1⟩ := hQ3
    have N3 := Fr.app N0 N3q
    refine own_via st3 ?_
    have hk := Nat.le_refl T3.heap.size
    have K3 : Keep h0 T3.heap [] := (Keep.refl h0 []).trans Kc3 all0
    have R3 := R0.trans r3
    have O3 := O0.keep Kc3 all0
    refine own_go (A := T3.setTop (mkF m 26 #[.val (.int p1), .val (.int p2), .val (.int p3), .val (.int p4), .val (.int p5), .val (.int (0 : Int32)), .val (.ref b_3), .unset, .unset, .unset, .unset, .unset, .unset] [(.int ((((p5).toUInt32 >>> ((2 : Int32) &&& 31).toUInt32).toInt32 &&& (3 : Int32)) % (3 : Int32))), (.int p3)])) (fun t_ k_ => ?_) ?_
    · show Steps p.tables e below (T3.setTop (mkF m 15 #[.val (.int p1), .val (.int p2), .val (.int p3), .val (.int p4), .val (.int p5), .val (.int (0 : Int32)), .unset, .unset, .unset, .unset, .unset, .unset, .unset] [(.ref b_3)])) t_
      refine XS.astore X3.here hx rfl (hb hby at_15) rfl rfl (l' := #[.val (.int p1), .val (.int p2), .val (.int p3), .val (.int p4), .val (.int p5), .val (.int (0 : Int32)), .val (.ref b_3), .unset, .unset, .unset, .unset, .unset, .unset]) rfl ?_
      show Steps p.tables e below (T3.setTop (mkF m 17 #[.val (.int p1), .val (.int p2), .val (.int p3), .val (.int p4), .val (.int p5), .val (.int (0 : Int32)), .val (.ref b_3), .unset, .unset, .unset, .unset, .unset, .unset] [])) t_
      refine XS.iloadN X3.here hx rfl (hb hby at_17) rfl ?_
      show Steps p.tables e below (T3.setTop (mkF m 18 #[.val (.int p1), .val (.int p2), .val (.int p3), .val (.int p4), .val (.int p5), .val (.int (0 : Int32)), .val (.ref b_3), .unset, .unset, .unset, .unset, .unset, .unset] [(.int p3)])) t_
      refine XS.iload X3.here hx rfl (hb hby at_18) rfl ?_
      show Steps p.tables e below (T3.setTop (mkF m 20 #[.val (.int p1), .val (.int p2), .val (.int p3), .val (.int p4), .val (.int p5), .val (.int (0 : Int32)), .val (.ref b_3), .unset, .unset, .unset, .unset, .unset, .unset] [(.int p5), (.int p3)])) t_
      refine XS.iconst X3.here hx rfl (hb hby at_20) ?_
      show Steps p.tables e below (T3.setTop (mkF m 21 #[.val (.int p1), .val (.int p2), .val (.int p3), .val (.int p4), .val (.int p5), .val (.int (0 : Int32)), .val (.ref b_3), .unset, .unset, .unset, .unset, .unset, .unset] [(.int (2 : Int32)), (.int p5), (.int p3)])) t_
      refine XS.iushr X3.here hx rfl (hb hby at_21) rfl ?_
      show Steps p.tables e below (T3.setTop (mkF m 22 #[.val (.int p1), .val (.int p2), .val (.int p3), .val (.int p4), .val (.int p5), .val (.int (0 : Int32)), .val (.ref b_3), .unset, .unset, .unset, .unset, .unset, .unset] [(.int ((p5).toUInt32 >>> ((2 : Int32) &&& 31).toUInt32).toInt32), (.int p3)])) t_
      refine XS.iconst X3.here hx rfl (hb hby at_22) ?_
      show Steps p.tables e below (T3.setTop (mkF m 23 #[.val (.int p1), .val (.int p2), .val (.int p3), .val (.int p4), .val (.int p5), .val (.int (0 : Int32)), .val (.ref b_3), .unset, .unset, .unset, .unset, .unset, .unset] [(.int (3 : Int32)), (.int ((p5).toUInt32 >>> ((2 : Int32) &&& 31).toUInt32).toInt32), (.int p3)])) t_
      refine XS.iand X3.here hx rfl (hb hby at_23) rfl ?_
      show Steps p.tables e below (T3.setTop (mkF m 24 #[.val (.int p1), .val (.int p2), .val (.int p3), .val (.int p4), .val (.int p5), .val (.int (0 : Int32)), .val (.ref b_3), .unset, .unset, .unset, .unset, .unset, .unset] [(.int (((p5).toUInt32 >>> ((2 : Int32) &&& 31).toUInt32).toInt32 &&& (3 : Int32))), (.int p3)])) t_
      refine XS.iconst X3.here hx rfl (hb hby at_24) ?_
      show Steps p.tables e below (T3.setTop (mkF m 25 #[.val (.int p1), .val (.int p2), .val (.int p3), .val (.int p4), .val (.int p5), .val (.int (0 : Int32)), .val (.ref b_3), .unset, .unset, .unset, .unset, .unset, .unset] [(.int (3 : Int32)), (.int (((p5).toUInt32 >>> ((2 : Int32) &&& 31).toUInt32).toInt32 &&& (3 : Int32))), (.int p3)])) t_
      refine iremM (g := (mkF m 25 #[.val (.int p1), .val (.int p2), .val (.int p3), .val (.int p4), .val (.int p5), .val (.int (0 : Int32)), .val (.ref b_3), .unset, .unset, .unset, .unset, .unset, .unset] [(.int (3 : Int32)), (.int (((p5).toUInt32 >>> ((2 : Int32) &&& 31).toUInt32).toInt32 &&& (3 : Int32))), (.int p3)])) X3 hx rfl (hb hby at_25) rfl (by decide : ¬ ((3 : Int32) = (0 : Int32))) ?_
      exact k_
    obtain ⟨y4, hqy4⟩ : ∃ z : Int32, z = ((((p5).toUInt32 >>> ((2 : Int32) &&& 31).toUInt32).toInt32 &&& (3 : Int32)) % (3 : Int32)) := ⟨_, rfl⟩
    rw [← hqy4]
    obtain ⟨_, _, ⟨T5, L5, k5, n5⟩, -, X5, hs5, gs5, ⟨Lc5, hQ5, l5, y5, z5, r5⟩, st5⟩ := callSS X3 hx (y := own_y9) hown (mvT hZ (own_w hw 0 rfl)) (mvT hZ (own_w hw 1 rfl)) (mvT hZ (own_w hw 2 rfl)) (mvT hZ (own_w hw 3 rfl)) (by decide) (backOfSH (W := 0) (rmMk l Z a0 hw [] p3 y4 cs T3.heap n0 (Nat.le_trans Z0 K3.1) O3 u1 hcs) hZ (own_w hw 3 rfl) (own_w hw 2 rfl) (by decide) (by decide) hEL R3.1) (g := (mkF m 26 #[.val (.int p1), .val (.int p2), .val (.int p3), .val (.int p4), .val (.int p5), .val (.int (0 : Int32)), .val (.ref b_3), .unset, .unset, .unset, .unset, .unset, .unset] [(.int y4), (.int p3)])) rfl (by rw [hml]; rfl) (argsL := [(.int p3), (.int y4)]) (rest := []) (lenOf pd_16 rfl) rfl (by show 2 * 0 + _ ≤ _; exact Nat.le_of_eq rfl) (hb hby at_26) (fun _ _ => ⟨rfl, rfl, (by decide : 6 + 6 ≤ _), (by decide : 12 + 12 ≤ _)⟩)
    dsimp only [Pt.U, Pt.locs, Pt.cells, Pt.slots] at X5 l5 y5 z5 st5 hQ5 hs5 gs5 r5
    subst l5 y5 z5
    obtain ⟨X5, hS, hZ, hown⟩ := rebS hS hk X5 hs5 gs5 hZ hown
    obtain ⟨b_5, rfl, N5q, Kc5, r5_0, r5_1⟩ := hQ5
    have N5 := Fr.app N3 N5q
    refine own_via st5 ?_
    have hk := Nat.le_refl T5.heap.size
    have K5 : Keep h0 T5.heap [] := K3.trans Kc5 all0
    have R5 := R3.trans r5
    have O5 := O3.keep Kc5 all0
    refine own_go (A := T5.setTop (mkF m 40 #[.val (.int p1), .val (.int p2), .val (.int p3), .val (.int p4), .val (.int p5), .val (.int (0 : Int32)), .val (.ref b_3), .val (.ref b_5), .unset, .unset, .unset, .unset, .unset] [(.int ((((p5).toUInt32 >>> ((4 : Int32) &&& 31).toUInt32).toInt32 &&& (3 : Int32)) % (3 : Int32))), (.int p4)])) (fun t_ k_ => ?_) ?_
    · show Steps p.tables e below (T5.setTop (mkF m 29 #[.val (.int p1), .val (.int p2), .val (.int p3), .val (.int p4), .val (.int p5), .val (.int (0 : Int32)), .val (.ref b_3), .unset, .unset, .unset, .unset, .unset, .unset] [(.ref b_5)])) t_
      refine XS.astore X5.here hx rfl (hb hby at_29) rfl rfl (l' := #[.val (.int p1), .val (.int p2), .val (.int p3), .val (.int p4), .val (.int p5), .val (.int (0 : Int32)), .val (.ref b_3), .val (.ref b_5), .unset, .unset, .unset, .unset, .unset]) rfl ?_
      show Steps p.tables e below (T5.setTop (mkF m 31 #[.val (.int p1), .val (.int p2), .val (.int p3), .val (.int p4), .val (.int p5), .val (.int (0 : Int32)), .val (.ref b_3), .val (.ref b_5), .unset, .unset, .unset, .unset, .unset] [])) t_
      refine XS.iloadN X5.here hx rfl (hb hby at_31) rfl ?_
      show Steps p.tables e below (T5.setTop (mkF m 32 #[.val (.int p1), .val (.int p2), .val (.int p3), .val (.int p4), .val (.int p5), .val (.int (0 : Int32)), .val (.ref b_3), .val (.ref b_5), .unset, .unset, .unset, .unset, .unset] [(.int p4)])) t_
      refine XS.iload X5.here hx rfl (hb hby at_32) rfl ?_
      show Steps p.tables e below (T5.setTop (mkF m 34 #[.val (.int p1), .val (.int p2), .val (.int p3), .val (.int p4), .val (.int p5), .val (.int (0 : Int32)), .val (.ref b_3), .val (.ref b_5), .unset, .unset, .unset, .unset, .unset] [(.int p5), (.int p4)])) t_
      refine XS.iconst X5.here hx rfl (hb hby at_34) ?_
      show Steps p.tables e below (T5.setTop (mkF m 35 #[.val (.int p1), .val (.int p2), .val (.int p3), .val (.int p4), .val (.int p5), .val (.int (0 : Int32)), .val (.ref b_3), .val (.ref b_5), .unset, .unset, .unset, .unset, .unset] [(.int (4 : Int32)), (.int p5), (.int p4)])) t_
      refine XS.iushr X5.here hx rfl (hb hby at_35) rfl ?_
      show Steps p.tables e below (T5.setTop (mkF m 36 #[.val (.int p1), .val (.int p2), .val (.int p3), .val (.int p4), .val (.int p5), .val (.int (0 : Int32)), .val (.ref b_3), .val (.ref b_5), .unset, .unset, .unset, .unset, .unset] [(.int ((p5).toUInt32 >>> ((4 : Int32) &&& 31).toUInt32).toInt32), (.int p4)])) t_
      refine XS.iconst X5.here hx rfl (hb hby at_36) ?_
      show Steps p.tables e below (T5.setTop (mkF m 37 #[.val (.int p1), .val (.int p2), .val (.int p3), .val (.int p4), .val (.int p5), .val (.int (0 : Int32)), .val (.ref b_3), .val (.ref b_5), .unset, .unset, .unset, .unset, .unset] [(.int (3 : Int32)), (.int ((p5).toUInt32 >>> ((4 : Int32) &&& 31).toUInt32).toInt32), (.int p4)])) t_
      refine XS.iand X5.here hx rfl (hb hby at_37) rfl ?_
      show Steps p.tables e below (T5.setTop (mkF m 38 #[.val (.int p1), .val (.int p2), .val (.int p3), .val (.int p4), .val (.int p5), .val (.int (0 : Int32)), .val (.ref b_3), .val (.ref b_5), .unset, .unset, .unset, .unset, .unset] [(.int (((p5).toUInt32 >>> ((4 : Int32) &&& 31).toUInt32).toInt32 &&& (3 : Int32))), (.int p4)])) t_
      refine XS.iconst X5.here hx rfl (hb hby at_38) ?_
      show Steps p.tables e below (T5.setTop (mkF m 39 #[.val (.int p1), .val (.int p2), .val (.int p3), .val (.int p4), .val (.int p5), .val (.int (0 : Int32)), .val (.ref b_3), .val (.ref b_5), .unset, .unset, .unset, .unset, .unset] [(.int (3 : Int32)), (.int (((p5).toUInt32 >>> ((4 : Int32) &&& 31).toUInt32).toInt32 &&& (3 : Int32))), (.int p4)])) t_
      refine iremM (g := (mkF m 39 #[.val (.int p1), .val (.int p2), .val (.int p3), .val (.int p4), .val (.int p5), .val (.int (0 : Int32)), .val (.ref b_3), .val (.ref b_5), .unset, .unset, .unset, .unset, .unset] [(.int (3 : Int32)), (.int (((p5).toUInt32 >>> ((4 : Int32) &&& 31).toUInt32).toInt32 &&& (3 : Int32))), (.int p4)])) X5 hx rfl (hb hby at_39) rfl (by decide : ¬ ((3 : Int32) = (0 : Int32))) ?_
      exact k_
    obtain ⟨y6, hqy6⟩ : ∃ z : Int32, z = ((((p5).toUInt32 >>> ((4 : Int32) &&& 31).toUInt32).toInt32 &&& (3 : Int32)) % (3 : Int32)) := ⟨_, rfl⟩
    rw [← hqy6]
    obtain ⟨_, _, ⟨T7, L7, k7, n7⟩, -, X7, hs7, gs7, ⟨Lc7, hQ7, l7, y7, z7, r7⟩, st7⟩ := callSS X5 hx (y := own_y9) hown (mvT hZ (own_w hw 0 rfl)) (mvT hZ (own_w hw 1 rfl)) (mvT hZ (own_w hw 2 rfl)) (mvT hZ (own_w hw 3 rfl)) (by decide) (backOfSH (W := 0) (rmMk l Z a0 hw [] p4 y6 cs T5.heap n0 (Nat.le_trans Z0 K5.1) O5 u1 hcs) hZ (own_w hw 3 rfl) (own_w hw 2 rfl) (by decide) (by decide) hEL R5.1) (g := (mkF m 40 #[.val (.int p1), .val (.int p2), .val (.int p3), .val (.int p4), .val (.int p5), .val (.int (0 : Int32)), .val (.ref b_3), .val (.ref b_5), .unset, .unset, .unset, .unset, .unset] [(.int y6), (.int p4)])) rfl (by rw [hml]; rfl) (argsL := [(.int p4), (.int y6)]) (rest := []) (lenOf pd_16 rfl) rfl (by show 2 * 0 + _ ≤ _; exact Nat.le_of_eq rfl) (hb hby at_40) (fun _ _ => ⟨rfl, rfl, (by decide : 12 + 6 ≤ _), (by decide : 24 + 12 ≤ _)⟩)
    dsimp only [Pt.U, Pt.locs, Pt.cells, Pt.slots] at X7 l7 y7 z7 st7 hQ7 hs7 gs7 r7
    subst l7 y7 z7
    obtain ⟨X7, hS, hZ, hown⟩ := rebS hS hk X7 hs7 gs7 hZ hown
    obtain ⟨b_7, rfl, N7q, Kc7, r7_0, r7_1⟩ := hQ7
    have N7 := Fr.app N5 N7q
    refine own_via st7 ?_
    have hk := Nat.le_refl T7.heap.size
    have K7 : Keep h0 T7.heap [] := K5.trans Kc7 all0
    have R7 := R5.trans r7
    have O7 := O5.keep Kc7 all0
    refine own_go (A := T7.setTop (mkF m 51 #[.val (.int p1), .val (.int p2), .val (.int p3), .val (.int p4), .val (.int p5), .val (.int (0 : Int32)), .val (.ref b_3), .val (.ref b_5), .val (.ref b_7), .unset, .unset, .unset, .unset] [(.int (0 : Int32))])) (fun t_ k_ => ?_) ?_
    · show Steps p.tables e below (T7.setTop (mkF m 43 #[.val (.int p1), .val (.int p2), .val (.int p3), .val (.int p4), .val (.int p5), .val (.int (0 : Int32)), .val (.ref b_3), .val (.ref b_5), .unset, .unset, .unset, .unset, .unset] [(.ref b_7)])) t_
      refine XS.astore X7.here hx rfl (hb hby at_43) rfl rfl (l' := #[.val (.int p1), .val (.int p2), .val (.int p3), .val (.int p4), .val (.int p5), .val (.int (0 : Int32)), .val (.ref b_3), .val (.ref b_5), .val (.ref b_7), .unset, .unset, .unset, .unset]) rfl ?_
      show Steps p.tables e below (T7.setTop (mkF m 45 #[.val (.int p1), .val (.int p2), .val (.int p3), .val (.int p4), .val (.int p5), .val (.int (0 : Int32)), .val (.ref b_3), .val (.ref b_5), .val (.ref b_7), .unset, .unset, .unset, .unset] [])) t_
      refine XS.iload X7.here hx rfl (hb hby at_45) rfl ?_
      show Steps p.tables e below (T7.setTop (mkF m 47 #[.val (.int p1), .val (.int p2), .val (.int p3), .val (.int p4), .val (.int p5), .val (.int (0 : Int32)), .val (.ref b_3), .val (.ref b_5), .val (.ref b_7), .unset, .unset, .unset, .unset] [(.int (0 : Int32))])) t_
      refine XS.ifNo X7.here hx rfl (hb hby at_47) rfl ((if0 _ _).trans (teq (by decide : (0 : Int32) = (0 : Int32))).2) ?_
      show Steps p.tables e below (T7.setTop (mkF m 50 #[.val (.int p1), .val (.int p2), .val (.int p3), .val (.int p4), .val (.int p5), .val (.int (0 : Int32)), .val (.ref b_3), .val (.ref b_5), .val (.ref b_7), .unset, .unset, .unset, .unset] [])) t_
      refine XS.iconst X7.here hx rfl (hb hby at_50) ?_
      exact k_
    obtain ⟨T8, h8, k8, X8, e8, E8, A8, V8, st8⟩ := newR X7 hx hZ hown (own_w hw 4 rfl) (own_w hw 26 rfl) rfl (g := (mkF m 51 #[.val (.int p1), .val (.int p2), .val (.int p3), .val (.int p4), .val (.int p5), .val (.int (0 : Int32)), .val (.ref b_3), .val (.ref b_5), .val (.ref b_7), .unset, .unset, .unset, .unset] [(.int (0 : Int32))])) rfl (hb hby at_51) rfl (by decide) (cap := 0) (by decide) (by decide) (by decide) (by decide)
    obtain ⟨b8, g8⟩ : ∃ z, z = T7.heap.size := ⟨_, rfl⟩
    rw [← g8] at A8 st8
    refine own_go st8 ?_
    have K8 : Keep h0 h8 [] := K7.ext E8
    have r8 := CHr.ext E8 R7.1
    have R8 := R7.trans r8
    have hk := Nat.le_trans hk E8.1
    have O8 := O7.ext E8
    have Q8 := Safe.ext E8 R7.1 (Safe.new (Nat.le_of_eq g8.symm))
    have B8 : Arv Z h8 b8 k8 (.object "java/lang/String") (0 : Int32) [] .null := Arv.new A8 (by decide)
    refine own_go (A := T8.setTop (mkF m 125 #[.val (.int p1), .val (.int p2), .val (.int p3), .val (.int p4), .val (.int p5), .val (.int (0 : Int32)), .val (.ref b_3), .val (.ref b_5), .val (.ref b_7), .val (.ref b8), .unset, .unset, .unset] [])) (fun t_ k_ => ?_) ?_
    · show Steps p.tables e below (T8.setTop (mkF m 54 #[.val (.int p1), .val (.int p2), .val (.int p3), .val (.int p4), .val (.int p5), .val (.int (0 : Int32)), .val (.ref b_3), .val (.ref b_5), .val (.ref b_7), .unset, .unset, .unset, .unset] [(.ref b8)])) t_
      refine XS.astore X8.here hx rfl (hb hby at_54) rfl rfl (l' := #[.val (.int p1), .val (.int p2), .val (.int p3), .val (.int p4), .val (.int p5), .val (.int (0 : Int32)), .val (.ref b_3), .val (.ref b_5), .val (.ref b_7), .val (.ref b8), .unset, .unset, .unset]) rfl ?_
      show Steps p.tables e below (T8.setTop (mkF m 56 #[.val (.int p1), .val (.int p2), .val (.int p3), .val (.int p4), .val (.int p5), .val (.int (0 : Int32)), .val (.ref b_3), .val (.ref b_5), .val (.ref b_7), .val (.ref b8), .unset, .unset, .unset] [])) t_
      refine XS.goto X8.here hx rfl (pc0 := 56) (pc' := 125) rfl (hb hby at_56) (by decide) (by decide) ?_
      exact k_
    obtain ⟨T9, h9, X9, e9, E9, A9, D9, -, st9⟩ := newO X8 hx hZ hown (own_w hw 4 rfl) (own_w hw 5 rfl) (own_w hw 6 rfl) e8 (g := (mkF m 125 #[.val (.int p1), .val (.int p2), .val (.int p3), .val (.int p4), .val (.int p5), .val (.int (0 : Int32)), .val (.ref b_3), .val (.ref b_5), .val (.ref b_7), .val (.ref b8), .unset, .unset, .unset] [])) rfl (hb hby at_125) (by decide) (by decide)
    obtain ⟨b9, g9⟩ : ∃ z, z = h8.size := ⟨_, rfl⟩
    rw [← g9] at A9 D9 st9
    refine own_go st9 ?_
    have K9 : Keep h0 h9 [] := K8.ext E9
    have r9 := CHr.ext E9 R8.1
    have R9 := R8.trans r9
    have hk := Nat.le_trans hk E9.1
    have O9 := O8.ext E9
    have Q9 := Safe.ext E9 R8.1 (Safe.new (Nat.le_of_eq g9.symm))
    have F9_value : Fld Z h9 b9 "java/lang/String" "value" "[B" .null := D9 (Or.inr (own_w hw 20 rfl)) (ty := (.array .byte)) (by decide)
    have F9_coder : Fld Z h9 b9 "java/lang/String" "coder" "B" (.int (0 : Int32)) := D9 (Or.inr (own_w hw 21 rfl)) (ty := .byte) (by decide)
    refine own_go (A := T9.setTop (mkF m 130 #[.val (.int p1), .val (.int p2), .val (.int p3), .val (.int p4), .val (.int p5), .val (.int (0 : Int32)), .val (.ref b_3), .val (.ref b_5), .val (.ref b_7), .val (.ref b8), .unset, .unset, .unset] [(.int (3 : Int32)), (.ref b9), (.ref b9)])) (fun t_ k_ => ?_) ?_
    · show Steps p.tables e below (T9.setTop (mkF m 128 #[.val (.int p1), .val (.int p2), .val (.int p3), .val (.int p4), .val (.int p5), .val (.int (0 : Int32)), .val (.ref b_3), .val (.ref b_5), .val (.ref b_7), .val (.ref b8), .unset, .unset, .unset] [(.ref b9)])) t_
      refine XS.dup X9.here hx rfl (hb hby at_128) rfl rfl ?_
      show Steps p.tables e below (T9.setTop (mkF m 129 #[.val (.int p1), .val (.int p2), .val (.int p3), .val (.int p4), .val (.int p5), .val (.int (0 : Int32)), .val (.ref b_3), .val (.ref b_5), .val (.ref b_7), .val (.ref b8), .unset, .unset, .unset] [(.ref b9), (.ref b9)])) t_
      refine XS.iconst X9.here hx rfl (hb hby at_129) ?_
      exact k_
    obtain ⟨T10, h10, k10, X10, e10, E10, A10, st10⟩ := newP X9 hx hZ (own_w hw 7 rfl) e9 (g := (mkF m 130 #[.val (.int p1), .val (.int p2), .val (.int p3), .val (.int p4), .val (.int p5), .val (.int (0 : Int32)), .val (.ref b_3), .val (.ref b_5), .val (.ref b_7), .val (.ref b8), .unset, .unset, .unset] [(.int (3 : Int32)), (.ref b9), (.ref b9)])) rfl (hb hby at_130) rfl (by decide) (cap := 3) (by decide) (by decide) (by decide) (by decide)
    obtain ⟨b10, g10⟩ : ∃ z, z = h9.size := ⟨_, rfl⟩
    rw [← g10] at A10 st10
    refine own_go st10 ?_
    have K10 : Keep h0 h10 [] := K9.ext E10
    have r10 := CHr.ext E10 R9.1
    have R10 := R9.trans r10
    have hk := Nat.le_trans hk E10.1
    have O10 := O9.ext E10
    have Q10 := Safe.ext E10 R9.1 (Safe.new (Nat.le_of_eq g10.symm))
    have B10 : Arv Z h10 b10 k10 .char (3 : Int32) [(.int (0 : Int32)), (.int (0 : Int32)), (.int (0 : Int32))] (.int (0 : Int32)) := (Arv.new A10 (by decide)).pad (pad_rep [] (.int (0 : Int32)) 3)
    refine own_go (A := T10.setTop (mkF m 136 #[.val (.int p1), .val (.int p2), .val (.int p3), .val (.int p4), .val (.int p5), .val (.int (0 : Int32)), .val (.ref b_3), .val (.ref b_5), .val (.ref b_7), .val (.ref b8), .unset, .unset, .unset] [(.int (120 : Int32)), (.int (0 : Int32)), (.ref b10), (.ref b10), (.ref b9), (.ref b9)])) (fun t_ k_ => ?_) ?_
    · show Steps p.tables e below (T10.setTop (mkF m 132 #[.val (.int p1), .val (.int p2), .val (.int p3), .val (.int p4), .val (.int p5), .val (.int (0 : Int32)), .val (.ref b_3), .val (.ref b_5), .val (.ref b_7), .val (.ref b8), .unset, .unset, .unset] [(.ref b10), (.ref b9), (.ref b9)])) t_
      refine XS.dup X10.here hx rfl (hb hby at_132) rfl rfl ?_
      show Steps p.tables e below (T10.setTop (mkF m 133 #[.val (.int p1), .val (.int p2), .val (.int p3), .val (.int p4), .val (.int p5), .val (.int (0 : Int32)), .val (.ref b_3), .val (.ref b_5), .val (.ref b_7), .val (.ref b8), .unset, .unset, .unset] [(.ref b10), (.ref b10), (.ref b9), (.ref b9)])) t_
      refine XS.iconst X10.here hx rfl (hb hby at_133) ?_
      show Steps p.tables e below (T10.setTop (mkF m 134 #[.val (.int p1), .val (.int p2), .val (.int p3), .val (.int p4), .val (.int p5), .val (.int (0 : Int32)), .val (.ref b_3), .val (.ref b_5), .val (.ref b_7), .val (.ref b8), .unset, .unset, .unset] [(.int (0 : Int32)), (.ref b10), (.ref b10), (.ref b9), (.ref b9)])) t_
      refine XS.bipush X10.here hx rfl (hb hby at_134) ?_
      exact k_
    obtain ⟨cl11, Ar11, q11, S11, M11, H11, G11⟩ := id B10
    have hin11 : ¬ ((0 : Int32) < 0 ∨ cl11.slots.size ≤ ((0 : Int32)).toNatClampNeg) := inb_of S11 ⟨by decide, by decide⟩
    obtain ⟨T12, h12, X12, e12, W12, st12⟩ := stC X10 hx hZ e10 Ar11 (j := (0 : Int32)) hin11 (g := (mkF m 136 #[.val (.int p1), .val (.int p2), .val (.int p3), .val (.int p4), .val (.int p5), .val (.int (0 : Int32)), .val (.ref b_3), .val (.ref b_5), .val (.ref b_7), .val (.ref b8), .unset, .unset, .unset] [(.int (120 : Int32)), (.int (0 : Int32)), (.ref b10), (.ref b10), (.ref b9), (.ref b9)])) rfl rfl (hb hby at_136)
    have B12 : Arv Z h12 b10 k10 .char (3 : Int32) [(.int (120 : Int32)), (.int (0 : Int32)), (.int (0 : Int32))] (.int (0 : Int32)) := Arv.set Ar11 q11 S11 M11 H11 G11 (fits_nar_char _) W12 0 rfl (Nat.le_of_ble_eq_true rfl)
    refine own_go st12 ?_
    have K12 : Keep h0 h12 [] := K10.wr W12 (Or.inr (Nat.le_trans K9.1 (Nat.le_of_eq g10.symm)))
    have r12 := CHr.wr W12 Q10 R10.1
    have R12 := R10.trans r12
    have hk := Nat.le_trans hk (Keep.of_wr W12).1
    have O12 := O10.wr W12 (Nat.le_trans Z0 (Nat.le_trans K9.1 (Nat.le_of_eq g10.symm)))
    have N12 := Fr.snoc X12 N7 (Nat.le_trans Z0 (Nat.le_trans K9.1 (Nat.le_of_eq g10.symm)))
    refine own_go (A := T12.setTop (mkF m 141 #[.val (.int p1), .val (.int p2), .val (.int p3), .val (.int p4), .val (.int p5), .val (.int (0 : Int32)), .val (.ref b_3), .val (.ref b_5), .val (.ref b_7), .val (.ref b8), .unset, .unset, .unset] [(.int (121 : Int32)), (.int (1 : Int32)), (.ref b10), (.ref b10), (.ref b9), (.ref b9)])) (fun t_ k_ => ?_) ?_
    · show Steps p.tables e below (T12.setTop (mkF m 137 #[.val (.int p1), .val (.int p2), .val (.int p3), .val (.int p4), .val (.int p5), .val (.int (0 : Int32)), .val (.ref b_3), .val (.ref b_5), .val (.ref b_7), .val (.ref b8), .unset, .unset, .unset] [(.ref b10), (.ref b9), (.ref b9)])) t_
      refine XS.dup X12.here hx rfl (hb hby at_137) rfl rfl ?_
      show Steps p.tables e below (T12.setTop (mkF m 138 #[.val (.int p1), .val (.int p2), .val (.int p3), .val (.int p4), .val (.int p5), .val (.int (0 : Int32)), .val (.ref b_3), .val (.ref b_5), .val (.ref b_7), .val (.ref b8), .unset, .unset, .unset] [(.ref b10), (.ref b10), (.ref b9), (.ref b9)])) t_
      refine XS.iconst X12.here hx rfl (hb hby at_138) ?_
      show Steps p.tables e below (T12.setTop (mkF m 139 #[.val (.int p1), .val (.int p2), .val (.int p3), .val (.int p4), .val (.int p5), .val (.int (0 : Int32)), .val (.ref b_3), .val (.ref b_5), .val (.ref b_7), .val (.ref b8), .unset, .unset, .unset] [(.int (1 : Int32)), (.ref b10), (.ref b10), (.ref b9), (.ref b9)])) t_
      refine XS.bipush X12.here hx rfl (hb hby at_139) ?_
      exact k_
    obtain ⟨cl13, Ar13, q13, S13, M13, H13, G13⟩ := id B12
    have hin13 : ¬ ((1 : Int32) < 0 ∨ cl13.slots.size ≤ ((1 : Int32)).toNatClampNeg) := inb_of S13 ⟨by decide, by decide⟩
    obtain ⟨T14, h14, X14, e14, W14, st14⟩ := stC X12 hx hZ e12 Ar13 (j := (1 : Int32)) hin13 (g := (mkF m 141 #[.val (.int p1), .val (.int p2), .val (.int p3), .val (.int p4), .val (.int p5), .val (.int (0 : Int32)), .val (.ref b_3), .val (.ref b_5), .val (.ref b_7), .val (.ref b8), .unset, .unset, .unset] [(.int (121 : Int32)), (.int (1 : Int32)), (.ref b10), (.ref b10), (.ref b9), (.ref b9)])) rfl rfl (hb hby at_141)
    have B14 : Arv Z h14 b10 k10 .char (3 : Int32) [(.int (120 : Int32)), (.int (121 : Int32)), (.int (0 : Int32))] (.int (0 : Int32)) := Arv.set Ar13 q13 S13 M13 H13 G13 (fits_nar_char _) W14 1 rfl (Nat.le_of_ble_eq_true rfl)
    refine own_go st14 ?_
    have K14 : Keep h0 h14 [] := K12.wr W14 (Or.inr (Nat.le_trans K9.1 (Nat.le_of_eq g10.symm)))
    have r14 := CHr.wr W14 (r12.safe B10.lt Q10) R12.1
    have R14 := R12.trans r14
    have hk := Nat.le_trans hk (Keep.of_wr W14).1
    have O14 := O12.wr W14 (Nat.le_trans Z0 (Nat.le_trans K9.1 (Nat.le_of_eq g10.symm)))
    have N14 := Fr.snoc X14 N12 (Nat.le_trans Z0 (Nat.le_trans K9.1 (Nat.le_of_eq g10.symm)))
    refine own_go (A := T14.setTop (mkF m 146 #[.val (.int p1), .val (.int p2), .val (.int p3), .val (.int p4), .val (.int p5), .val (.int (0 : Int32)), .val (.ref b_3), .val (.ref b_5), .val (.ref b_7), .val (.ref b8), .unset, .unset, .unset] [(.int (122 : Int32)), (.int (2 : Int32)), (.ref b10), (.ref b10), (.ref b9), (.ref b9)])) (fun t_ k_ => ?_) ?_
    · show Steps p.tables e below (T14.setTop (mkF m 142 #[.val (.int p1), .val (.int p2), .val (.int p3), .val (.int p4), .val (.int p5), .val (.int (0 : Int32)), .val (.ref b_3), .val (.ref b_5), .val (.ref b_7), .val (.ref b8), .unset, .unset, .unset] [(.ref b10), (.ref b9), (.ref b9)])) t_
      refine XS.dup X14.here hx rfl (hb hby at_142) rfl rfl ?_
      show Steps p.tables e below (T14.setTop (mkF m 143 #[.val (.int p1), .val (.int p2), .val (.int p3), .val (.int p4), .val (.int p5), .val (.int (0 : Int32)), .val (.ref b_3), .val (.ref b_5), .val (.ref b_7), .val (.ref b8), .unset, .unset, .unset] [(.ref b10), (.ref b10), (.ref b9), (.ref b9)])) t_
      refine XS.iconst X14.here hx rfl (hb hby at_143) ?_
      show Steps p.tables e below (T14.setTop (mkF m 144 #[.val (.int p1), .val (.int p2), .val (.int p3), .val (.int p4), .val (.int p5), .val (.int (0 : Int32)), .val (.ref b_3), .val (.ref b_5), .val (.ref b_7), .val (.ref b8), .unset, .unset, .unset] [(.int (2 : Int32)), (.ref b10), (.ref b10), (.ref b9), (.ref b9)])) t_
      refine XS.bipush X14.here hx rfl (hb hby at_144) ?_
      exact k_
    obtain ⟨cl15, Ar15, q15, S15, M15, H15, G15⟩ := id B14
    have hin15 : ¬ ((2 : Int32) < 0 ∨ cl15.slots.size ≤ ((2 : Int32)).toNatClampNeg) := inb_of S15 ⟨by decide, by decide⟩
    obtain ⟨T16, h16, X16, e16, W16, st16⟩ := stC X14 hx hZ e14 Ar15 (j := (2 : Int32)) hin15 (g := (mkF m 146 #[.val (.int p1), .val (.int p2), .val (.int p3), .val (.int p4), .val (.int p5), .val (.int (0 : Int32)), .val (.ref b_3), .val (.ref b_5), .val (.ref b_7), .val (.ref b8), .unset, .unset, .unset] [(.int (122 : Int32)), (.int (2 : Int32)), (.ref b10), (.ref b10), (.ref b9), (.ref b9)])) rfl rfl (hb hby at_146)
    have B16 : Arv Z h16 b10 k10 .char (3 : Int32) [(.int (120 : Int32)), (.int (121 : Int32)), (.int (122 : Int32))] (.int (0 : Int32)) := Arv.set Ar15 q15 S15 M15 H15 G15 (fits_nar_char _) W16 2 rfl (Nat.le_of_ble_eq_true rfl)
    refine own_go st16 ?_
    have K16 : Keep h0 h16 [] := K14.wr W16 (Or.inr (Nat.le_trans K9.1 (Nat.le_of_eq g10.symm)))
    have r16 := CHr.wr W16 (r14.safe (Nat.lt_of_lt_of_le B10.lt (Keep.of_wr W12).1) (r12.safe B10.lt Q10)) R14.1
    have R16 := R14.trans r16
    have hk := Nat.le_trans hk (Keep.of_wr W16).1
    have O16 := O14.wr W16 (Nat.le_trans Z0 (Nat.le_trans K9.1 (Nat.le_of_eq g10.symm)))
    have N16 := Fr.snoc X16 N14 (Nat.le_trans Z0 (Nat.le_trans K9.1 (Nat.le_of_eq g10.symm)))
    obtain ⟨_, _, ⟨T17, L17, k17, n17⟩, -, X17, ⟨Lc17, hQ17, l17, y17, z17⟩, st17⟩ := X16.specialBack hx (y := own_y8) rfl hown (mvT hZ (own_w hw 8 rfl)) (mvT hZ (own_w hw 9 rfl)) (mvT hZ (own_w hw 10 rfl)) (by decide) (backOf (W := 1) (rmSC3 l Z a0 hw [] b9 b10 cs k10 (120 : Int32) (121 : Int32) (122 : Int32) h16 n0 (Nat.le_trans Z0 K16.1) O16 u1 hcs ((((A9.ext E10).wr W12).wr W14).wr W16) ((((F9_value.ext E10).other W12 (Or.inl (Nat.ne_of_lt (Nat.lt_of_lt_of_le A9.lt (Nat.le_of_eq g10.symm))))).other W14 (Or.inl (Nat.ne_of_lt (Nat.lt_of_lt_of_le A9.lt (Nat.le_of_eq g10.symm))))).other W16 (Or.inl (Nat.ne_of_lt (Nat.lt_of_lt_of_le A9.lt (Nat.le_of_eq g10.symm))))) ((((F9_coder.ext E10).other W12 (Or.inl (Nat.ne_of_lt (Nat.lt_of_lt_of_le A9.lt (Nat.le_of_eq g10.symm))))).other W14 (Or.inl (Nat.ne_of_lt (Nat.lt_of_lt_of_le A9.lt (Nat.le_of_eq g10.symm))))).other W16 (Or.inl (Nat.ne_of_lt (Nat.lt_of_lt_of_le A9.lt (Nat.le_of_eq g10.symm))))) (Nat.le_trans Z0 (Nat.le_trans K8.1 (Nat.le_of_eq g9.symm))) B16 (by decide : ¬ ((255 : Int32) < (120 : Int32))) (by decide : ¬ ((255 : Int32) < (121 : Int32))) (by decide : ¬ ((255 : Int32) < (122 : Int32)))) hZ (own_w hw 10 rfl) (own_w hw 6 rfl) (by decide) (by decide)) (g := (mkF m 147 #[.val (.int p1), .val (.int p2), .val (.int p3), .val (.int p4), .val (.int p5), .val (.int (0 : Int32)), .val (.ref b_3), .val (.ref b_5), .val (.ref b_7), .val (.ref b8), .unset, .unset, .unset] [(.ref b10), (.ref b9), (.ref b9)])) rfl (by rw [hml]; rfl) (Steps.refl _) (a := b9) (argsL := [(.ref b10)]) (rest := [(.ref b9)]) (lenOf pd_7 rfl) rfl (by show 2 * 0 + _ ≤ _; exact Nat.le_of_eq rfl) (hb hby at_147) (fun _ _ => ⟨rfl, e16, (by decide : 21 + 1 ≤ _), (by decide : 43 + 3 ≤ _)⟩)
    dsimp only [Pt.U, Pt.locs, Pt.cells, Pt.slots] at X17 l17 y17 z17 st17 hQ17
    subst l17 y17 z17
    obtain ⟨d_17, k_17, rfl, N17q, Kc17, r17_0, r17_1, r17_2, r17_3⟩ := hQ17
    have N17 := Fr.app N16 N17q
    refine own_via st17 ?_
    have K17 : Keep h0 T17.heap [] := K16.trans Kc17 (allS (P := fun x => x ∈ _ ∨ _ ≤ x) (Or.inr (Nat.le_trans K8.1 (Nat.le_of_eq g9.symm))) all0)
    have r17 := CHr.keep Kc17 (allS (P := fun x => Safe Z own_EL _ _ x) (r16.safe (Nat.lt_of_lt_of_le (Nat.lt_of_lt_of_le (Nat.lt_of_lt_of_le A9.lt E10.1) (Keep.of_wr W12).1) (Keep.of_wr W14).1) (r14.safe (Nat.lt_of_lt_of_le (Nat.lt_of_lt_of_le A9.lt E10.1) (Keep.of_wr W12).1) (r12.safe (Nat.lt_of_lt_of_le A9.lt E10.1) (r10.safe A9.lt Q9)))) all0) R16.1
    have R17 := R16.trans r17
    have hk := Nat.le_trans hk Kc17.1
    have O17 := O16.keep Kc17 (allS (P := fun x => n0 ≤ x) (Nat.le_trans Z0 (Nat.le_trans K8.1 (Nat.le_of_eq g9.symm))) all0)
    refine own_go (A := T17.setTop (mkF m 154 #[.val (.int p1), .val (.int p2), .val (.int p3), .val (.int p4), .val (.int p5), .val (.int (0 : Int32)), .val (.ref b_3), .val (.ref b_5), .val (.ref b_7), .val (.ref b8), .val (.ref b9), .unset, .unset] [(.ref b8)])) (fun t_ k_ => ?_) ?_
    · show Steps p.tables e below (T17.setTop (mkF m 150 #[.val (.int p1), .val (.int p2), .val (.int p3), .val (.int p4), .val (.int p5), .val (.int (0 : Int32)), .val (.ref b_3), .val (.ref b_5), .val (.ref b_7), .val (.ref b8), .unset, .unset, .unset] [(.ref b9)])) t_
      refine XS.astore X17.here hx rfl (hb hby at_150) rfl rfl (l' := #[.val (.int p1), .val (.int p2), .val (.int p3), .val (.int p4), .val (.int p5), .val (.int (0 : Int32)), .val (.ref b_3), .val (.ref b_5), .val (.ref b_7), .val (.ref b8), .val (.ref b9), .unset, .unset]) rfl ?_
      show Steps p.tables e below (T17.setTop (mkF m 152 #[.val (.int p1), .val (.int p2), .val (.int p3), .val (.int p4), .val (.int p5), .val (.int (0 : Int32)), .val (.ref b_3), .val (.ref b_5), .val (.ref b_7), .val (.ref b8), .val (.ref b9), .unset, .unset] [])) t_
      refine XS.aload X17.here hx rfl (hb hby at_152) rfl rfl ?_
      exact k_
    obtain ⟨_, _, ⟨T18, L18, k18, n18⟩, -, X18, ⟨Lc18, hQ18, l18, y18, z18⟩, st18⟩ := Jvm.LawKit.callS X17 hx (y := own_y20) hown (mvT hZ (own_w hw 38 rfl)) (mvT hZ (own_w hw 39 rfl)) (mvT hZ (own_w hw 40 rfl)) (mvT hZ (own_w hw 41 rfl)) (by decide) (backOf (W := 0) (rmDeny0 l Z a0 hw [] b8 k8 dn T17.heap n0 (Nat.le_trans Z0 K17.1) O17 u5 ((((((B8.ext E9).ext E10).other W12 (Nat.ne_of_lt (Nat.lt_of_lt_of_le (Nat.lt_of_lt_of_le B8.lt E9.1) (Nat.le_of_eq g10.symm)))).other W14 (Nat.ne_of_lt (Nat.lt_of_lt_of_le (Nat.lt_of_lt_of_le B8.lt E9.1) (Nat.le_of_eq g10.symm)))).other W16 (Nat.ne_of_lt (Nat.lt_of_lt_of_le (Nat.lt_of_lt_of_le B8.lt E9.1) (Nat.le_of_eq g10.symm)))).keep Kc17 (ninS (Nat.ne_of_lt (Nat.lt_of_lt_of_le B8.lt (Nat.le_of_eq g9.symm))) nin0))) hZ (own_w hw 41 rfl) (own_w hw 40 rfl) (by decide) (by decide)) (g := (mkF m 154 #[.val (.int p1), .val (.int p2), .val (.int p3), .val (.int p4), .val (.int p5), .val (.int (0 : Int32)), .val (.ref b_3), .val (.ref b_5), .val (.ref b_7), .val (.ref b8), .val (.ref b9), .unset, .unset] [(.ref b8)])) rfl (by rw [hml]; rfl) (argsL := [(.ref b8)]) (rest := []) (lenOf pd_17 rfl) rfl (by show 2 * 0 + _ ≤ _; exact Nat.le_of_eq rfl) (hb hby at_154) (fun _ _ => ⟨rfl, rfl, (by decide : 22 + 0 ≤ _), (by decide : 46 + 0 ≤ _)⟩)
    dsimp only [Pt.U, Pt.locs, Pt.cells, Pt.slots] at X18 l18 y18 z18 st18 hQ18
    subst l18 y18 z18
    obtain ⟨rfl, N18q, eh18⟩ := hQ18
    have N18 := Fr.app N17 N18q
    refine own_go st18 ?_
    refine own_go (A := T18.setTop (mkF m 173 #[.val (.int p1), .val (.int p2), .val (.int p3), .val (.int p4), .val (.int p5), .val (.int (0 : Int32)), .val (.ref b_3), .val (.ref b_5), .val (.ref b_7), .val (.ref b8), .val (.ref b9), .val (.ref dn), .unset] [(.ref dn)])) (fun t_ k_ => ?_) ?_
    · show Steps p.tables e below (T18.setTop (mkF m 157 #[.val (.int p1), .val (.int p2), .val (.int p3), .val (.int p4), .val (.int p5), .val (.int (0 : Int32)), .val (.ref b_3), .val (.ref b_5), .val (.ref b_7), .val (.ref b8), .val (.ref b9), .unset, .unset] [(.ref dn)])) t_
      refine XS.astore X18.here hx rfl (hb hby at_157) rfl rfl (l' := #[.val (.int p1), .val (.int p2), .val (.int p3), .val (.int p4), .val (.int p5), .val (.int (0 : Int32)), .val (.ref b_3), .val (.ref b_5), .val (.ref b_7), .val (.ref b8), .val (.ref b9), .val (.ref dn), .unset]) rfl ?_
      show Steps p.tables e below (T18.setTop (mkF m 159 #[.val (.int p1), .val (.int p2), .val (.int p3), .val (.int p4), .val (.int p5), .val (.int (0 : Int32)), .val (.ref b_3), .val (.ref b_5), .val (.ref b_7), .val (.ref b8), .val (.ref b9), .val (.ref dn), .unset] [])) t_
      refine XS.iload X18.here hx rfl (hb hby at_159) rfl ?_
      show Steps p.tables e below (T18.setTop (mkF m 161 #[.val (.int p1), .val (.int p2), .val (.int p3), .val (.int p4), .val (.int p5), .val (.int (0 : Int32)), .val (.ref b_3), .val (.ref b_5), .val (.ref b_7), .val (.ref b8), .val (.ref b9), .val (.ref dn), .unset] [(.int (0 : Int32))])) t_
      refine XS.iconst X18.here hx rfl (hb hby at_161) ?_
      show Steps p.tables e below (T18.setTop (mkF m 162 #[.val (.int p1), .val (.int p2), .val (.int p3), .val (.int p4), .val (.int p5), .val (.int (0 : Int32)), .val (.ref b_3), .val (.ref b_5), .val (.ref b_7), .val (.ref b8), .val (.ref b9), .val (.ref dn), .unset] [(.int (1 : Int32)), (.int (0 : Int32))])) t_
      refine XS.icmpYes X18.here hx rfl (pc0 := 162) (pc' := 171) rfl (hb hby at_162) rfl (tlt (by decide : (0 : Int32) < (1 : Int32))).1 (by decide) (by decide) ?_
      show Steps p.tables e below (T18.setTop (mkF m 171 #[.val (.int p1), .val (.int p2), .val (.int p3), .val (.int p4), .val (.int p5), .val (.int (0 : Int32)), .val (.ref b_3), .val (.ref b_5), .val (.ref b_7), .val (.ref b8), .val (.ref b9), .val (.ref dn), .unset] [])) t_
      refine XS.aload X18.here hx rfl (hb hby at_171) rfl rfl ?_
      exact k_
    obtain ⟨cq19, kq19, q19a, q19b, q19c⟩ := isOf hZ eh18 (u6.ext O17.2)
    obtain ⟨_, _, ⟨T19, L19, k19, n19⟩, -, X19, ⟨Lc19, hQ19, l19, y19, z19⟩, st19⟩ := X18.virtualBack hx (y := own_y21) (z := own_y21) hown (mvT hZ (own_w hw 44 rfl)) (mvT hZ (own_w hw 45 rfl)) (notFace_of_selects (args := #[]) (mvT hZ (own_w hw 47 rfl))) (mvT hZ (own_w hw 47 rfl)) (mvT hZ (own_w hw 46 rfl)) (by decide) (backOf (W := 0) (rmAll l Z a0 hw [] dn T17.heap n0 (Nat.le_trans Z0 K17.1) (u7.ext O17.2)) hZ (own_w hw 48 rfl) (own_w hw 40 rfl) (by decide) (by decide)) q19a q19c (g := (mkF m 173 #[.val (.int p1), .val (.int p2), .val (.int p3), .val (.int p4), .val (.int p5), .val (.int (0 : Int32)), .val (.ref b_3), .val (.ref b_5), .val (.ref b_7), .val (.ref b8), .val (.ref b9), .val (.ref dn), .unset] [(.ref dn)])) rfl (by rw [hml]; rfl) (Steps.refl _) (argsL := []) (rest := []) (lenOf pd_18 rfl) rfl (by show 2 * 0 + _ ≤ _; exact Nat.le_of_eq rfl) (hb hby at_173) (fun _ _ => ⟨rfl, eh18, (by decide : 22 + 0 ≤ _), (by decide : 46 + 0 ≤ _)⟩)
    dsimp only [Pt.U, Pt.locs, Pt.cells, Pt.slots] at X19 l19 y19 z19 st19 hQ19
    subst l19 y19 z19
    obtain ⟨rfl, N19q, eh19⟩ := hQ19
    have N19 := Fr.app N18 N19q
    refine own_via st19 ?_
    refine own_go (A := T19.setTop (mkF m 183 #[.val (.int p1), .val (.int p2), .val (.int p3), .val (.int p4), .val (.int p5), .val (.int (0 : Int32)), .val (.ref b_3), .val (.ref b_5), .val (.ref b_7), .val (.ref b8), .val (.ref b9), .val (.ref dn), .unset] [(.ref dn)])) (fun t_ k_ => ?_) ?_
    · show Steps p.tables e below (T19.setTop (mkF m 176 #[.val (.int p1), .val (.int p2), .val (.int p3), .val (.int p4), .val (.int p5), .val (.int (0 : Int32)), .val (.ref b_3), .val (.ref b_5), .val (.ref b_7), .val (.ref b8), .val (.ref b9), .val (.ref dn), .unset] [(.int (0 : Int32))])) t_
      refine XS.ifYes X19.here hx rfl (pc0 := 176) (pc' := 181) rfl (hb hby at_176) rfl ((if0 _ _).trans (teq (by decide : (0 : Int32) = (0 : Int32))).1) (by decide) (by decide) ?_
      show Steps p.tables e below (T19.setTop (mkF m 181 #[.val (.int p1), .val (.int p2), .val (.int p3), .val (.int p4), .val (.int p5), .val (.int (0 : Int32)), .val (.ref b_3), .val (.ref b_5), .val (.ref b_7), .val (.ref b8), .val (.ref b9), .val (.ref dn), .unset] [])) t_
      refine XS.aload X19.here hx rfl (hb hby at_181) rfl rfl ?_
      exact k_
    obtain ⟨cq20, kq20, q20a, q20b, q20c⟩ := isOf hZ eh19 (u6.ext O17.2)
    obtain ⟨_, _, ⟨T20, L20, k20, n20⟩, -, X20, ⟨Lc20, hQ20, l20, y20, z20⟩, st20⟩ := X19.virtualBack hx (y := own_y22) (z := own_y22) hown (mvT hZ (own_w hw 51 rfl)) (mvT hZ (own_w hw 52 rfl)) (notFace_of_selects (args := #[]) (mvT hZ (own_w hw 54 rfl))) (mvT hZ (own_w hw 54 rfl)) (mvT hZ (own_w hw 53 rfl)) (by decide) (backOf (W := 0) (rmRea l Z a0 hw [] dn li0 T17.heap n0 (Nat.le_trans Z0 K17.1) (u8.ext O17.2)) hZ (own_w hw 55 rfl) (own_w hw 40 rfl) (by decide) (by decide)) q20a q20c (g := (mkF m 183 #[.val (.int p1), .val (.int p2), .val (.int p3), .val (.int p4), .val (.int p5), .val (.int (0 : Int32)), .val (.ref b_3), .val (.ref b_5), .val (.ref b_7), .val (.ref b8), .val (.ref b9), .val (.ref dn), .unset] [(.ref dn)])) rfl (by rw [hml]; rfl) (Steps.refl _) (argsL := []) (rest := []) (lenOf pd_19 rfl) rfl (by show 2 * 0 + _ ≤ _; exact Nat.le_of_eq rfl) (hb hby at_183) (fun _ _ => ⟨rfl, eh19, (by decide : 22 + 0 ≤ _), (by decide : 46 + 0 ≤ _)⟩)
    dsimp only [Pt.U, Pt.locs, Pt.cells, Pt.slots] at X20 l20 y20 z20 st20 hQ20
    subst l20 y20 z20
    obtain ⟨rfl, N20q, eh20⟩ := hQ20
    have N20 := Fr.app N19 N20q
    refine own_via st20 ?_
    refine own_go (A := T20.setTop (mkF m 195 #[.val (.int p1), .val (.int p2), .val (.int p3), .val (.int p4), .val (.int p5), .val (.int (0 : Int32)), .val (.ref b_3), .val (.ref b_5), .val (.ref b_7), .val (.ref b8), .val (.ref b9), .val (.ref dn), .val (.ref li0)] [(.ref li0)])) (fun t_ k_ => ?_) ?_
    · show Steps p.tables e below (T20.setTop (mkF m 186 #[.val (.int p1), .val (.int p2), .val (.int p3), .val (.int p4), .val (.int p5), .val (.int (0 : Int32)), .val (.ref b_3), .val (.ref b_5), .val (.ref b_7), .val (.ref b8), .val (.ref b9), .val (.ref dn), .unset] [(.ref li0)])) t_
      refine XS.astore X20.here hx rfl (hb hby at_186) rfl rfl (l' := #[.val (.int p1), .val (.int p2), .val (.int p3), .val (.int p4), .val (.int p5), .val (.int (0 : Int32)), .val (.ref b_3), .val (.ref b_5), .val (.ref b_7), .val (.ref b8), .val (.ref b9), .val (.ref dn), .val (.ref li0)]) rfl ?_
      show Steps p.tables e below (T20.setTop (mkF m 188 #[.val (.int p1), .val (.int p2), .val (.int p3), .val (.int p4), .val (.int p5), .val (.int (0 : Int32)), .val (.ref b_3), .val (.ref b_5), .val (.ref b_7), .val (.ref b8), .val (.ref b9), .val (.ref dn), .val (.ref li0)] [])) t_
      refine XS.aload X20.here hx rfl (hb hby at_188) rfl rfl ?_
      show Steps p.tables e below (T20.setTop (mkF m 190 #[.val (.int p1), .val (.int p2), .val (.int p3), .val (.int p4), .val (.int p5), .val (.int (0 : Int32)), .val (.ref b_3), .val (.ref b_5), .val (.ref b_7), .val (.ref b8), .val (.ref b9), .val (.ref dn), .val (.ref li0)] [(.ref li0)])) t_
      refine XS.ifnullNo X20.here hx rfl (hb hby at_190) rfl ?_
      show Steps p.tables e below (T20.setTop (mkF m 193 #[.val (.int p1), .val (.int p2), .val (.int p3), .val (.int p4), .val (.int p5), .val (.int (0 : Int32)), .val (.ref b_3), .val (.ref b_5), .val (.ref b_7), .val (.ref b8), .val (.ref b9), .val (.ref dn), .val (.ref li0)] [])) t_
      refine XS.aload X20.here hx rfl (hb hby at_193) rfl rfl ?_
      exact k_
    obtain ⟨cq21, kq21, q21a, q21b, q21c⟩ := isOf hZ eh20 (u9.ext O17.2)
    obtain ⟨_, _, ⟨T21, L21, k21, n21⟩, -, X21, ⟨Lc21, hQ21, l21, y21, z21⟩, st21⟩ := X20.interfaceBack hx (xi := own_y28) (y := own_y23) hown (mvT hZ (own_w hw 58 rfl)) (mvT hZ (own_w hw 59 rfl)) (mvT hZ (own_w hw 60 rfl)) (mvT hZ (own_w hw 61 rfl)) (mvT hZ (own_w hw 62 rfl)) (mvT hZ (own_w hw 63 rfl)) (mvT hZ (own_w hw 64 rfl)) (mvT hZ (own_w hw 65 rfl)) (by decide) (backOf (W := 0) (rmNs l Z a0 hw [] li0 es0 ka (0 : Int32) [] T17.heap n0 (Nat.le_trans Z0 K17.1) (u10.ext O17.2) (u11.ext O17.2)) hZ (own_w hw 67 rfl) (own_w hw 66 rfl) (by decide) (by decide)) q21a q21b q21c (g := (mkF m 195 #[.val (.int p1), .val (.int p2), .val (.int p3), .val (.int p4), .val (.int p5), .val (.int (0 : Int32)), .val (.ref b_3), .val (.ref b_5), .val (.ref b_7), .val (.ref b8), .val (.ref b9), .val (.ref dn), .val (.ref li0)] [(.ref li0)])) rfl (by rw [hml]; rfl) (Steps.refl _) (argsL := []) (rest := []) (lenOf pd_20 rfl) rfl (by show 2 * 0 + _ ≤ _; exact Nat.le_of_eq rfl) (hb hby at_195) (fun _ _ => ⟨rfl, eh20, (by decide : 22 + 0 ≤ _), (by decide : 46 + 0 ≤ _)⟩)
    dsimp only [Pt.U, Pt.locs, Pt.cells, Pt.slots] at X21 l21 y21 z21 st21 hQ21
    subst l21 y21 z21
    obtain ⟨rfl, N21q, eh21⟩ := hQ21
    have N21 := Fr.app N20 N21q
    refine own_via st21 ?_
    refine own_go (A := T21.setTop (mkF m 280 #[.val (.int p1), .val (.int p2), .val (.int p3), .val (.int p4), .val (.int p5), .val (.int (0 : Int32)), .val (.ref b_3), .val (.ref b_5), .val (.ref b_7), .val (.ref b8), .val (.ref b9), .val (.ref dn), .val (.ref li0)] [(.int (1 : Int32))])) (fun t_ k_ => ?_) ?_
    · show Steps p.tables e below (T21.setTop (mkF m 200 #[.val (.int p1), .val (.int p2), .val (.int p3), .val (.int p4), .val (.int p5), .val (.int (0 : Int32)), .val (.ref b_3), .val (.ref b_5), .val (.ref b_7), .val (.ref b8), .val (.ref b9), .val (.ref dn), .val (.ref li0)] [(.int (0 : Int32))])) t_
      refine XS.iload X21.here hx rfl (hb hby at_200) rfl ?_
      show Steps p.tables e below (T21.setTop (mkF m 202 #[.val (.int p1), .val (.int p2), .val (.int p3), .val (.int p4), .val (.int p5), .val (.int (0 : Int32)), .val (.ref b_3), .val (.ref b_5), .val (.ref b_7), .val (.ref b8), .val (.ref b9), .val (.ref dn), .val (.ref li0)] [(.int (0 : Int32)), (.int (0 : Int32))])) t_
      refine XS.icmpYes X21.here hx rfl (pc0 := 202) (pc' := 207) rfl (hb hby at_202) rfl (teq (by decide : (0 : Int32) = (0 : Int32))).1 (by decide) (by decide) ?_
      show Steps p.tables e below (T21.setTop (mkF m 207 #[.val (.int p1), .val (.int p2), .val (.int p3), .val (.int p4), .val (.int p5), .val (.int (0 : Int32)), .val (.ref b_3), .val (.ref b_5), .val (.ref b_7), .val (.ref b8), .val (.ref b9), .val (.ref dn), .val (.ref li0)] [])) t_
      refine XS.iload X21.here hx rfl (hb hby at_207) rfl ?_
      show Steps p.tables e below (T21.setTop (mkF m 209 #[.val (.int p1), .val (.int p2), .val (.int p3), .val (.int p4), .val (.int p5), .val (.int (0 : Int32)), .val (.ref b_3), .val (.ref b_5), .val (.ref b_7), .val (.ref b8), .val (.ref b9), .val (.ref dn), .val (.ref li0)] [(.int (0 : Int32))])) t_
      refine XS.iconst X21.here hx rfl (hb hby at_209) ?_
      show Steps p.tables e below (T21.setTop (mkF m 210 #[.val (.int p1), .val (.int p2), .val (.int p3), .val (.int p4), .val (.int p5), .val (.int (0 : Int32)), .val (.ref b_3), .val (.ref b_5), .val (.ref b_7), .val (.ref b8), .val (.ref b9), .val (.ref dn), .val (.ref li0)] [(.int (1 : Int32)), (.int (0 : Int32))])) t_
      refine XS.icmpYes X21.here hx rfl (pc0 := 210) (pc' := 231) rfl (hb hby at_210) rfl (tlt (by decide : (0 : Int32) < (1 : Int32))).1 (by decide) (by decide) ?_
      show Steps p.tables e below (T21.setTop (mkF m 231 #[.val (.int p1), .val (.int p2), .val (.int p3), .val (.int p4), .val (.int p5), .val (.int (0 : Int32)), .val (.ref b_3), .val (.ref b_5), .val (.ref b_7), .val (.ref b8), .val (.ref b9), .val (.ref dn), .val (.ref li0)] [])) t_
      refine XS.iload X21.here hx rfl (hb hby at_231) rfl ?_
      show Steps p.tables e below (T21.setTop (mkF m 233 #[.val (.int p1), .val (.int p2), .val (.int p3), .val (.int p4), .val (.int p5), .val (.int (0 : Int32)), .val (.ref b_3), .val (.ref b_5), .val (.ref b_7), .val (.ref b8), .val (.ref b9), .val (.ref dn), .val (.ref li0)] [(.int (0 : Int32))])) t_
      refine XS.iconst X21.here hx rfl (hb hby at_233) ?_
      show Steps p.tables e below (T21.setTop (mkF m 234 #[.val (.int p1), .val (.int p2), .val (.int p3), .val (.int p4), .val (.int p5), .val (.int (0 : Int32)), .val (.ref b_3), .val (.ref b_5), .val (.ref b_7), .val (.ref b8), .val (.ref b9), .val (.ref dn), .val (.ref li0)] [(.int (2 : Int32)), (.int (0 : Int32))])) t_
      refine XS.icmpYes X21.here hx rfl (pc0 := 234) (pc' := 255) rfl (hb hby at_234) rfl (tlt (by decide : (0 : Int32) < (2 : Int32))).1 (by decide) (by decide) ?_
      show Steps p.tables e below (T21.setTop (mkF m 255 #[.val (.int p1), .val (.int p2), .val (.int p3), .val (.int p4), .val (.int p5), .val (.int (0 : Int32)), .val (.ref b_3), .val (.ref b_5), .val (.ref b_7), .val (.ref b8), .val (.ref b9), .val (.ref dn), .val (.ref li0)] [])) t_
      refine XS.iload X21.here hx rfl (hb hby at_255) rfl ?_
      show Steps p.tables e below (T21.setTop (mkF m 257 #[.val (.int p1), .val (.int p2), .val (.int p3), .val (.int p4), .val (.int p5), .val (.int (0 : Int32)), .val (.ref b_3), .val (.ref b_5), .val (.ref b_7), .val (.ref b8), .val (.ref b9), .val (.ref dn), .val (.ref li0)] [(.int (0 : Int32))])) t_
      refine XS.iconst X21.here hx rfl (hb hby at_257) ?_
      show Steps p.tables e below (T21.setTop (mkF m 258 #[.val (.int p1), .val (.int p2), .val (.int p3), .val (.int p4), .val (.int p5), .val (.int (0 : Int32)), .val (.ref b_3), .val (.ref b_5), .val (.ref b_7), .val (.ref b8), .val (.ref b9), .val (.ref dn), .val (.ref li0)] [(.int (3 : Int32)), (.int (0 : Int32))])) t_
      refine XS.icmpYes X21.here hx rfl (pc0 := 258) (pc' := 279) rfl (hb hby at_258) rfl (tlt (by decide : (0 : Int32) < (3 : Int32))).1 (by decide) (by decide) ?_
      show Steps p.tables e below (T21.setTop (mkF m 279 #[.val (.int p1), .val (.int p2), .val (.int p3), .val (.int p4), .val (.int p5), .val (.int (0 : Int32)), .val (.ref b_3), .val (.ref b_5), .val (.ref b_7), .val (.ref b8), .val (.ref b9), .val (.ref dn), .val (.ref li0)] [])) t_
      refine XS.iconst X21.here hx rfl (hb hby at_279) ?_
      exact k_
    obtain ⟨fs22, hr22, hrun22, hended22, hRW22⟩ := X21.leaveW hS (by rw [eh21]; exact hk) (v := some (.int (1 : Int32))) (fun h => by rw [Bd.returns] at h; cases h)
    refine ⟨_, _, ?_, hrun22, hended22, _, _, rfl, ?_, ?_, hRW22.1, hRW22.2.1, hRW22.2.2.1, hRW22.2.2.2.mono (by decide) (by decide)⟩
    · exact retN X21 hx (t := .boolean) Bd.returns (by simp) (hb hby at_280) hr22
    · show Q_rm0 Z p1 p2 p3 p4 p5 cs em dn li0 es0 ka h0 n0 _ T21.heap _
      rw [eh21]
      exact ⟨rfl, N21, K17⟩
    · show CHr Z own_EL s.vm s.heap T21.vm T21.heap
      rw [hh, eh21]
      exact R17.trans (CHv.at X21 hZ hEL R17.1)
  · rw [hm1]
    refine own_go (A := s₁.setTop (mkF m 12 #[.val (.int p1), .val (.int p2), .val (.int p3), .val (.int p4), .val (.int p5), .val (.int (1 : Int32)), .unset, .unset, .unset, .unset, .unset, .unset, .unset] [(.int ((p5 &&& (3 : Int32)) % (3 : Int32))), (.int p2)])) (fun t_ k_ => ?_) ?_
    · show Steps p.tables e below (s₁.setTop (mkF m 3 #[.val (.int p1), .val (.int p2), .val (.int p3), .val (.int p4), .val (.int p5), .unset, .unset, .unset, .unset, .unset, .unset, .unset, .unset] [(.int (1 : Int32))])) t_
      refine XS.istore X0.here hx rfl (hb hby at_3) rfl (l' := #[.val (.int p1), .val (.int p2), .val (.int p3), .val (.int p4), .val (.int p5), .val (.int (1 : Int32)), .unset, .unset, .unset, .unset, .unset, .unset, .unset]) rfl ?_
      show Steps p.tables e below (s₁.setTop (mkF m 5 #[.val (.int p1), .val (.int p2), .val (.int p3), .val (.int p4), .val (.int p5), .val (.int (1 : Int32)), .unset, .unset, .unset, .unset, .unset, .unset, .unset] [])) t_
      refine XS.iloadN X0.here hx rfl (hb hby at_5) rfl ?_
      show Steps p.tables e below (s₁.setTop (mkF m 6 #[.val (.int p1), .val (.int p2), .val (.int p3), .val (.int p4), .val (.int p5), .val (.int (1 : Int32)), .unset, .unset, .unset, .unset, .unset, .unset, .unset] [(.int p2)])) t_
      refine XS.iload X0.here hx rfl (hb hby at_6) rfl ?_
      show Steps p.tables e below (s₁.setTop (mkF m 8 #[.val (.int p1), .val (.int p2), .val (.int p3), .val (.int p4), .val (.int p5), .val (.int (1 : Int32)), .unset, .unset, .unset, .unset, .unset, .unset, .unset] [(.int p5), (.int p2)])) t_
      refine XS.iconst X0.here hx rfl (hb hby at_8) ?_
      show Steps p.tables e below (s₁.setTop (mkF m 9 #[.val (.int p1), .val (.int p2), .val (.int p3), .val (.int p4), .val (.int p5), .val (.int (1 : Int32)), .unset, .unset, .unset, .unset, .unset, .unset, .unset] [(.int (3 : Int32)), (.int p5), (.int p2)])) t_
      refine XS.iand X0.here hx rfl (hb hby at_9) rfl ?_
      show Steps p.tables e below (s₁.setTop (mkF m 10 #[.val (.int p1), .val (.int p2), .val (.int p3), .val (.int p4), .val (.int p5), .val (.int (1 : Int32)), .unset, .unset, .unset, .unset, .unset, .unset, .unset] [(.int (p5 &&& (3 : Int32))), (.int p2)])) t_
      refine XS.iconst X0.here hx rfl (hb hby at_10) ?_
      show Steps p.tables e below (s₁.setTop (mkF m 11 #[.val (.int p1), .val (.int p2), .val (.int p3), .val (.int p4), .val (.int p5), .val (.int (1 : Int32)), .unset, .unset, .unset, .unset, .unset, .unset, .unset] [(.int (3 : Int32)), (.int (p5 &&& (3 : Int32))), (.int p2)])) t_
      refine iremM (g := (mkF m 11 #[.val (.int p1), .val (.int p2), .val (.int p3), .val (.int p4), .val (.int p5), .val (.int (1 : Int32)), .unset, .unset, .unset, .unset, .unset, .unset, .unset] [(.int (3 : Int32)), (.int (p5 &&& (3 : Int32))), (.int p2)])) X0 hx rfl (hb hby at_11) rfl (by decide : ¬ ((3 : Int32) = (0 : Int32))) ?_
      exact k_
    obtain ⟨y23, hqy23⟩ : ∃ z : Int32, z = ((p5 &&& (3 : Int32)) % (3 : Int32)) := ⟨_, rfl⟩
    rw [← hqy23]
    obtain ⟨_, _, ⟨T24, L24, k24, n24⟩, -, X24, hs24, gs24, ⟨Lc24, hQ24, l24, y24, z24, r24⟩, st24⟩ := callSS X0 hx (y := own_y9) hown (mvT hZ (own_w hw 0 rfl)) (mvT hZ (own_w hw 1 rfl)) (mvT hZ (own_w hw 2 rfl)) (mvT hZ (own_w hw 3 rfl)) (by decide) (backOfSH (W := 0) (rmMk l Z a0 hw [] p2 y23 cs h0 n0 Z0 O0 u1 hcs) hZ (own_w hw 3 rfl) (own_w hw 2 rfl) (by decide) (by decide) hEL R0.1) (g := (mkF m 12 #[.val (.int p1), .val (.int p2), .val (.int p3), .val (.int p4), .val (.int p5), .val (.int (1 : Int32)), .unset, .unset, .unset, .unset, .unset, .unset, .unset] [(.int y23), (.int p2)])) rfl (by rw [hml]; rfl) (argsL := [(.int p2), (.int y23)]) (rest := []) (lenOf pd_16 rfl) rfl (by show 2 * 0 + _ ≤ _; exact Nat.le_of_eq rfl) (hb hby at_12) (fun _ _ => ⟨rfl, e0, (by decide : 0 + 6 ≤ _), (by decide : 0 + 12 ≤ _)⟩)
    dsimp only [Pt.U, Pt.locs, Pt.cells, Pt.slots] at X24 l24 y24 z24 st24 hQ24 hs24 gs24 r24
    subst l24 y24 z24
    obtain ⟨X24, hS, hZ, hown⟩ := rebS hS (by rw [e0]; exact hk) X24 hs24 gs24 hZ hown
    obtain ⟨b_24, rfl, N24q, Kc24, r24_0, r24_1⟩ := hQ24
    have N24 := Fr.app N0 N24q
    refine own_via st24 ?_
    have hk := Nat.le_refl T24.heap.size
    have K24 : Keep h0 T24.heap [] := (Keep.refl h0 []).trans Kc24 all0
    have R24 := R0.trans r24
    have O24 := O0.keep Kc24 all0
    refine own_go (A := T24.setTop (mkF m 26 #[.val (.int p1), .val (.int p2), .val (.int p3), .val (.int p4), .val (.int p5), .val (.int (1 : Int32)), .val (.ref b_24), .unset, .unset, .unset, .unset, .unset, .unset] [(.int ((((p5).toUInt32 >>> ((2 : Int32) &&& 31).toUInt32).toInt32 &&& (3 : Int32)) % (3 : Int32))), (.int p3)])) (fun t_ k_ => ?_) ?_
    · show Steps p.tables e below (T24.setTop (mkF m 15 #[.val (.int p1), .val (.int p2), .val (.int p3), .val (.int p4), .val (.int p5), .val (.int (1 : Int32)), .unset, .unset, .unset, .unset, .unset, .unset, .unset] [(.ref b_24)])) t_
      refine XS.astore X24.here hx rfl (hb hby at_15) rfl rfl (l' := #[.val (.int p1), .val (.int p2), .val (.int p3), .val (.int p4), .val (.int p5), .val (.int (1 : Int32)), .val (.ref b_24), .unset, .unset, .unset, .unset, .unset, .unset]) rfl ?_
      show Steps p.tables e below (T24.setTop (mkF m 17 #[.val (.int p1), .val (.int p2), .val (.int p3), .val (.int p4), .val (.int p5), .val (.int (1 : Int32)), .val (.ref b_24), .unset, .unset, .unset, .unset, .unset, .unset] [])) t_
      refine XS.iloadN X24.here hx rfl (hb hby at_17) rfl ?_
      show Steps p.tables e below (T24.setTop (mkF m 18 #[.val (.int p1), .val (.int p2), .val (.int p3), .val (.int p4), .val (.int p5), .val (.int (1 : Int32)), .val (.ref b_24), .unset, .unset, .unset, .unset, .unset, .unset] [(.int p3)])) t_
      refine XS.iload X24.here hx rfl (hb hby at_18) rfl ?_
      show Steps p.tables e below (T24.setTop (mkF m 20 #[.val (.int p1), .val (.int p2), .val (.int p3), .val (.int p4), .val (.int p5), .val (.int (1 : Int32)), .val (.ref b_24), .unset, .unset, .unset, .unset, .unset, .unset] [(.int p5), (.int p3)])) t_
      refine XS.iconst X24.here hx rfl (hb hby at_20) ?_
      show Steps p.tables e below (T24.setTop (mkF m 21 #[.val (.int p1), .val (.int p2), .val (.int p3), .val (.int p4), .val (.int p5), .val (.int (1 : Int32)), .val (.ref b_24), .unset, .unset, .unset, .unset, .unset, .unset] [(.int (2 : Int32)), (.int p5), (.int p3)])) t_
      refine XS.iushr X24.here hx rfl (hb hby at_21) rfl ?_
      show Steps p.tables e below (T24.setTop (mkF m 22 #[.val (.int p1), .val (.int p2), .val (.int p3), .val (.int p4), .val (.int p5), .val (.int (1 : Int32)), .val (.ref b_24), .unset, .unset, .unset, .unset, .unset, .unset] [(.int ((p5).toUInt32 >>> ((2 : Int32) &&& 31).toUInt32).toInt32), (.int p3)])) t_
      refine XS.iconst X24.here hx rfl (hb hby at_22) ?_
      show Steps p.tables e below (T24.setTop (mkF m 23 #[.val (.int p1), .val (.int p2), .val (.int p3), .val (.int p4), .val (.int p5), .val (.int (1 : Int32)), .val (.ref b_24), .unset, .unset, .unset, .unset, .unset, .unset] [(.int (3 : Int32)), (.int ((p5).toUInt32 >>> ((2 : Int32) &&& 31).toUInt32).toInt32), (.int p3)])) t_
      refine XS.iand X24.here hx rfl (hb hby at_23) rfl ?_
      show Steps p.tables e below (T24.setTop (mkF m 24 #[.val (.int p1), .val (.int p2), .val (.int p3), .val (.int p4), .val (.int p5), .val (.int (1 : Int32)), .val (.ref b_24), .unset, .unset, .unset, .unset, .unset, .unset] [(.int (((p5).toUInt32 >>> ((2 : Int32) &&& 31).toUInt32).toInt32 &&& (3 : Int32))), (.int p3)])) t_
      refine XS.iconst X24.here hx rfl (hb hby at_24) ?_
      show Steps p.tables e below (T24.setTop (mkF m 25 #[.val (.int p1), .val (.int p2), .val (.int p3), .val (.int p4), .val (.int p5), .val (.int (1 : Int32)), .val (.ref b_24), .unset, .unset, .unset, .unset, .unset, .unset] [(.int (3 : Int32)), (.int (((p5).toUInt32 >>> ((2 : Int32) &&& 31).toUInt32).toInt32 &&& (3 : Int32))), (.int p3)])) t_
      refine iremM (g := (mkF m 25 #[.val (.int p1), .val (.int p2), .val (.int p3), .val (.int p4), .val (.int p5), .val (.int (1 : Int32)), .val (.ref b_24), .unset, .unset, .unset, .unset, .unset, .unset] [(.int (3 : Int32)), (.int (((p5).toUInt32 >>> ((2 : Int32) &&& 31).toUInt32).toInt32 &&& (3 : Int32))), (.int p3)])) X24 hx rfl (hb hby at_25) rfl (by decide : ¬ ((3 : Int32) = (0 : Int32))) ?_
      exact k_
    obtain ⟨y25, hqy25⟩ : ∃ z : Int32, z = ((((p5).toUInt32 >>> ((2 : Int32) &&& 31).toUInt32).toInt32 &&& (3 : Int32)) % (3 : Int32)) := ⟨_, rfl⟩
    rw [← hqy25]
    obtain ⟨_, _, ⟨T26, L26, k26, n26⟩, -, X26, hs26, gs26, ⟨Lc26, hQ26, l26, y26, z26, r26⟩, st26⟩ := callSS X24 hx (y := own_y9) hown (mvT hZ (own_w hw 0 rfl)) (mvT hZ (own_w hw 1 rfl)) (mvT hZ (own_w hw 2 rfl)) (mvT hZ (own_w hw 3 rfl)) (by decide) (backOfSH (W := 0) (rmMk l Z a0 hw [] p3 y25 cs T24.heap n0 (Nat.le_trans Z0 K24.1) O24 u1 hcs) hZ (own_w hw 3 rfl) (own_w hw 2 rfl) (by decide) (by decide) hEL R24.1) (g := (mkF m 26 #[.val (.int p1), .val (.int p2), .val (.int p3), .val (.int p4), .val (.int p5), .val (.int (1 : Int32)), .val (.ref b_24), .unset, .unset, .unset, .unset, .unset, .unset] [(.int y25), (.int p3)])) rfl (by rw [hml]; rfl) (argsL := [(.int p3), (.int y25)]) (rest := []) (lenOf pd_16 rfl) rfl (by show 2 * 0 + _ ≤ _; exact Nat.le_of_eq rfl) (hb hby at_26) (fun _ _ => ⟨rfl, rfl, (by decide : 6 + 6 ≤ _), (by decide : 12 + 12 ≤ _)⟩)
    dsimp only [Pt.U, Pt.locs, Pt.cells, Pt.slots] at X26 l26 y26 z26 st26 hQ26 hs26 gs26 r26
    subst l26 y26 z26
    obtain ⟨X26, hS, hZ, hown⟩ := rebS hS hk X26 hs26 gs26 hZ hown
    obtain ⟨b_26, rfl, N26q, Kc26, r26_0, r26_1⟩ := hQ26
    have N26 := Fr.app N24 N26q
    refine own_via st26 ?_
    have hk := Nat.le_refl T26.heap.size
    have K26 : Keep h0 T26.heap [] := K24.trans Kc26 all0
    have R26 := R24.trans r26
    have O26 := O24.keep Kc26 all0
    refine own_go (A := T26.setTop (mkF m 40 #[.val (.int p1), .val (.int p2), .val (.int p3), .val (.int p4), .val (.int p5), .val (.int (1 : Int32)), .val (.ref b_24), .val (.ref b_26), .unset, .unset, .unset, .unset, .unset] [(.int ((((p5).toUInt32 >>> ((4 : Int32) &&& 31).toUInt32).toInt32 &&& (3 : Int32)) % (3 : Int32))), (.int p4)])) (fun t_ k_ => ?_) ?_
    · show Steps p.tables e below (T26.setTop (mkF m 29 #[.val (.int p1), .val (.int p2), .val (.int p3), .val (.int p4), .val (.int p5), .val (.int (1 : Int32)), .val (.ref b_24), .unset, .unset, .unset, .unset, .unset, .unset] [(.ref b_26)])) t_
      refine XS.astore X26.here hx rfl (hb hby at_29) rfl rfl (l' := #[.val (.int p1), .val (.int p2), .val (.int p3), .val (.int p4), .val (.int p5), .val (.int (1 : Int32)), .val (.ref b_24), .val (.ref b_26), .unset, .unset, .unset, .unset, .unset]) rfl ?_
      show Steps p.tables e below (T26.setTop (mkF m 31 #[.val (.int p1), .val (.int p2), .val (.int p3), .val (.int p4), .val (.int p5), .val (.int (1 : Int32)), .val (.ref b_24), .val (.ref b_26), .unset, .unset, .unset, .unset, .unset] [])) t_
      refine XS.iloadN X26.here hx rfl (hb hby at_31) rfl ?_
      show Steps p.tables e below (T26.setTop (mkF m 32 #[.val (.int p1), .val (.int p2), .val (.int p3), .val (.int p4), .val (.int p5), .val (.int (1 : Int32)), .val (.ref b_24), .val (.ref b_26), .unset, .unset, .unset, .unset, .unset] [(.int p4)])) t_
      refine XS.iload X26.here hx rfl (hb hby at_32) rfl ?_
      show Steps p.tables e below (T26.setTop (mkF m 34 #[.val (.int p1), .val (.int p2), .val (.int p3), .val (.int p4), .val (.int p5), .val (.int (1 : Int32)), .val (.ref b_24), .val (.ref b_26), .unset, .unset, .unset, .unset, .unset] [(.int p5), (.int p4)])) t_
      refine XS.iconst X26.here hx rfl (hb hby at_34) ?_
      show Steps p.tables e below (T26.setTop (mkF m 35 #[.val (.int p1), .val (.int p2), .val (.int p3), .val (.int p4), .val (.int p5), .val (.int (1 : Int32)), .val (.ref b_24), .val (.ref b_26), .unset, .unset, .unset, .unset, .unset] [(.int (4 : Int32)), (.int p5), (.int p4)])) t_
      refine XS.iushr X26.here hx rfl (hb hby at_35) rfl ?_
      show Steps p.tables e below (T26.setTop (mkF m 36 #[.val (.int p1), .val (.int p2), .val (.int p3), .val (.int p4), .val (.int p5), .val (.int (1 : Int32)), .val (.ref b_24), .val (.ref b_26), .unset, .unset, .unset, .unset, .unset] [(.int ((p5).toUInt32 >>> ((4 : Int32) &&& 31).toUInt32).toInt32), (.int p4)])) t_
      refine XS.iconst X26.here hx rfl (hb hby at_36) ?_
      show Steps p.tables e below (T26.setTop (mkF m 37 #[.val (.int p1), .val (.int p2), .val (.int p3), .val (.int p4), .val (.int p5), .val (.int (1 : Int32)), .val (.ref b_24), .val (.ref b_26), .unset, .unset, .unset, .unset, .unset] [(.int (3 : Int32)), (.int ((p5).toUInt32 >>> ((4 : Int32) &&& 31).toUInt32).toInt32), (.int p4)])) t_
      refine XS.iand X26.here hx rfl (hb hby at_37) rfl ?_
      show Steps p.tables e below (T26.setTop (mkF m 38 #[.val (.int p1), .val (.int p2), .val (.int p3), .val (.int p4), .val (.int p5), .val (.int (1 : Int32)), .val (.ref b_24), .val (.ref b_26), .unset, .unset, .unset, .unset, .unset] [(.int (((p5).toUInt32 >>> ((4 : Int32) &&& 31).toUInt32).toInt32 &&& (3 : Int32))), (.int p4)])) t_
      refine XS.iconst X26.here hx rfl (hb hby at_38) ?_
      show Steps p.tables e below (T26.setTop (mkF m 39 #[.val (.int p1), .val (.int p2), .val (.int p3), .val (.int p4), .val (.int p5), .val (.int (1 : Int32)), .val (.ref b_24), .val (.ref b_26), .unset, .unset, .unset, .unset, .unset] [(.int (3 : Int32)), (.int (((p5).toUInt32 >>> ((4 : Int32) &&& 31).toUInt32).toInt32 &&& (3 : Int32))), (.int p4)])) t_
      refine iremM (g := (mkF m 39 #[.val (.int p1), .val (.int p2), .val (.int p3), .val (.int p4), .val (.int p5), .val (.int (1 : Int32)), .val (.ref b_24), .val (.ref b_26), .unset, .unset, .unset, .unset, .unset] [(.int (3 : Int32)), (.int (((p5).toUInt32 >>> ((4 : Int32) &&& 31).toUInt32).toInt32 &&& (3 : Int32))), (.int p4)])) X26 hx rfl (hb hby at_39) rfl (by decide : ¬ ((3 : Int32) = (0 : Int32))) ?_
      exact k_
    obtain ⟨y27, hqy27⟩ : ∃ z : Int32, z = ((((p5).toUInt32 >>> ((4 : Int32) &&& 31).toUInt32).toInt32 &&& (3 : Int32)) % (3 : Int32)) := ⟨_, rfl⟩
    rw [← hqy27]
    obtain ⟨_, _, ⟨T28, L28, k28, n28⟩, -, X28, hs28, gs28, ⟨Lc28, hQ28, l28, y28, z28, r28⟩, st28⟩ := callSS X26 hx (y := own_y9) hown (mvT hZ (own_w hw 0 rfl)) (mvT hZ (own_w hw 1 rfl)) (mvT hZ (own_w hw 2 rfl)) (mvT hZ (own_w hw 3 rfl)) (by decide) (backOfSH (W := 0) (rmMk l Z a0 hw [] p4 y27 cs T26.heap n0 (Nat.le_trans Z0 K26.1) O26 u1 hcs) hZ (own_w hw 3 rfl) (own_w hw 2 rfl) (by decide) (by decide) hEL R26.1) (g := (mkF m 40 #[.val (.int p1), .val (.int p2), .val (.int p3), .val (.int p4), .val (.int p5), .val (.int (1 : Int32)), .val (.ref b_24), .val (.ref b_26), .unset, .unset, .unset, .unset, .unset] [(.int y27), (.int p4)])) rfl (by rw [hml]; rfl) (argsL := [(.int p4), (.int y27)]) (rest := []) (lenOf pd_16 rfl) rfl (by show 2 * 0 + _ ≤ _; exact Nat.le_of_eq rfl) (hb hby at_40) (fun _ _ => ⟨rfl, rfl, (by decide : 12 + 6 ≤ _), (by decide : 24 + 12 ≤ _)⟩)
    dsimp only [Pt.U, Pt.locs, Pt.cells, Pt.slots] at X28 l28 y28 z28 st28 hQ28 hs28 gs28 r28
    subst l28 y28 z28
    obtain ⟨X28, hS, hZ, hown⟩ := rebS hS hk X28 hs28 gs28 hZ hown
    obtain ⟨b_28, rfl, N28q, Kc28, r28_0, r28_1⟩ := hQ28
    have N28 := Fr.app N26 N28q
    refine own_via st28 ?_
    have hk := Nat.le_refl T28.heap.size
    have K28 : Keep h0 T28.heap [] := K26.trans Kc28 all0
    have R28 := R26.trans r28
    have O28 := O26.keep Kc28 all0
    refine own_go (A := T28.setTop (mkF m 66 #[.val (.int p1), .val (.int p2), .val (.int p3), .val (.int p4), .val (.int p5), .val (.int (1 : Int32)), .val (.ref b_24), .val (.ref b_26), .val (.ref b_28), .unset, .unset, .unset, .unset] [(.int (1 : Int32))])) (fun t_ k_ => ?_) ?_
    · show Steps p.tables e below (T28.setTop (mkF m 43 #[.val (.int p1), .val (.int p2), .val (.int p3), .val (.int p4), .val (.int p5), .val (.int (1 : Int32)), .val (.ref b_24), .val (.ref b_26), .unset, .unset, .unset, .unset, .unset] [(.ref b_28)])) t_
      refine XS.astore X28.here hx rfl (hb hby at_43) rfl rfl (l' := #[.val (.int p1), .val (.int p2), .val (.int p3), .val (.int p4), .val (.int p5), .val (.int (1 : Int32)), .val (.ref b_24), .val (.ref b_26), .val (.ref b_28), .unset, .unset, .unset, .unset]) rfl ?_
      show Steps p.tables e below (T28.setTop (mkF m 45 #[.val (.int p1), .val (.int p2), .val (.int p3), .val (.int p4), .val (.int p5), .val (.int (1 : Int32)), .val (.ref b_24), .val (.ref b_26), .val (.ref b_28), .unset, .unset, .unset, .unset] [])) t_
      refine XS.iload X28.here hx rfl (hb hby at_45) rfl ?_
      show Steps p.tables e below (T28.setTop (mkF m 47 #[.val (.int p1), .val (.int p2), .val (.int p3), .val (.int p4), .val (.int p5), .val (.int (1 : Int32)), .val (.ref b_24), .val (.ref b_26), .val (.ref b_28), .unset, .unset, .unset, .unset] [(.int (1 : Int32))])) t_
      refine XS.ifYes X28.here hx rfl (pc0 := 47) (pc' := 59) rfl (hb hby at_47) rfl ((if0 _ _).trans (feq (by decide : ¬ ((1 : Int32) = (0 : Int32)))).2) (by decide) (by decide) ?_
      show Steps p.tables e below (T28.setTop (mkF m 59 #[.val (.int p1), .val (.int p2), .val (.int p3), .val (.int p4), .val (.int p5), .val (.int (1 : Int32)), .val (.ref b_24), .val (.ref b_26), .val (.ref b_28), .unset, .unset, .unset, .unset] [])) t_
      refine XS.iload X28.here hx rfl (hb hby at_59) rfl ?_
      show Steps p.tables e below (T28.setTop (mkF m 61 #[.val (.int p1), .val (.int p2), .val (.int p3), .val (.int p4), .val (.int p5), .val (.int (1 : Int32)), .val (.ref b_24), .val (.ref b_26), .val (.ref b_28), .unset, .unset, .unset, .unset] [(.int (1 : Int32))])) t_
      refine XS.iconst X28.here hx rfl (hb hby at_61) ?_
      show Steps p.tables e below (T28.setTop (mkF m 62 #[.val (.int p1), .val (.int p2), .val (.int p3), .val (.int p4), .val (.int p5), .val (.int (1 : Int32)), .val (.ref b_24), .val (.ref b_26), .val (.ref b_28), .unset, .unset, .unset, .unset] [(.int (1 : Int32)), (.int (1 : Int32))])) t_
      refine XS.icmpNo X28.here hx rfl (hb hby at_62) rfl (teq (by decide : (1 : Int32) = (1 : Int32))).2 ?_
      show Steps p.tables e below (T28.setTop (mkF m 65 #[.val (.int p1), .val (.int p2), .val (.int p3), .val (.int p4), .val (.int p5), .val (.int (1 : Int32)), .val (.ref b_24), .val (.ref b_26), .val (.ref b_28), .unset, .unset, .unset, .unset] [])) t_
      refine XS.iconst X28.here hx rfl (hb hby at_65) ?_
      exact k_
    obtain ⟨T29, h29, k29, X29, e29, E29, A29, V29, st29⟩ := newR X28 hx hZ hown (own_w hw 4 rfl) (own_w hw 26 rfl) rfl (g := (mkF m 66 #[.val (.int p1), .val (.int p2), .val (.int p3), .val (.int p4), .val (.int p5), .val (.int (1 : Int32)), .val (.ref b_24), .val (.ref b_26), .val (.ref b_28), .unset, .unset, .unset, .unset] [(.int (1 : Int32))])) rfl (hb hby at_66) rfl (by decide) (cap := 1) (by decide) (by decide) (by decide) (by decide)
    obtain ⟨b29, g29⟩ : ∃ z, z = T28.heap.size := ⟨_, rfl⟩
    rw [← g29] at A29 st29
    refine own_go st29 ?_
    have K29 : Keep h0 h29 [] := K28.ext E29
    have r29 := CHr.ext E29 R28.1
    have R29 := R28.trans r29
    have hk := Nat.le_trans hk E29.1
    have O29 := O28.ext E29
    have Q29 := Safe.ext E29 R28.1 (Safe.new (Nat.le_of_eq g29.symm))
    have B29 : Arv Z h29 b29 k29 (.object "java/lang/String") (1 : Int32) [.null] .null := (Arv.new A29 (by decide)).pad (pad_rep [] .null 1)
    refine own_go (A := T29.setTop (mkF m 73 #[.val (.int p1), .val (.int p2), .val (.int p3), .val (.int p4), .val (.int p5), .val (.int (1 : Int32)), .val (.ref b_24), .val (.ref b_26), .val (.ref b_28), .unset, .unset, .unset, .unset] [(.ref b_24), (.int (0 : Int32)), (.ref b29), (.ref b29)])) (fun t_ k_ => ?_) ?_
    · show Steps p.tables e below (T29.setTop (mkF m 69 #[.val (.int p1), .val (.int p2), .val (.int p3), .val (.int p4), .val (.int p5), .val (.int (1 : Int32)), .val (.ref b_24), .val (.ref b_26), .val (.ref b_28), .unset, .unset, .unset, .unset] [(.ref b29)])) t_
      refine XS.dup X29.here hx rfl (hb hby at_69) rfl rfl ?_
      show Steps p.tables e below (T29.setTop (mkF m 70 #[.val (.int p1), .val (.int p2), .val (.int p3), .val (.int p4), .val (.int p5), .val (.int (1 : Int32)), .val (.ref b_24), .val (.ref b_26), .val (.ref b_28), .unset, .unset, .unset, .unset] [(.ref b29), (.ref b29)])) t_
      refine XS.iconst X29.here hx rfl (hb hby at_70) ?_
      show Steps p.tables e below (T29.setTop (mkF m 71 #[.val (.int p1), .val (.int p2), .val (.int p3), .val (.int p4), .val (.int p5), .val (.int (1 : Int32)), .val (.ref b_24), .val (.ref b_26), .val (.ref b_28), .unset, .unset, .unset, .unset] [(.int (0 : Int32)), (.ref b29), (.ref b29)])) t_
      refine XS.aload X29.here hx rfl (hb hby at_71) rfl rfl ?_
      exact k_
    obtain ⟨cl30, Ar30, q30, S30, M30, H30, G30⟩ := id B29
    have hin30 : ¬ ((0 : Int32) < 0 ∨ cl30.slots.size ≤ ((0 : Int32)).toNatClampNeg) := inb_of S30 ⟨by decide, by decide⟩
    obtain ⟨T31, h31, X31, e31, W31, st31⟩ := stR X29 hx hZ e29 Ar30 (j := (0 : Int32)) hin30 rfl (Sto.ofV Ar30 q30 V29 (Ins.self (((r24_1.keep Kc26).keep Kc28).ext E29))) (g := (mkF m 73 #[.val (.int p1), .val (.int p2), .val (.int p3), .val (.int p4), .val (.int p5), .val (.int (1 : Int32)), .val (.ref b_24), .val (.ref b_26), .val (.ref b_28), .unset, .unset, .unset, .unset] [(.ref b_24), (.int (0 : Int32)), (.ref b29), (.ref b29)])) rfl rfl (hb hby at_73)
    have B31 : Arv Z h31 b29 k29 (.object "java/lang/String") (1 : Int32) [(.ref b_24)] .null := Arv.set Ar30 q30 S30 M30 H30 G30 rfl W31 0 rfl (Nat.le_of_ble_eq_true rfl)
    refine own_go st31 ?_
    have K31 : Keep h0 h31 [] := K29.wr W31 (Or.inr (Nat.le_trans K28.1 (Nat.le_of_eq g29.symm)))
    have r31 := CHr.wr W31 Q29 R29.1
    have R31 := R29.trans r31
    have hk := Nat.le_trans hk (Keep.of_wr W31).1
    have O31 := O29.wr W31 (Nat.le_trans Z0 (Nat.le_trans K28.1 (Nat.le_of_eq g29.symm)))
    have N31 := Fr.snoc X31 N28 (Nat.le_trans Z0 (Nat.le_trans K28.1 (Nat.le_of_eq g29.symm)))
    refine own_go (A := T31.setTop (mkF m 125 #[.val (.int p1), .val (.int p2), .val (.int p3), .val (.int p4), .val (.int p5), .val (.int (1 : Int32)), .val (.ref b_24), .val (.ref b_26), .val (.ref b_28), .val (.ref b29), .unset, .unset, .unset] [])) (fun t_ k_ => ?_) ?_
    · show Steps p.tables e below (T31.setTop (mkF m 74 #[.val (.int p1), .val (.int p2), .val (.int p3), .val (.int p4), .val (.int p5), .val (.int (1 : Int32)), .val (.ref b_24), .val (.ref b_26), .val (.ref b_28), .unset, .unset, .unset, .unset] [(.ref b29)])) t_
      refine XS.astore X31.here hx rfl (hb hby at_74) rfl rfl (l' := #[.val (.int p1), .val (.int p2), .val (.int p3), .val (.int p4), .val (.int p5), .val (.int (1 : Int32)), .val (.ref b_24), .val (.ref b_26), .val (.ref b_28), .val (.ref b29), .unset, .unset, .unset]) rfl ?_
      show Steps p.tables e below (T31.setTop (mkF m 76 #[.val (.int p1), .val (.int p2), .val (.int p3), .val (.int p4), .val (.int p5), .val (.int (1 : Int32)), .val (.ref b_24), .val (.ref b_26), .val (.ref b_28), .val (.ref b29), .unset, .unset, .unset] [])) t_
      refine XS.goto X31.here hx rfl (pc0 := 76) (pc' := 125) rfl (hb hby at_76) (by decide) (by decide) ?_
      exact k_
    obtain ⟨T32, h32, X32, e32, E32, A32, D32, -, st32⟩ := newO X31 hx hZ hown (own_w hw 4 rfl) (own_w hw 5 rfl) (own_w hw 6 rfl) e31 (g := (mkF m 125 #[.val (.int p1), .val (.int p2), .val (.int p3), .val (.int p4), .val (.int p5), .val (.int (1 : Int32)), .val (.ref b_24), .val (.ref b_26), .val (.ref b_28), .val (.ref b29), .unset, .unset, .unset] [])) rfl (hb hby at_125) (by decide) (by decide)
    obtain ⟨b32, g32⟩ : ∃ z, z = h31.size := ⟨_, rfl⟩
    rw [← g32] at A32 D32 st32
    refine own_go st32 ?_
    have K32 : Keep h0 h32 [] := K31.ext E32
    have r32 := CHr.ext E32 R31.1
    have R32 := R31.trans r32
    have hk := Nat.le_trans hk E32.1
    have O32 := O31.ext E32
    have Q32 := Safe.ext E32 R31.1 (Safe.new (Nat.le_of_eq g32.symm))
    have F32_value : Fld Z h32 b32 "java/lang/String" "value" "[B" .null := D32 (Or.inr (own_w hw 20 rfl)) (ty := (.array .byte)) (by decide)
    have F32_coder : Fld Z h32 b32 "java/lang/String" "coder" "B" (.int (0 : Int32)) := D32 (Or.inr (own_w hw 21 rfl)) (ty := .byte) (by decide)
    refine own_go (A := T32.setTop (mkF m 130 #[.val (.int p1), .val (.int p2), .val (.int p3), .val (.int p4), .val (.int p5), .val (.int (1 : Int32)), .val (.ref b_24), .val (.ref b_26), .val (.ref b_28), .val (.ref b29), .unset, .unset, .unset] [(.int (3 : Int32)), (.ref b32), (.ref b32)])) (fun t_ k_ => ?_) ?_
    · show Steps p.tables e below (T32.setTop (mkF m 128 #[.val (.int p1), .val (.int p2), .val (.int p3), .val (.int p4), .val (.int p5), .val (.int (1 : Int32)), .val (.ref b_24), .val (.ref b_26), .val (.ref b_28), .val (.ref b29), .unset, .unset, .unset] [(.ref b32)])) t_
      refine XS.dup X32.here hx rfl (hb hby at_128) rfl rfl ?_
      show Steps p.tables e below (T32.setTop (mkF m 129 #[.val (.int p1), .val (.int p2), .val (.int p3), .val (.int p4), .val (.int p5), .val (.int (1 : Int32)), .val (.ref b_24), .val (.ref b_26), .val (.ref b_28), .val (.ref b29), .unset, .unset, .unset] [(.ref b32), (.ref b32)])) t_
      refine XS.iconst X32.here hx rfl (hb hby at_129) ?_
      exact k_
    obtain ⟨T33, h33, k33, X33, e33, E33, A33, st33⟩ := newP X32 hx hZ (own_w hw 7 rfl) e32 (g := (mkF m 130 #[.val (.int p1), .val (.int p2), .val (.int p3), .val (.int p4), .val (.int p5), .val (.int (1 : Int32)), .val (.ref b_24), .val (.ref b_26), .val (.ref b_28), .val (.ref b29), .unset, .unset, .unset] [(.int (3 : Int32)), (.ref b32), (.ref b32)])) rfl (hb hby at_130) rfl (by decide) (cap := 3) (by decide) (by decide) (by decide) (by decide)
    obtain ⟨b33, g33⟩ : ∃ z, z = h32.size := ⟨_, rfl⟩
    rw [← g33] at A33 st33
    refine own_go st33 ?_
    have K33 : Keep h0 h33 [] := K32.ext E33
    have r33 := CHr.ext E33 R32.1
    have R33 := R32.trans r33
    have hk := Nat.le_trans hk E33.1
    have O33 := O32.ext E33
    have Q33 := Safe.ext E33 R32.1 (Safe.new (Nat.le_of_eq g33.symm))
    have B33 : Arv Z h33 b33 k33 .char (3 : Int32) [(.int (0 : Int32)), (.int (0 : Int32)), (.int (0 : Int32))] (.int (0 : Int32)) := (Arv.new A33 (by decide)).pad (pad_rep [] (.int (0 : Int32)) 3)
    refine own_go (A := T33.setTop (mkF m 136 #[.val (.int p1), .val (.int p2), .val (.int p3), .val (.int p4), .val (.int p5), .val (.int (1 : Int32)), .val (.ref b_24), .val (.ref b_26), .val (.ref b_28), .val (.ref b29), .unset, .unset, .unset] [(.int (120 : Int32)), (.int (0 : Int32)), (.ref b33), (.ref b33), (.ref b32), (.ref b32)])) (fun t_ k_ => ?_) ?_
    · show Steps p.tables e below (T33.setTop (mkF m 132 #[.val (.int p1), .val (.int p2), .val (.int p3), .val (.int p4), .val (.int p5), .val (.int (1 : Int32)), .val (.ref b_24), .val (.ref b_26), .val (.ref b_28), .val (.ref b29), .unset, .unset, .unset] [(.ref b33), (.ref b32), (.ref b32)])) t_
      refine XS.dup X33.here hx rfl (hb hby at_132) rfl rfl ?_
      show Steps p.tables e below (T33.setTop (mkF m 133 #[.val (.int p1), .val (.int p2), .val (.int p3), .val (.int p4), .val (.int p5), .val (.int (1 : Int32)), .val (.ref b_24), .val (.ref b_26), .val (.ref b_28), .val (.ref b29), .unset, .unset, .unset] [(.ref b33), (.ref b33), (.ref b32), (.ref b32)])) t_
      refine XS.iconst X33.here hx rfl (hb hby at_133) ?_
      show Steps p.tables e below (T33.setTop (mkF m 134 #[.val (.int p1), .val (.int p2), .val (.int p3), .val (.int p4), .val (.int p5), .val (.int (1 : Int32)), .val (.ref b_24), .val (.ref b_26), .val (.ref b_28), .val (.ref b29), .unset, .unset, .unset] [(.int (0 : Int32)), (.ref b33), (.ref b33), (.ref b32), (.ref b32)])) t_
      refine XS.bipush X33.here hx rfl (hb hby at_134) ?_
      exact k_
    obtain ⟨cl34, Ar34, q34, S34, M34, H34, G34⟩ := id B33
    have hin34 : ¬ ((0 : Int32) < 0 ∨ cl34.slots.size ≤ ((0 : Int32)).toNatClampNeg) := inb_of S34 ⟨by decide, by decide⟩
    obtain ⟨T35, h35, X35, e35, W35, st35⟩ := stC X33 hx hZ e33 Ar34 (j := (0 : Int32)) hin34 (g := (mkF m 136 #[.val (.int p1), .val (.int p2), .val (.int p3), .val (.int p4), .val (.int p5), .val (.int (1 : Int32)), .val (.ref b_24), .val (.ref b_26), .val (.ref b_28), .val (.ref b29), .unset, .unset, .unset] [(.int (120 : Int32)), (.int (0 : Int32)), (.ref b33), (.ref b33), (.ref b32), (.ref b32)])) rfl rfl (hb hby at_136)
    have B35 : Arv Z h35 b33 k33 .char (3 : Int32) [(.int (120 : Int32)), (.int (0 : Int32)), (.int (0 : Int32))] (.int (0 : Int32)) := Arv.set Ar34 q34 S34 M34 H34 G34 (fits_nar_char _) W35 0 rfl (Nat.le_of_ble_eq_true rfl)
    refine own_go st35 ?_
    have K35 : Keep h0 h35 [] := K33.wr W35 (Or.inr (Nat.le_trans K32.1 (Nat.le_of_eq g33.symm)))
    have r35 := CHr.wr W35 Q33 R33.1
    have R35 := R33.trans r35
    have hk := Nat.le_trans hk (Keep.of_wr W35).1
    have O35 := O33.wr W35 (Nat.le_trans Z0 (Nat.le_trans K32.1 (Nat.le_of_eq g33.symm)))
    have N35 := Fr.snoc X35 N31 (Nat.le_trans Z0 (Nat.le_trans K32.1 (Nat.le_of_eq g33.symm)))
    refine own_go (A := T35.setTop (mkF m 141 #[.val (.int p1), .val (.int p2), .val (.int p3), .val (.int p4), .val (.int p5), .val (.int (1 : Int32)), .val (.ref b_24), .val (.ref b_26), .val (.ref b_28), .val (.ref b29), .unset, .unset, .unset] [(.int (121 : Int32)), (.int (1 : Int32)), (.ref b33), (.ref b33), (.ref b32), (.ref b32)])) (fun t_ k_ => ?_) ?_
    · show Steps p.tables e below (T35.setTop (mkF m 137 #[.val (.int p1), .val (.int p2), .val (.int p3), .val (.int p4), .val (.int p5), .val (.int (1 : Int32)), .val (.ref b_24), .val (.ref b_26), .val (.ref b_28), .val (.ref b29), .unset, .unset, .unset] [(.ref b33), (.ref b32), (.ref b32)])) t_
      refine XS.dup X35.here hx rfl (hb hby at_137) rfl rfl ?_
      show Steps p.tables e below (T35.setTop (mkF m 138 #[.val (.int p1), .val (.int p2), .val (.int p3), .val (.int p4), .val (.int p5), .val (.int (1 : Int32)), .val (.ref b_24), .val (.ref b_26), .val (.ref b_28), .val (.ref b29), .unset, .unset, .unset] [(.ref b33), (.ref b33), (.ref b32), (.ref b32)])) t_
      refine XS.iconst X35.here hx rfl (hb hby at_138) ?_
      show Steps p.tables e below (T35.setTop (mkF m 139 #[.val (.int p1), .val (.int p2), .val (.int p3), .val (.int p4), .val (.int p5), .val (.int (1 : Int32)), .val (.ref b_24), .val (.ref b_26), .val (.ref b_28), .val (.ref b29), .unset, .unset, .unset] [(.int (1 : Int32)), (.ref b33), (.ref b33), (.ref b32), (.ref b32)])) t_
      refine XS.bipush X35.here hx rfl (hb hby at_139) ?_
      exact k_
    obtain ⟨cl36, Ar36, q36, S36, M36, H36, G36⟩ := id B35
    have hin36 : ¬ ((1 : Int32) < 0 ∨ cl36.slots.size ≤ ((1 : Int32)).toNatClampNeg) := inb_of S36 ⟨by decide, by decide⟩
    obtain ⟨T37, h37, X37, e37, W37, st37⟩ := stC X35 hx hZ e35 Ar36 (j := (1 : Int32)) hin36 (g := (mkF m 141 #[.val (.int p1), .val (.int p2), .val (.int p3), .val (.int p4), .val (.int p5), .val (.int (1 : Int32)), .val (.ref b_24), .val (.ref b_26), .val (.ref b_28), .val (.ref b29), .unset, .unset, .unset] [(.int (121 : Int32)), (.int (1 : Int32)), (.ref b33), (.ref b33), (.ref b32), (.ref b32)])) rfl rfl (hb hby at_141)
    have B37 : Arv Z h37 b33 k33 .char (3 : Int32) [(.int (120 : Int32)), (.int (121 : Int32)), (.int (0 : Int32))] (.int (0 : Int32)) := Arv.set Ar36 q36 S36 M36 H36 G36 (fits_nar_char _) W37 1 rfl (Nat.le_of_ble_eq_true rfl)
    refine own_go st37 ?_
    have K37 : Keep h0 h37 [] := K35.wr W37 (Or.inr (Nat.le_trans K32.1 (Nat.le_of_eq g33.symm)))
    have r37 := CHr.wr W37 (r35.safe B33.lt Q33) R35.1
    have R37 := R35.trans r37
    have hk := Nat.le_trans hk (Keep.of_wr W37).1
    have O37 := O35.wr W37 (Nat.le_trans Z0 (Nat.le_trans K32.1 (Nat.le_of_eq g33.symm)))
    have N37 := Fr.snoc X37 N35 (Nat.le_trans Z0 (Nat.le_trans K32.1 (Nat.le_of_eq g33.symm)))
    refine own_go (A := T37.setTop (mkF m 146 #[.val (.int p1), .val (.int p2), .val (.int p3), .val (.int p4), .val (.int p5), .val (.int (1 : Int32)), .val (.ref b_24), .val (.ref b_26), .val (.ref b_28), .val (.ref b29), .unset, .unset, .unset] [(.int (122 : Int32)), (.int (2 : Int32)), (.ref b33), (.ref b33), (.ref b32), (.ref b32)])) (fun t_ k_ => ?_) ?_
    · show Steps p.tables e below (T37.setTop (mkF m 142 #[.val (.int p1), .val (.int p2), .val (.int p3), .val (.int p4), .val (.int p5), .val (.int (1 : Int32)), .val (.ref b_24), .val (.ref b_26), .val (.ref b_28), .val (.ref b29), .unset, .unset, .unset] [(.ref b33), (.ref b32), (.ref b32)])) t_
      refine XS.dup X37.here hx rfl (hb hby at_142) rfl rfl ?_
      show Steps p.tables e below (T37.setTop (mkF m 143 #[.val (.int p1), .val (.int p2), .val (.int p3), .val (.int p4), .val (.int p5), .val (.int (1 : Int32)), .val (.ref b_24), .val (.ref b_26), .val (.ref b_28), .val (.ref b29), .unset, .unset, .unset] [(.ref b33), (.ref b33), (.ref b32), (.ref b32)])) t_
      refine XS.iconst X37.here hx rfl (hb hby at_143) ?_
      show Steps p.tables e below (T37.setTop (mkF m 144 #[.val (.int p1), .val (.int p2), .val (.int p3), .val (.int p4), .val (.int p5), .val (.int (1 : Int32)), .val (.ref b_24), .val (.ref b_26), .val (.ref b_28), .val (.ref b29), .unset, .unset, .unset] [(.int (2 : Int32)), (.ref b33), (.ref b33), (.ref b32), (.ref b32)])) t_
      refine XS.bipush X37.here hx rfl (hb hby at_144) ?_
      exact k_
    obtain ⟨cl38, Ar38, q38, S38, M38, H38, G38⟩ := id B37
    have hin38 : ¬ ((2 : Int32) < 0 ∨ cl38.slots.size ≤ ((2 : Int32)).toNatClampNeg) := inb_of S38 ⟨by decide, by decide⟩
    obtain ⟨T39, h39, X39, e39, W39, st39⟩ := stC X37 hx hZ e37 Ar38 (j := (2 : Int32)) hin38 (g := (mkF m 146 #[.val (.int p1), .val (.int p2), .val (.int p3), .val (.int p4), .val (.int p5), .val (.int (1 : Int32)), .val (.ref b_24), .val (.ref b_26), .val (.ref b_28), .val (.ref b29), .unset, .unset, .unset] [(.int (122 : Int32)), (.int (2 : Int32)), (.ref b33), (.ref b33), (.ref b32), (.ref b32)])) rfl rfl (hb hby at_146)
    have B39 : Arv Z h39 b33 k33 .char (3 : Int32) [(.int (120 : Int32)), (.int (121 : Int32)), (.int (122 : Int32))] (.int (0 : Int32)) := Arv.set Ar38 q38 S38 M38 H38 G38 (fits_nar_char _) W39 2 rfl (Nat.le_of_ble_eq_true rfl)
    refine own_go st39 ?_
    have K39 : Keep h0 h39 [] := K37.wr W39 (Or.inr (Nat.le_trans K32.1 (Nat.le_of_eq g33.symm)))
    have r39 := CHr.wr W39 (r37.safe (Nat.lt_of_lt_of_le B33.lt (Keep.of_wr W35).1) (r35.safe B33.lt Q33)) R37.1
    have R39 := R37.trans r39
    have hk := Nat.le_trans hk (Keep.of_wr W39).1
    have O39 := O37.wr W39 (Nat.le_trans Z0 (Nat.le_trans K32.1 (Nat.le_of_eq g33.symm)))
    have N39 := Fr.snoc X39 N37 (Nat.le_trans Z0 (Nat.le_trans K32.1 (Nat.le_of_eq g33.symm)))
    obtain ⟨_, _, ⟨T40, L40, k40, n40⟩, -, X40, ⟨Lc40, hQ40, l40, y40, z40⟩, st40⟩ := X39.specialBack hx (y := own_y8) rfl hown (mvT hZ (own_w hw 8 rfl)) (mvT hZ (own_w hw 9 rfl)) (mvT hZ (own_w hw 10 rfl)) (by decide) (backOf (W := 1) (rmSC3 l Z a0 hw [] b32 b33 cs k33 (120 : Int32) (121 : Int32) (122 : Int32) h39 n0 (Nat.le_trans Z0 K39.1) O39 u1 hcs ((((A32.ext E33).wr W35).wr W37).wr W39) ((((F32_value.ext E33).other W35 (Or.inl (Nat.ne_of_lt (Nat.lt_of_lt_of_le A32.lt (Nat.le_of_eq g33.symm))))).other W37 (Or.inl (Nat.ne_of_lt (Nat.lt_of_lt_of_le A32.lt (Nat.le_of_eq g33.symm))))).other W39 (Or.inl (Nat.ne_of_lt (Nat.lt_of_lt_of_le A32.lt (Nat.le_of_eq g33.symm))))) ((((F32_coder.ext E33).other W35 (Or.inl (Nat.ne_of_lt (Nat.lt_of_lt_of_le A32.lt (Nat.le_of_eq g33.symm))))).other W37 (Or.inl (Nat.ne_of_lt (Nat.lt_of_lt_of_le A32.lt (Nat.le_of_eq g33.symm))))).other W39 (Or.inl (Nat.ne_of_lt (Nat.lt_of_lt_of_le A32.lt (Nat.le_of_eq g33.symm))))) (Nat.le_trans Z0 (Nat.le_trans K31.1 (Nat.le_of_eq g32.symm))) B39 (by decide : ¬ ((255 : Int32) < (120 : Int32))) (by decide : ¬ ((255 : Int32) < (121 : Int32))) (by decide : ¬ ((255 : Int32) < (122 : Int32)))) hZ (own_w hw 10 rfl) (own_w hw 6 rfl) (by decide) (by decide)) (g := (mkF m 147 #[.val (.int p1), .val (.int p2), .val (.int p3), .val (.int p4), .val (.int p5), .val (.int (1 : Int32)), .val (.ref b_24), .val (.ref b_26), .val (.ref b_28), .val (.ref b29), .unset, .unset, .unset] [(.ref b33), (.ref b32), (.ref b32)])) rfl (by rw [hml]; rfl) (Steps.refl _) (a := b32) (argsL := [(.ref b33)]) (rest := [(.ref b32)]) (lenOf pd_7 rfl) rfl (by show 2 * 0 + _ ≤ _; exact Nat.le_of_eq rfl) (hb hby at_147) (fun _ _ => ⟨rfl, e39, (by decide : 21 + 1 ≤ _), (by decide : 44 + 3 ≤ _)⟩)
    dsimp only [Pt.U, Pt.locs, Pt.cells, Pt.slots] at X40 l40 y40 z40 st40 hQ40
    subst l40 y40 z40
    obtain ⟨d_40, k_40, rfl, N40q, Kc40, r40_0, r40_1, r40_2, r40_3⟩ := hQ40
    have N40 := Fr.app N39 N40q
    refine own_via st40 ?_
    have K40 : Keep h0 T40.heap [] := K39.trans Kc40 (allS (P := fun x => x ∈ _ ∨ _ ≤ x) (Or.inr (Nat.le_trans K31.1 (Nat.le_of_eq g32.symm))) all0)
    have r40 := CHr.keep Kc40 (allS (P := fun x => Safe Z own_EL _ _ x) (r39.safe (Nat.lt_of_lt_of_le (Nat.lt_of_lt_of_le (Nat.lt_of_lt_of_le A32.lt E33.1) (Keep.of_wr W35).1) (Keep.of_wr W37).1) (r37.safe (Nat.lt_of_lt_of_le (Nat.lt_of_lt_of_le A32.lt E33.1) (Keep.of_wr W35).1) (r35.safe (Nat.lt_of_lt_of_le A32.lt E33.1) (r33.safe A32.lt Q32)))) all0) R39.1
    have R40 := R39.trans r40
    have hk := Nat.le_trans hk Kc40.1
    have O40 := O39.keep Kc40 (allS (P := fun x => n0 ≤ x) (Nat.le_trans Z0 (Nat.le_trans K31.1 (Nat.le_of_eq g32.symm))) all0)
    refine own_go (A := T40.setTop (mkF m 154 #[.val (.int p1), .val (.int p2), .val (.int p3), .val (.int p4), .val (.int p5), .val (.int (1 : Int32)), .val (.ref b_24), .val (.ref b_26), .val (.ref b_28), .val (.ref b29), .val (.ref b32), .unset, .unset] [(.ref b29)])) (fun t_ k_ => ?_) ?_
    · show Steps p.tables e below (T40.setTop (mkF m 150 #[.val (.int p1), .val (.int p2), .val (.int p3), .val (.int p4), .val (.int p5), .val (.int (1 : Int32)), .val (.ref b_24), .val (.ref b_26), .val (.ref b_28), .val (.ref b29), .unset, .unset, .unset] [(.ref b32)])) t_
      refine XS.astore X40.here hx rfl (hb hby at_150) rfl rfl (l' := #[.val (.int p1), .val (.int p2), .val (.int p3), .val (.int p4), .val (.int p5), .val (.int (1 : Int32)), .val (.ref b_24), .val (.ref b_26), .val (.ref b_28), .val (.ref b29), .val (.ref b32), .unset, .unset]) rfl ?_
      show Steps p.tables e below (T40.setTop (mkF m 152 #[.val (.int p1), .val (.int p2), .val (.int p3), .val (.int p4), .val (.int p5), .val (.int (1 : Int32)), .val (.ref b_24), .val (.ref b_26), .val (.ref b_28), .val (.ref b29), .val (.ref b32), .unset, .unset] [])) t_
      refine XS.aload X40.here hx rfl (hb hby at_152) rfl rfl ?_
      exact k_
    obtain ⟨_, _, ⟨T41, L41, k41, n41⟩, -, X41, ⟨Lc41, hQ41, l41, y41, z41⟩, st41⟩ := Jvm.LawKit.callS X40 hx (y := own_y20) hown (mvT hZ (own_w hw 38 rfl)) (mvT hZ (own_w hw 39 rfl)) (mvT hZ (own_w hw 40 rfl)) (mvT hZ (own_w hw 41 rfl)) (by decide) (backOf (W := 0) (rmDeny1 l Z a0 hw [] b29 k29 b_24 em T40.heap n0 (Nat.le_trans Z0 K40.1) O40 u3 ((((((B31.ext E32).ext E33).other W35 (Nat.ne_of_lt (Nat.lt_of_lt_of_le (Nat.lt_of_lt_of_le (Nat.lt_of_lt_of_le B29.lt (Keep.of_wr W31).1) E32.1) (Nat.le_of_eq g33.symm)))).other W37 (Nat.ne_of_lt (Nat.lt_of_lt_of_le (Nat.lt_of_lt_of_le (Nat.lt_of_lt_of_le B29.lt (Keep.of_wr W31).1) E32.1) (Nat.le_of_eq g33.symm)))).other W39 (Nat.ne_of_lt (Nat.lt_of_lt_of_le (Nat.lt_of_lt_of_le (Nat.lt_of_lt_of_le B29.lt (Keep.of_wr W31).1) E32.1) (Nat.le_of_eq g33.symm)))).keep Kc40 (ninS (Nat.ne_of_lt (Nat.lt_of_lt_of_le (Nat.lt_of_lt_of_le B29.lt (Keep.of_wr W31).1) (Nat.le_of_eq g32.symm))) nin0)) ((((((((((r24_1.keep Kc26).keep Kc28).ext E29).wr W31).ext E32).ext E33).wr W35).wr W37).wr W39).keep Kc40)) hZ (own_w hw 41 rfl) (own_w hw 40 rfl) (by decide) (by decide)) (g := (mkF m 154 #[.val (.int p1), .val (.int p2), .val (.int p3), .val (.int p4), .val (.int p5), .val (.int (1 : Int32)), .val (.ref b_24), .val (.ref b_26), .val (.ref b_28), .val (.ref b29), .val (.ref b32), .unset, .unset] [(.ref b29)])) rfl (by rw [hml]; rfl) (argsL := [(.ref b29)]) (rest := []) (lenOf pd_17 rfl) rfl (by show 2 * 0 + _ ≤ _; exact Nat.le_of_eq rfl) (hb hby at_154) (fun _ _ => ⟨rfl, rfl, (by decide : 22 + 2 ≤ _), (by decide : 47 + 4 ≤ _)⟩)
    dsimp only [Pt.U, Pt.locs, Pt.cells, Pt.slots] at X41 l41 y41 z41 st41 hQ41
    subst l41 y41 z41
    obtain ⟨vo_41, li_41, rfl, N41q, Kc41, r41_0, r41_1, r41_2, r41_3, r41_4, r41_5, r41_6, r41_7⟩ := hQ41
    have N41 := Fr.app N40 N41q
    refine own_go st41 ?_
    have K41 : Keep h0 T41.heap [] := K40.trans Kc41 all0
    have r41 := CHr.keep Kc41 all0 R40.1
    have R41 := R40.trans r41
    have hk := Nat.le_trans hk Kc41.1
    have O41 := O40.keep Kc41 all0
    refine own_go (A := T41.setTop (mkF m 170 #[.val (.int p1), .val (.int p2), .val (.int p3), .val (.int p4), .val (.int p5), .val (.int (1 : Int32)), .val (.ref b_24), .val (.ref b_26), .val (.ref b_28), .val (.ref b29), .val (.ref b32), .val (.ref vo_41), .unset] [(.ref b32), (.int (0 : Int32)), (.ref b29)])) (fun t_ k_ => ?_) ?_
    · show Steps p.tables e below (T41.setTop (mkF m 157 #[.val (.int p1), .val (.int p2), .val (.int p3), .val (.int p4), .val (.int p5), .val (.int (1 : Int32)), .val (.ref b_24), .val (.ref b_26), .val (.ref b_28), .val (.ref b29), .val (.ref b32), .unset, .unset] [(.ref vo_41)])) t_
      refine XS.astore X41.here hx rfl (hb hby at_157) rfl rfl (l' := #[.val (.int p1), .val (.int p2), .val (.int p3), .val (.int p4), .val (.int p5), .val (.int (1 : Int32)), .val (.ref b_24), .val (.ref b_26), .val (.ref b_28), .val (.ref b29), .val (.ref b32), .val (.ref vo_41), .unset]) rfl ?_
      show Steps p.tables e below (T41.setTop (mkF m 159 #[.val (.int p1), .val (.int p2), .val (.int p3), .val (.int p4), .val (.int p5), .val (.int (1 : Int32)), .val (.ref b_24), .val (.ref b_26), .val (.ref b_28), .val (.ref b29), .val (.ref b32), .val (.ref vo_41), .unset] [])) t_
      refine XS.iload X41.here hx rfl (hb hby at_159) rfl ?_
      show Steps p.tables e below (T41.setTop (mkF m 161 #[.val (.int p1), .val (.int p2), .val (.int p3), .val (.int p4), .val (.int p5), .val (.int (1 : Int32)), .val (.ref b_24), .val (.ref b_26), .val (.ref b_28), .val (.ref b29), .val (.ref b32), .val (.ref vo_41), .unset] [(.int (1 : Int32))])) t_
      refine XS.iconst X41.here hx rfl (hb hby at_161) ?_
      show Steps p.tables e below (T41.setTop (mkF m 162 #[.val (.int p1), .val (.int p2), .val (.int p3), .val (.int p4), .val (.int p5), .val (.int (1 : Int32)), .val (.ref b_24), .val (.ref b_26), .val (.ref b_28), .val (.ref b29), .val (.ref b32), .val (.ref vo_41), .unset] [(.int (1 : Int32)), (.int (1 : Int32))])) t_
      refine XS.icmpNo X41.here hx rfl (hb hby at_162) rfl (flt (by decide : ¬ ((1 : Int32) < (1 : Int32)))).1 ?_
      show Steps p.tables e below (T41.setTop (mkF m 165 #[.val (.int p1), .val (.int p2), .val (.int p3), .val (.int p4), .val (.int p5), .val (.int (1 : Int32)), .val (.ref b_24), .val (.ref b_26), .val (.ref b_28), .val (.ref b29), .val (.ref b32), .val (.ref vo_41), .unset] [])) t_
      refine XS.aload X41.here hx rfl (hb hby at_165) rfl rfl ?_
      show Steps p.tables e below (T41.setTop (mkF m 167 #[.val (.int p1), .val (.int p2), .val (.int p3), .val (.int p4), .val (.int p5), .val (.int (1 : Int32)), .val (.ref b_24), .val (.ref b_26), .val (.ref b_28), .val (.ref b29), .val (.ref b32), .val (.ref vo_41), .unset] [(.ref b29)])) t_
      refine XS.iconst X41.here hx rfl (hb hby at_167) ?_
      show Steps p.tables e below (T41.setTop (mkF m 168 #[.val (.int p1), .val (.int p2), .val (.int p3), .val (.int p4), .val (.int p5), .val (.int (1 : Int32)), .val (.ref b_24), .val (.ref b_26), .val (.ref b_28), .val (.ref b29), .val (.ref b32), .val (.ref vo_41), .unset] [(.int (0 : Int32)), (.ref b29)])) t_
      refine XS.aload X41.here hx rfl (hb hby at_168) rfl rfl ?_
      exact k_
    obtain ⟨cl42, Ar42, q42, S42, M42, H42, G42⟩ := id (((((((B31.ext E32).ext E33).other W35 (Nat.ne_of_lt (Nat.lt_of_lt_of_le (Nat.lt_of_lt_of_le (Nat.lt_of_lt_of_le B29.lt (Keep.of_wr W31).1) E32.1) (Nat.le_of_eq g33.symm)))).other W37 (Nat.ne_of_lt (Nat.lt_of_lt_of_le (Nat.lt_of_lt_of_le (Nat.lt_of_lt_of_le B29.lt (Keep.of_wr W31).1) E32.1) (Nat.le_of_eq g33.symm)))).other W39 (Nat.ne_of_lt (Nat.lt_of_lt_of_le (Nat.lt_of_lt_of_le (Nat.lt_of_lt_of_le B29.lt (Keep.of_wr W31).1) E32.1) (Nat.le_of_eq g33.symm)))).keep Kc40 (ninS (Nat.ne_of_lt (Nat.lt_of_lt_of_le (Nat.lt_of_lt_of_le B29.lt (Keep.of_wr W31).1) (Nat.le_of_eq g32.symm))) nin0)).keep Kc41 nin0)
    have hin42 : ¬ ((0 : Int32) < 0 ∨ cl42.slots.size ≤ ((0 : Int32)).toNatClampNeg) := inb_of S42 ⟨by decide, by decide⟩
    obtain ⟨T43, h43, X43, e43, W43, st43⟩ := stR X41 hx hZ rfl Ar42 (j := (0 : Int32)) hin42 rfl (Sto.ofV Ar42 q42 V29 (Ins.self ((((((A32.ext E33).wr W35).wr W37).wr W39).keep Kc40).keep Kc41))) (g := (mkF m 170 #[.val (.int p1), .val (.int p2), .val (.int p3), .val (.int p4), .val (.int p5), .val (.int (1 : Int32)), .val (.ref b_24), .val (.ref b_26), .val (.ref b_28), .val (.ref b29), .val (.ref b32), .val (.ref vo_41), .unset] [(.ref b32), (.int (0 : Int32)), (.ref b29)])) rfl rfl (hb hby at_170)
    have B43 : Arv Z h43 b29 k29 (.object "java/lang/String") (1 : Int32) [(.ref b32)] .null := Arv.set Ar42 q42 S42 M42 H42 G42 rfl W43 0 rfl (Nat.le_of_ble_eq_true rfl)
    refine own_go st43 ?_
    have K43 : Keep h0 h43 [] := K41.wr W43 (Or.inr (Nat.le_trans K28.1 (Nat.le_of_eq g29.symm)))
    have r43 := CHr.wr W43 (r41.safe (Nat.lt_of_lt_of_le (Nat.lt_of_lt_of_le (Nat.lt_of_lt_of_le (Nat.lt_of_lt_of_le (Nat.lt_of_lt_of_le (Nat.lt_of_lt_of_le (Nat.lt_of_lt_of_le B29.lt (Keep.of_wr W31).1) E32.1) E33.1) (Keep.of_wr W35).1) (Keep.of_wr W37).1) (Keep.of_wr W39).1) Kc40.1) (r40.safe (Nat.lt_of_lt_of_le (Nat.lt_of_lt_of_le (Nat.lt_of_lt_of_le (Nat.lt_of_lt_of_le (Nat.lt_of_lt_of_le (Nat.lt_of_lt_of_le B29.lt (Keep.of_wr W31).1) E32.1) E33.1) (Keep.of_wr W35).1) (Keep.of_wr W37).1) (Keep.of_wr W39).1) (r39.safe (Nat.lt_of_lt_of_le (Nat.lt_of_lt_of_le (Nat.lt_of_lt_of_le (Nat.lt_of_lt_of_le (Nat.lt_of_lt_of_le B29.lt (Keep.of_wr W31).1) E32.1) E33.1) (Keep.of_wr W35).1) (Keep.of_wr W37).1) (r37.safe (Nat.lt_of_lt_of_le (Nat.lt_of_lt_of_le (Nat.lt_of_lt_of_le (Nat.lt_of_lt_of_le B29.lt (Keep.of_wr W31).1) E32.1) E33.1) (Keep.of_wr W35).1) (r35.safe (Nat.lt_of_lt_of_le (Nat.lt_of_lt_of_le (Nat.lt_of_lt_of_le B29.lt (Keep.of_wr W31).1) E32.1) E33.1) (r33.safe (Nat.lt_of_lt_of_le (Nat.lt_of_lt_of_le B29.lt (Keep.of_wr W31).1) E32.1) (r32.safe (Nat.lt_of_lt_of_le B29.lt (Keep.of_wr W31).1) (r31.safe B29.lt Q29)))))))) R41.1
    have R43 := R41.trans r43
    have hk := Nat.le_trans hk (Keep.of_wr W43).1
    have O43 := O41.wr W43 (Nat.le_trans Z0 (Nat.le_trans K28.1 (Nat.le_of_eq g29.symm)))
    have N43 := Fr.snoc X43 N41 (Nat.le_trans Z0 (Nat.le_trans K28.1 (Nat.le_of_eq g29.symm)))
    refine own_go (A := T43.setTop (mkF m 173 #[.val (.int p1), .val (.int p2), .val (.int p3), .val (.int p4), .val (.int p5), .val (.int (1 : Int32)), .val (.ref b_24), .val (.ref b_26), .val (.ref b_28), .val (.ref b29), .val (.ref b32), .val (.ref vo_41), .unset] [(.ref vo_41)])) (fun t_ k_ => ?_) ?_
    · show Steps p.tables e below (T43.setTop (mkF m 171 #[.val (.int p1), .val (.int p2), .val (.int p3), .val (.int p4), .val (.int p5), .val (.int (1 : Int32)), .val (.ref b_24), .val (.ref b_26), .val (.ref b_28), .val (.ref b29), .val (.ref b32), .val (.ref vo_41), .unset] [])) t_
      refine XS.aload X43.here hx rfl (hb hby at_171) rfl rfl ?_
      exact k_
    obtain ⟨cq44, kq44, q44a, q44b, q44c⟩ := isOf hZ e43 (r41_1.wr W43)
    obtain ⟨_, _, ⟨T44, L44, k44, n44⟩, -, X44, ⟨Lc44, hQ44, l44, y44, z44⟩, st44⟩ := X43.virtualBack hx (y := own_y21) (z := own_y21) hown (mvT hZ (own_w hw 44 rfl)) (mvT hZ (own_w hw 45 rfl)) (notFace_of_selects (args := #[]) (mvT hZ (own_w hw 47 rfl))) (mvT hZ (own_w hw 47 rfl)) (mvT hZ (own_w hw 46 rfl)) (by decide) (backOf (W := 0) (rmAll l Z a0 hw [] vo_41 h43 n0 (Nat.le_trans Z0 K43.1) (r41_2.other W43 (Or.inl (Ne.symm (Nat.ne_of_lt (Nat.lt_of_lt_of_le (Nat.lt_of_lt_of_le (Nat.lt_of_lt_of_le (Nat.lt_of_lt_of_le (Nat.lt_of_lt_of_le (Nat.lt_of_lt_of_le (Nat.lt_of_lt_of_le (Nat.lt_of_lt_of_le B29.lt (Keep.of_wr W31).1) E32.1) E33.1) (Keep.of_wr W35).1) (Keep.of_wr W37).1) (Keep.of_wr W39).1) Kc40.1) r41_0)))))) hZ (own_w hw 48 rfl) (own_w hw 40 rfl) (by decide) (by decide)) q44a q44c (g := (mkF m 173 #[.val (.int p1), .val (.int p2), .val (.int p3), .val (.int p4), .val (.int p5), .val (.int (1 : Int32)), .val (.ref b_24), .val (.ref b_26), .val (.ref b_28), .val (.ref b29), .val (.ref b32), .val (.ref vo_41), .unset] [(.ref vo_41)])) rfl (by rw [hml]; rfl) (Steps.refl _) (argsL := []) (rest := []) (lenOf pd_18 rfl) rfl (by show 2 * 0 + _ ≤ _; exact Nat.le_of_eq rfl) (hb hby at_173) (fun _ _ => ⟨rfl, e43, (by decide : 24 + 0 ≤ _), (by decide : 51 + 0 ≤ _)⟩)
    dsimp only [Pt.U, Pt.locs, Pt.cells, Pt.slots] at X44 l44 y44 z44 st44 hQ44
    subst l44 y44 z44
    obtain ⟨rfl, N44q, eh44⟩ := hQ44
    have N44 := Fr.app N43 N44q
    refine own_via st44 ?_
    refine own_go (A := T44.setTop (mkF m 183 #[.val (.int p1), .val (.int p2), .val (.int p3), .val (.int p4), .val (.int p5), .val (.int (1 : Int32)), .val (.ref b_24), .val (.ref b_26), .val (.ref b_28), .val (.ref b29), .val (.ref b32), .val (.ref vo_41), .unset] [(.ref vo_41)])) (fun t_ k_ => ?_) ?_
    · show Steps p.tables e below (T44.setTop (mkF m 176 #[.val (.int p1), .val (.int p2), .val (.int p3), .val (.int p4), .val (.int p5), .val (.int (1 : Int32)), .val (.ref b_24), .val (.ref b_26), .val (.ref b_28), .val (.ref b29), .val (.ref b32), .val (.ref vo_41), .unset] [(.int (0 : Int32))])) t_
      refine XS.ifYes X44.here hx rfl (pc0 := 176) (pc' := 181) rfl (hb hby at_176) rfl ((if0 _ _).trans (teq (by decide : (0 : Int32) = (0 : Int32))).1) (by decide) (by decide) ?_
      show Steps p.tables e below (T44.setTop (mkF m 181 #[.val (.int p1), .val (.int p2), .val (.int p3), .val (.int p4), .val (.int p5), .val (.int (1 : Int32)), .val (.ref b_24), .val (.ref b_26), .val (.ref b_28), .val (.ref b29), .val (.ref b32), .val (.ref vo_41), .unset] [])) t_
      refine XS.aload X44.here hx rfl (hb hby at_181) rfl rfl ?_
      exact k_
    obtain ⟨cq45, kq45, q45a, q45b, q45c⟩ := isOf hZ eh44 (r41_1.wr W43)
    obtain ⟨_, _, ⟨T45, L45, k45, n45⟩, -, X45, ⟨Lc45, hQ45, l45, y45, z45⟩, st45⟩ := X44.virtualBack hx (y := own_y22) (z := own_y22) hown (mvT hZ (own_w hw 51 rfl)) (mvT hZ (own_w hw 52 rfl)) (notFace_of_selects (args := #[]) (mvT hZ (own_w hw 54 rfl))) (mvT hZ (own_w hw 54 rfl)) (mvT hZ (own_w hw 53 rfl)) (by decide) (backOf (W := 0) (rmRea l Z a0 hw [] vo_41 li_41 h43 n0 (Nat.le_trans Z0 K43.1) (r41_3.other W43 (Or.inl (Ne.symm (Nat.ne_of_lt (Nat.lt_of_lt_of_le (Nat.lt_of_lt_of_le (Nat.lt_of_lt_of_le (Nat.lt_of_lt_of_le (Nat.lt_of_lt_of_le (Nat.lt_of_lt_of_le (Nat.lt_of_lt_of_le (Nat.lt_of_lt_of_le B29.lt (Keep.of_wr W31).1) E32.1) E33.1) (Keep.of_wr W35).1) (Keep.of_wr W37).1) (Keep.of_wr W39).1) Kc40.1) r41_0)))))) hZ (own_w hw 55 rfl) (own_w hw 40 rfl) (by decide) (by decide)) q45a q45c (g := (mkF m 183 #[.val (.int p1), .val (.int p2), .val (.int p3), .val (.int p4), .val (.int p5), .val (.int (1 : Int32)), .val (.ref b_24), .val (.ref b_26), .val (.ref b_28), .val (.ref b29), .val (.ref b32), .val (.ref vo_41), .unset] [(.ref vo_41)])) rfl (by rw [hml]; rfl) (Steps.refl _) (argsL := []) (rest := []) (lenOf pd_19 rfl) rfl (by show 2 * 0 + _ ≤ _; exact Nat.le_of_eq rfl) (hb hby at_183) (fun _ _ => ⟨rfl, eh44, (by decide : 24 + 0 ≤ _), (by decide : 51 + 0 ≤ _)⟩)
    dsimp only [Pt.U, Pt.locs, Pt.cells, Pt.slots] at X45 l45 y45 z45 st45 hQ45
    subst l45 y45 z45
    obtain ⟨rfl, N45q, eh45⟩ := hQ45
    have N45 := Fr.app N44 N45q
    refine own_via st45 ?_
    refine own_go (A := T45.setTop (mkF m 195 #[.val (.int p1), .val (.int p2), .val (.int p3), .val (.int p4), .val (.int p5), .val (.int (1 : Int32)), .val (.ref b_24), .val (.ref b_26), .val (.ref b_28), .val (.ref b29), .val (.ref b32), .val (.ref vo_41), .val (.ref li_41)] [(.ref li_41)])) (fun t_ k_ => ?_) ?_
    · show Steps p.tables e below (T45.setTop (mkF m 186 #[.val (.int p1), .val (.int p2), .val (.int p3), .val (.int p4), .val (.int p5), .val (.int (1 : Int32)), .val (.ref b_24), .val (.ref b_26), .val (.ref b_28), .val (.ref b29), .val (.ref b32), .val (.ref vo_41), .unset] [(.ref li_41)])) t_
      refine XS.astore X45.here hx rfl (hb hby at_186) rfl rfl (l' := #[.val (.int p1), .val (.int p2), .val (.int p3), .val (.int p4), .val (.int p5), .val (.int (1 : Int32)), .val (.ref b_24), .val (.ref b_26), .val (.ref b_28), .val (.ref b29), .val (.ref b32), .val (.ref vo_41), .val (.ref li_41)]) rfl ?_
      show Steps p.tables e below (T45.setTop (mkF m 188 #[.val (.int p1), .val (.int p2), .val (.int p3), .val (.int p4), .val (.int p5), .val (.int (1 : Int32)), .val (.ref b_24), .val (.ref b_26), .val (.ref b_28), .val (.ref b29), .val (.ref b32), .val (.ref vo_41), .val (.ref li_41)] [])) t_
      refine XS.aload X45.here hx rfl (hb hby at_188) rfl rfl ?_
      show Steps p.tables e below (T45.setTop (mkF m 190 #[.val (.int p1), .val (.int p2), .val (.int p3), .val (.int p4), .val (.int p5), .val (.int (1 : Int32)), .val (.ref b_24), .val (.ref b_26), .val (.ref b_28), .val (.ref b29), .val (.ref b32), .val (.ref vo_41), .val (.ref li_41)] [(.ref li_41)])) t_
      refine XS.ifnullNo X45.here hx rfl (hb hby at_190) rfl ?_
      show Steps p.tables e below (T45.setTop (mkF m 193 #[.val (.int p1), .val (.int p2), .val (.int p3), .val (.int p4), .val (.int p5), .val (.int (1 : Int32)), .val (.ref b_24), .val (.ref b_26), .val (.ref b_28), .val (.ref b29), .val (.ref b32), .val (.ref vo_41), .val (.ref li_41)] [])) t_
      refine XS.aload X45.here hx rfl (hb hby at_193) rfl rfl ?_
      exact k_
    obtain ⟨cq46, kq46, q46a, q46b, q46c⟩ := isOf hZ eh45 (r41_5.wr W43)
    obtain ⟨_, _, ⟨T46, L46, k46, n46⟩, -, X46, ⟨Lc46, hQ46, l46, y46, z46⟩, st46⟩ := X45.interfaceBack hx (xi := own_y28) (y := own_y25) hown (mvT hZ (own_w hw 58 rfl)) (mvT hZ (own_w hw 59 rfl)) (mvT hZ (own_w hw 60 rfl)) (mvT hZ (own_w hw 161 rfl)) (mvT hZ (own_w hw 162 rfl)) (mvT hZ (own_w hw 163 rfl)) (mvT hZ (own_w hw 164 rfl)) (mvT hZ (own_w hw 165 rfl)) (by decide) (backOf (W := 0) (rm2s1 l Z a0 hw [] li_41 em h43 n0 (Nat.le_trans Z0 K43.1) O43 u3 (r41_7.other W43 (Or.inl (Ne.symm (Nat.ne_of_lt (Nat.lt_of_lt_of_le (Nat.lt_of_lt_of_le (Nat.lt_of_lt_of_le (Nat.lt_of_lt_of_le (Nat.lt_of_lt_of_le (Nat.lt_of_lt_of_le (Nat.lt_of_lt_of_le (Nat.lt_of_lt_of_le B29.lt (Keep.of_wr W31).1) E32.1) E33.1) (Keep.of_wr W35).1) (Keep.of_wr W37).1) (Keep.of_wr W39).1) Kc40.1) r41_4)))))) hZ (own_w hw 166 rfl) (own_w hw 147 rfl) (by decide) (by decide)) q46a q46b q46c (g := (mkF m 195 #[.val (.int p1), .val (.int p2), .val (.int p3), .val (.int p4), .val (.int p5), .val (.int (1 : Int32)), .val (.ref b_24), .val (.ref b_26), .val (.ref b_28), .val (.ref b29), .val (.ref b32), .val (.ref vo_41), .val (.ref li_41)] [(.ref li_41)])) rfl (by rw [hml]; rfl) (Steps.refl _) (argsL := []) (rest := []) (lenOf pd_20 rfl) rfl (by show 2 * 0 + _ ≤ _; exact Nat.le_of_eq rfl) (hb hby at_195) (fun _ _ => ⟨rfl, eh45, (by decide : 24 + 0 ≤ _), (by decide : 51 + 0 ≤ _)⟩)
    dsimp only [Pt.U, Pt.locs, Pt.cells, Pt.slots] at X46 l46 y46 z46 st46 hQ46
    subst l46 y46 z46
    obtain ⟨rfl, N46q, eh46⟩ := hQ46
    have N46 := Fr.app N45 N46q
    refine own_via st46 ?_
    refine own_go (A := T46.setTop (mkF m 218 #[.val (.int p1), .val (.int p2), .val (.int p3), .val (.int p4), .val (.int p5), .val (.int (1 : Int32)), .val (.ref b_24), .val (.ref b_26), .val (.ref b_28), .val (.ref b29), .val (.ref b32), .val (.ref vo_41), .val (.ref li_41)] [(.int (0 : Int32)), (.ref li_41), (.ref b_24)])) (fun t_ k_ => ?_) ?_
    · show Steps p.tables e below (T46.setTop (mkF m 200 #[.val (.int p1), .val (.int p2), .val (.int p3), .val (.int p4), .val (.int p5), .val (.int (1 : Int32)), .val (.ref b_24), .val (.ref b_26), .val (.ref b_28), .val (.ref b29), .val (.ref b32), .val (.ref vo_41), .val (.ref li_41)] [(.int (1 : Int32))])) t_
      refine XS.iload X46.here hx rfl (hb hby at_200) rfl ?_
      show Steps p.tables e below (T46.setTop (mkF m 202 #[.val (.int p1), .val (.int p2), .val (.int p3), .val (.int p4), .val (.int p5), .val (.int (1 : Int32)), .val (.ref b_24), .val (.ref b_26), .val (.ref b_28), .val (.ref b29), .val (.ref b32), .val (.ref vo_41), .val (.ref li_41)] [(.int (1 : Int32)), (.int (1 : Int32))])) t_
      refine XS.icmpYes X46.here hx rfl (pc0 := 202) (pc' := 207) rfl (hb hby at_202) rfl (teq (by decide : (1 : Int32) = (1 : Int32))).1 (by decide) (by decide) ?_
      show Steps p.tables e below (T46.setTop (mkF m 207 #[.val (.int p1), .val (.int p2), .val (.int p3), .val (.int p4), .val (.int p5), .val (.int (1 : Int32)), .val (.ref b_24), .val (.ref b_26), .val (.ref b_28), .val (.ref b29), .val (.ref b32), .val (.ref vo_41), .val (.ref li_41)] [])) t_
      refine XS.iload X46.here hx rfl (hb hby at_207) rfl ?_
      show Steps p.tables e below (T46.setTop (mkF m 209 #[.val (.int p1), .val (.int p2), .val (.int p3), .val (.int p4), .val (.int p5), .val (.int (1 : Int32)), .val (.ref b_24), .val (.ref b_26), .val (.ref b_28), .val (.ref b29), .val (.ref b32), .val (.ref vo_41), .val (.ref li_41)] [(.int (1 : Int32))])) t_
      refine XS.iconst X46.here hx rfl (hb hby at_209) ?_
      show Steps p.tables e below (T46.setTop (mkF m 210 #[.val (.int p1), .val (.int p2), .val (.int p3), .val (.int p4), .val (.int p5), .val (.int (1 : Int32)), .val (.ref b_24), .val (.ref b_26), .val (.ref b_28), .val (.ref b29), .val (.ref b32), .val (.ref vo_41), .val (.ref li_41)] [(.int (1 : Int32)), (.int (1 : Int32))])) t_
      refine XS.icmpNo X46.here hx rfl (hb hby at_210) rfl (flt (by decide : ¬ ((1 : Int32) < (1 : Int32)))).1 ?_
      show Steps p.tables e below (T46.setTop (mkF m 213 #[.val (.int p1), .val (.int p2), .val (.int p3), .val (.int p4), .val (.int p5), .val (.int (1 : Int32)), .val (.ref b_24), .val (.ref b_26), .val (.ref b_28), .val (.ref b29), .val (.ref b32), .val (.ref vo_41), .val (.ref li_41)] [])) t_
      refine XS.aload X46.here hx rfl (hb hby at_213) rfl rfl ?_
      show Steps p.tables e below (T46.setTop (mkF m 215 #[.val (.int p1), .val (.int p2), .val (.int p3), .val (.int p4), .val (.int p5), .val (.int (1 : Int32)), .val (.ref b_24), .val (.ref b_26), .val (.ref b_28), .val (.ref b29), .val (.ref b32), .val (.ref vo_41), .val (.ref li_41)] [(.ref b_24)])) t_
      refine XS.aload X46.here hx rfl (hb hby at_215) rfl rfl ?_
      show Steps p.tables e below (T46.setTop (mkF m 217 #[.val (.int p1), .val (.int p2), .val (.int p3), .val (.int p4), .val (.int p5), .val (.int (1 : Int32)), .val (.ref b_24), .val (.ref b_26), .val (.ref b_28), .val (.ref b29), .val (.ref b32), .val (.ref vo_41), .val (.ref li_41)] [(.ref li_41), (.ref b_24)])) t_
      refine XS.iconst X46.here hx rfl (hb hby at_217) ?_
      exact k_
    obtain ⟨cq47, kq47, q47a, q47b, q47c⟩ := isOf hZ eh46 (r41_5.wr W43)
    obtain ⟨_, _, ⟨T47, L47, k47, n47⟩, -, X47, ⟨Lc47, hQ47, l47, y47, z47⟩, st47⟩ := X46.interfaceBack hx (xi := own_y29) (y := own_y26) hown (mvT hZ (own_w hw 132 rfl)) (mvT hZ (own_w hw 133 rfl)) (mvT hZ (own_w hw 134 rfl)) (mvT hZ (own_w hw 168 rfl)) (mvT hZ (own_w hw 169 rfl)) (mvT hZ (own_w hw 170 rfl)) (mvT hZ (own_w hw 171 rfl)) (mvT hZ (own_w hw 165 rfl)) (by decide) (backOf (W := 1) (rm2g0 l Z a0 hw [] li_41 b_24 h43 n0 (Nat.le_trans Z0 K43.1) (r41_6.other W43 (Or.inl (Ne.symm (Nat.ne_of_lt (Nat.lt_of_lt_of_le (Nat.lt_of_lt_of_le (Nat.lt_of_lt_of_le (Nat.lt_of_lt_of_le (Nat.lt_of_lt_of_le (Nat.lt_of_lt_of_le (Nat.lt_of_lt_of_le (Nat.lt_of_lt_of_le B29.lt (Keep.of_wr W31).1) E32.1) E33.1) (Keep.of_wr W35).1) (Keep.of_wr W37).1) (Keep.of_wr W39).1) Kc40.1) r41_4)))))) hZ (own_w hw 172 rfl) (own_w hw 147 rfl) (by decide) (by decide)) q47a q47b q47c (g := (mkF m 218 #[.val (.int p1), .val (.int p2), .val (.int p3), .val (.int p4), .val (.int p5), .val (.int (1 : Int32)), .val (.ref b_24), .val (.ref b_26), .val (.ref b_28), .val (.ref b29), .val (.ref b32), .val (.ref vo_41), .val (.ref li_41)] [(.int (0 : Int32)), (.ref li_41), (.ref b_24)])) rfl (by rw [hml]; rfl) (Steps.refl _) (argsL := [(.int (0 : Int32))]) (rest := [(.ref b_24)]) (lenOf pd_21 rfl) rfl (by show 2 * 0 + _ ≤ _; exact Nat.le_of_eq rfl) (hb hby at_218) (fun _ _ => ⟨rfl, eh46, (by decide : 24 + 0 ≤ _), (by decide : 51 + 0 ≤ _)⟩)
    dsimp only [Pt.U, Pt.locs, Pt.cells, Pt.slots] at X47 l47 y47 z47 st47 hQ47
    subst l47 y47 z47
    obtain ⟨rfl, N47q, eh47⟩ := hQ47
    have N47 := Fr.app N46 N47q
    refine own_via st47 ?_
    obtain ⟨cq48, kq48, q48a, q48b, q48c⟩ := isOf hZ eh47 ((((((((((((r24_1.keep Kc26).keep Kc28).ext E29).wr W31).ext E32).ext E33).wr W35).wr W37).wr W39).keep Kc40).keep Kc41).wr W43)
    obtain ⟨_, _, ⟨T48, L48, k48, n48⟩, -, X48, ⟨Lc48, hQ48, l48, y48, z48⟩, st48⟩ := X47.virtualBack hx (y := own_y27) (z := own_y27) hown (mvT hZ (own_w hw 140 rfl)) (mvT hZ (own_w hw 141 rfl)) (notFace_of_selects (args := #[]) (mvT hZ (own_w hw 143 rfl))) (mvT hZ (own_w hw 143 rfl)) (mvT hZ (own_w hw 142 rfl)) (by decide) (backOf (W := 0) (rmEq l Z a0 hw [] b_24 h43 n0 (Nat.le_trans Z0 K43.1)) hZ (own_w hw 144 rfl) (own_w hw 6 rfl) (by decide) (by decide)) q48a q48c (g := (mkF m 223 #[.val (.int p1), .val (.int p2), .val (.int p3), .val (.int p4), .val (.int p5), .val (.int (1 : Int32)), .val (.ref b_24), .val (.ref b_26), .val (.ref b_28), .val (.ref b29), .val (.ref b32), .val (.ref vo_41), .val (.ref li_41)] [(.ref b_24), (.ref b_24)])) rfl (by rw [hml]; rfl) (Steps.refl _) (argsL := [(.ref b_24)]) (rest := []) (lenOf pd_22 rfl) rfl (by show 2 * 0 + _ ≤ _; exact Nat.le_of_eq rfl) (hb hby at_223) (fun _ _ => ⟨rfl, eh47, (by decide : 24 + 0 ≤ _), (by decide : 51 + 0 ≤ _)⟩)
    dsimp only [Pt.U, Pt.locs, Pt.cells, Pt.slots] at X48 l48 y48 z48 st48 hQ48
    subst l48 y48 z48
    obtain ⟨rfl, N48q, eh48⟩ := hQ48
    have N48 := Fr.app N47 N48q
    refine own_via st48 ?_
    refine own_go (A := T48.setTop (mkF m 280 #[.val (.int p1), .val (.int p2), .val (.int p3), .val (.int p4), .val (.int p5), .val (.int (1 : Int32)), .val (.ref b_24), .val (.ref b_26), .val (.ref b_28), .val (.ref b29), .val (.ref b32), .val (.ref vo_41), .val (.ref li_41)] [(.int (1 : Int32))])) (fun t_ k_ => ?_) ?_
    · show Steps p.tables e below (T48.setTop (mkF m 226 #[.val (.int p1), .val (.int p2), .val (.int p3), .val (.int p4), .val (.int p5), .val (.int (1 : Int32)), .val (.ref b_24), .val (.ref b_26), .val (.ref b_28), .val (.ref b29), .val (.ref b32), .val (.ref vo_41), .val (.ref li_41)] [(.int (1 : Int32))])) t_
      refine XS.ifYes X48.here hx rfl (pc0 := 226) (pc' := 231) rfl (hb hby at_226) rfl ((if0 _ _).trans (feq (by decide : ¬ ((1 : Int32) = (0 : Int32)))).2) (by decide) (by decide) ?_
      show Steps p.tables e below (T48.setTop (mkF m 231 #[.val (.int p1), .val (.int p2), .val (.int p3), .val (.int p4), .val (.int p5), .val (.int (1 : Int32)), .val (.ref b_24), .val (.ref b_26), .val (.ref b_28), .val (.ref b29), .val (.ref b32), .val (.ref vo_41), .val (.ref li_41)] [])) t_
      refine XS.iload X48.here hx rfl (hb hby at_231) rfl ?_
      show Steps p.tables e below (T48.setTop (mkF m 233 #[.val (.int p1), .val (.int p2), .val (.int p3), .val (.int p4), .val (.int p5), .val (.int (1 : Int32)), .val (.ref b_24), .val (.ref b_26), .val (.ref b_28), .val (.ref b29), .val (.ref b32), .val (.ref vo_41), .val (.ref li_41)] [(.int (1 : Int32))])) t_
      refine XS.iconst X48.here hx rfl (hb hby at_233) ?_
      show Steps p.tables e below (T48.setTop (mkF m 234 #[.val (.int p1), .val (.int p2), .val (.int p3), .val (.int p4), .val (.int p5), .val (.int (1 : Int32)), .val (.ref b_24), .val (.ref b_26), .val (.ref b_28), .val (.ref b29), .val (.ref b32), .val (.ref vo_41), .val (.ref li_41)] [(.int (2 : Int32)), (.int (1 : Int32))])) t_
      refine XS.icmpYes X48.here hx rfl (pc0 := 234) (pc' := 255) rfl (hb hby at_234) rfl (tlt (by decide : (1 : Int32) < (2 : Int32))).1 (by decide) (by decide) ?_
      show Steps p.tables e below (T48.setTop (mkF m 255 #[.val (.int p1), .val (.int p2), .val (.int p3), .val (.int p4), .val (.int p5), .val (.int (1 : Int32)), .val (.ref b_24), .val (.ref b_26), .val (.ref b_28), .val (.ref b29), .val (.ref b32), .val (.ref vo_41), .val (.ref li_41)] [])) t_
      refine XS.iload X48.here hx rfl (hb hby at_255) rfl ?_
      show Steps p.tables e below (T48.setTop (mkF m 257 #[.val (.int p1), .val (.int p2), .val (.int p3), .val (.int p4), .val (.int p5), .val (.int (1 : Int32)), .val (.ref b_24), .val (.ref b_26), .val (.ref b_28), .val (.ref b29), .val (.ref b32), .val (.ref vo_41), .val (.ref li_41)] [(.int (1 : Int32))])) t_
      refine XS.iconst X48.here hx rfl (hb hby at_257) ?_
      show Steps p.tables e below (T48.setTop (mkF m 258 #[.val (.int p1), .val (.int p2), .val (.int p3), .val (.int p4), .val (.int p5), .val (.int (1 : Int32)), .val (.ref b_24), .val (.ref b_26), .val (.ref b_28), .val (.ref b29), .val (.ref b32), .val (.ref vo_41), .val (.ref li_41)] [(.int (3 : Int32)), (.int (1 : Int32))])) t_
      refine XS.icmpYes X48.here hx rfl (pc0 := 258) (pc' := 279) rfl (hb hby at_258) rfl (tlt (by decide : (1 : Int32) < (3 : Int32))).1 (by decide) (by decide) ?_
      show Steps p.tables e below (T48.setTop (mkF m 279 #[.val (.int p1), .val (.int p2), .val (.int p3), .val (.int p4), .val (.int p5), .val (.int (1 : Int32)), .val (.ref b_24), .val (.ref b_26), .val (.ref b_28), .val (.ref b29), .val (.ref b32), .val (.ref vo_41), .val (.ref li_41)] [])) t_
      refine XS.iconst X48.here hx rfl (hb hby at_279) ?_
      exact k_
    obtain ⟨fs49, hr49, hrun49, hended49, hRW49⟩ := X48.leaveW hS (by rw [eh48]; exact hk) (v := some (.int (1 : Int32))) (fun h => by rw [Bd.returns] at h; cases h)
    refine ⟨_, _, ?_, hrun49, hended49, _, _, rfl, ?_, ?_, hRW49.1, hRW49.2.1, hRW49.2.2.1, hRW49.2.2.2.mono (by decide) (by decide)⟩
    · exact retN X48 hx (t := .boolean) Bd.returns (by simp) (hb hby at_280) hr49
    · show Q_rm0 Z p1 p2 p3 p4 p5 cs em dn li0 es0 ka h0 n0 _ T48.heap _
      rw [eh48]
      exact ⟨rfl, N48, K43⟩
    · show CHr Z own_EL s.vm s.heap T48.vm T48.heap
      rw [hh, eh48]
      exact R43.trans (CHv.at X48 hZ hEL R43.1)
  · rw [hm1]
    refine own_go (A := s₁.setTop (mkF m 12 #[.val (.int p1), .val (.int p2), .val (.int p3), .val (.int p4), .val (.int p5), .val (.int (2 : Int32)), .unset, .unset, .unset, .unset, .unset, .unset, .unset] [(.int ((p5 &&& (3 : Int32)) % (3 : Int32))), (.int p2)])) (fun t_ k_ => ?_) ?_
    · show Steps p.tables e below (s₁.setTop (mkF m 3 #[.val (.int p1), .val (.int p2), .val (.int p3), .val (.int p4), .val (.int p5), .unset, .unset, .unset, .unset, .unset, .unset, .unset, .unset] [(.int (2 : Int32))])) t_
      refine XS.istore X0.here hx rfl (hb hby at_3) rfl (l' := #[.val (.int p1), .val (.int p2), .val (.int p3), .val (.int p4), .val (.int p5), .val (.int (2 : Int32)), .unset, .unset, .unset, .unset, .unset, .unset, .unset]) rfl ?_
      show Steps p.tables e below (s₁.setTop (mkF m 5 #[.val (.int p1), .val (.int p2), .val (.int p3), .val (.int p4), .val (.int p5), .val (.int (2 : Int32)), .unset, .unset, .unset, .unset, .unset, .unset, .unset] [])) t_
      refine XS.iloadN X0.here hx rfl (hb hby at_5) rfl ?_
      show Steps p.tables e below (s₁.setTop (mkF m 6 #[.val (.int p1), .val (.int p2), .val (.int p3), .val (.int p4), .val (.int p5), .val (.int (2 : Int32)), .unset, .unset, .unset, .unset, .unset, .unset, .unset] [(.int p2)])) t_
      refine XS.iload X0.here hx rfl (hb hby at_6) rfl ?_
      show Steps p.tables e below (s₁.setTop (mkF m 8 #[.val (.int p1), .val (.int p2), .val (.int p3), .val (.int p4), .val (.int p5), .val (.int (2 : Int32)), .unset, .unset, .unset, .unset, .unset, .unset, .unset] [(.int p5), (.int p2)])) t_
      refine XS.iconst X0.here hx rfl (hb hby at_8) ?_
      show Steps p.tables e below (s₁.setTop (mkF m 9 #[.val (.int p1), .val (.int p2), .val (.int p3), .val (.int p4), .val (.int p5), .val (.int (2 : Int32)), .unset, .unset, .unset, .unset, .unset, .unset, .unset] [(.int (3 : Int32)), (.int p5), (.int p2)])) t_
      refine XS.iand X0.here hx rfl (hb hby at_9) rfl ?_
      show Steps p.tables e below (s₁.setTop (mkF m 10 #[.val (.int p1), .val (.int p2), .val (.int p3), .val (.int p4), .val (.int p5), .val (.int (2 : Int32)), .unset, .unset, .unset, .unset, .unset, .unset, .unset] [(.int (p5 &&& (3 : Int32))), (.int p2)])) t_
      refine XS.iconst X0.here hx rfl (hb hby at_10) ?_
      show Steps p.tables e below (s₁.setTop (mkF m 11 #[.val (.int p1), .val (.int p2), .val (.int p3), .val (.int p4), .val (.int p5), .val (.int (2 : Int32)), .unset, .unset, .unset, .unset, .unset, .unset, .unset] [(.int (3 : Int32)), (.int (p5 &&& (3 : Int32))), (.int p2)])) t_
      refine iremM (g := (mkF m 11 #[.val (.int p1), .val (.int p2), .val (.int p3), .val (.int p4), .val (.int p5), .val (.int (2 : Int32)), .unset, .unset, .unset, .unset, .unset, .unset, .unset] [(.int (3 : Int32)), (.int (p5 &&& (3 : Int32))), (.int p2)])) X0 hx rfl (hb hby at_11) rfl (by decide : ¬ ((3 : Int32) = (0 : Int32))) ?_
      exact k_
    obtain ⟨y50, hqy50⟩ : ∃ z : Int32, z = ((p5 &&& (3 : Int32)) % (3 : Int32)) := ⟨_, rfl⟩
    rw [← hqy50]
    obtain ⟨_, _, ⟨T51, L51, k51, n51⟩, -, X51, hs51, gs51, ⟨Lc51, hQ51, l51, y51, z51, r51⟩, st51⟩ := callSS X0 hx (y := own_y9) hown (mvT hZ (own_w hw 0 rfl)) (mvT hZ (own_w hw 1 rfl)) (mvT hZ (own_w hw 2 rfl)) (mvT hZ (own_w hw 3 rfl)) (by decide) (backOfSH (W := 0) (rmMk l Z a0 hw [] p2 y50 cs h0 n0 Z0 O0 u1 hcs) hZ (own_w hw 3 rfl) (own_w hw 2 rfl) (by decide) (by decide) hEL R0.1) (g := (mkF m 12 #[.val (.int p1), .val (.int p2), .val (.int p3), .val (.int p4), .val (.int p5), .val (.int (2 : Int32)), .unset, .unset, .unset, .unset, .unset, .unset, .unset] [(.int y50), (.int p2)])) rfl (by rw [hml]; rfl) (argsL := [(.int p2), (.int y50)]) (rest := []) (lenOf pd_16 rfl) rfl (by show 2 * 0 + _ ≤ _; exact Nat.le_of_eq rfl) (hb hby at_12) (fun _ _ => ⟨rfl, e0, (by decide : 0 + 6 ≤ _), (by decide : 0 + 12 ≤ _)⟩)
    dsimp only [Pt.U, Pt.locs, Pt.cells, Pt.slots] at X51 l51 y51 z51 st51 hQ51 hs51 gs51 r51
    subst l51 y51 z51
    obtain ⟨X51, hS, hZ, hown⟩ := rebS hS (by rw [e0]; exact hk) X51 hs51 gs51 hZ hown
    obtain ⟨b_51, rfl, N51q, Kc51, r51_0, r51_1⟩ := hQ51
    have N51 := Fr.app N0 N51q
    refine own_via st51 ?_
    have hk := Nat.le_refl T51.heap.size
    have K51 : Keep h0 T51.heap [] := (Keep.refl h0 []).trans Kc51 all0
    have R51 := R0.trans r51
    have O51 := O0.keep Kc51 all0
    refine own_go (A := T51.setTop (mkF m 26 #[.val (.int p1), .val (.int p2), .val (.int p3), .val (.int p4), .val (.int p5), .val (.int (2 : Int32)), .val (.ref b_51), .unset, .unset, .unset, .unset, .unset, .unset] [(.int ((((p5).toUInt32 >>> ((2 : Int32) &&& 31).toUInt32).toInt32 &&& (3 : Int32)) % (3 : Int32))), (.int p3)])) (fun t_ k_ => ?_) ?_
    · show Steps p.tables e below (T51.setTop (mkF m 15 #[.val (.int p1), .val (.int p2), .val (.int p3), .val (.int p4), .val (.int p5), .val (.int (2 : Int32)), .unset, .unset, .unset, .unset, .unset, .unset, .unset] [(.ref b_51)])) t_
      refine XS.astore X51.here hx rfl (hb hby at_15) rfl rfl (l' := #[.val (.int p1), .val (.int p2), .val (.int p3), .val (.int p4), .val (.int p5), .val (.int (2 : Int32)), .val (.ref b_51), .unset, .unset, .unset, .unset, .unset, .unset]) rfl ?_
      show Steps p.tables e below (T51.setTop (mkF m 17 #[.val (.int p1), .val (.int p2), .val (.int p3), .val (.int p4), .val (.int p5), .val (.int (2 : Int32)), .val (.ref b_51), .unset, .unset, .unset, .unset, .unset, .unset] [])) t_
      refine XS.iloadN X51.here hx rfl (hb hby at_17) rfl ?_
      show Steps p.tables e below (T51.setTop (mkF m 18 #[.val (.int p1), .val (.int p2), .val (.int p3), .val (.int p4), .val (.int p5), .val (.int (2 : Int32)), .val (.ref b_51), .unset, .unset, .unset, .unset, .unset, .unset] [(.int p3)])) t_
      refine XS.iload X51.here hx rfl (hb hby at_18) rfl ?_
      show Steps p.tables e below (T51.setTop (mkF m 20 #[.val (.int p1), .val (.int p2), .val (.int p3), .val (.int p4), .val (.int p5), .val (.int (2 : Int32)), .val (.ref b_51), .unset, .unset, .unset, .unset, .unset, .unset] [(.int p5), (.int p3)])) t_
      refine XS.iconst X51.here hx rfl (hb hby at_20) ?_
      show Steps p.tables e below (T51.setTop (mkF m 21 #[.val (.int p1), .val (.int p2), .val (.int p3), .val (.int p4), .val (.int p5), .val (.int (2 : Int32)), .val (.ref b_51), .unset, .unset, .unset, .unset, .unset, .unset] [(.int (2 : Int32)), (.int p5), (.int p3)])) t_
      refine XS.iushr X51.here hx rfl (hb hby at_21) rfl ?_
      show Steps p.tables e below (T51.setTop (mkF m 22 #[.val (.int p1), .val (.int p2), .val (.int p3), .val (.int p4), .val (.int p5), .val (.int (2 : Int32)), .val (.ref b_51), .unset, .unset, .unset, .unset, .unset, .unset] [(.int ((p5).toUInt32 >>> ((2 : Int32) &&& 31).toUInt32).toInt32), (.int p3)])) t_
      refine XS.iconst X51.here hx rfl (hb hby at_22) ?_
      show Steps p.tables e below (T51.setTop (mkF m 23 #[.val (.int p1), .val (.int p2), .val (.int p3), .val (.int p4), .val (.int p5), .val (.int (2 : Int32)), .val (.ref b_51), .unset, .unset, .unset, .unset, .unset, .unset] [(.int (3 : Int32)), (.int ((p5).toUInt32 >>> ((2 : Int32) &&& 31).toUInt32).toInt32), (.int p3)])) t_
      refine XS.iand X51.here hx rfl (hb hby at_23) rfl ?_
      show Steps p.tables e below (T51.setTop (mkF m 24 #[.val (.int p1), .val (.int p2), .val (.int p3), .val (.int p4), .val (.int p5), .val (.int (2 : Int32)), .val (.ref b_51), .unset, .unset, .unset, .unset, .unset, .unset] [(.int (((p5).toUInt32 >>> ((2 : Int32) &&& 31).toUInt32).toInt32 &&& (3 : Int32))), (.int p3)])) t_
      refine XS.iconst X51.here hx rfl (hb hby at_24) ?_
      show Steps p.tables e below (T51.setTop (mkF m 25 #[.val (.int p1), .val (.int p2), .val (.int p3), .val (.int p4), .val (.int p5), .val (.int (2 : Int32)), .val (.ref b_51), .unset, .unset, .unset, .unset, .unset, .unset] [(.int (3 : Int32)), (.int (((p5).toUInt32 >>> ((2 : Int32) &&& 31).toUInt32).toInt32 &&& (3 : Int32))), (.int p3)])) t_
      refine iremM (g := (mkF m 25 #[.val (.int p1), .val (.int p2), .val (.int p3), .val (.int p4), .val (.int p5), .val (.int (2 : Int32)), .val (.ref b_51), .unset, .unset, .unset, .unset, .unset, .unset] [(.int (3 : Int32)), (.int (((p5).toUInt32 >>> ((2 : Int32) &&& 31).toUInt32).toInt32 &&& (3 : Int32))), (.int p3)])) X51 hx rfl (hb hby at_25) rfl (by decide : ¬ ((3 : Int32) = (0 : Int32))) ?_
      exact k_
    obtain ⟨y52, hqy52⟩ : ∃ z : Int32, z = ((((p5).toUInt32 >>> ((2 : Int32) &&& 31).toUInt32).toInt32 &&& (3 : Int32)) % (3 : Int32)) := ⟨_, rfl⟩
    rw [← hqy52]
    obtain ⟨_, _, ⟨T53, L53, k53, n53⟩, -, X53, hs53, gs53, ⟨Lc53, hQ53, l53, y53, z53, r53⟩, st53⟩ := callSS X51 hx (y := own_y9) hown (mvT hZ (own_w hw 0 rfl)) (mvT hZ (own_w hw 1 rfl)) (mvT hZ (own_w hw 2 rfl)) (mvT hZ (own_w hw 3 rfl)) (by decide) (backOfSH (W := 0) (rmMk l Z a0 hw [] p3 y52 cs T51.heap n0 (Nat.le_trans Z0 K51.1) O51 u1 hcs) hZ (own_w hw 3 rfl) (own_w hw 2 rfl) (by decide) (by decide) hEL R51.1) (g := (mkF m 26 #[.val (.int p1), .val (.int p2), .val (.int p3), .val (.int p4), .val (.int p5), .val (.int (2 : Int32)), .val (.ref b_51), .unset, .unset, .unset, .unset, .unset, .unset] [(.int y52), (.int p3)])) rfl (by rw [hml]; rfl) (argsL := [(.int p3), (.int y52)]) (rest := []) (lenOf pd_16 rfl) rfl (by show 2 * 0 + _ ≤ _; exact Nat.le_of_eq rfl) (hb hby at_26) (fun _ _ => ⟨rfl, rfl, (by decide : 6 + 6 ≤ _), (by decide : 12 + 12 ≤ _)⟩)
    dsimp only [Pt.U, Pt.locs, Pt.cells, Pt.slots] at X53 l53 y53 z53 st53 hQ53 hs53 gs53 r53
    subst l53 y53 z53
    obtain ⟨X53, hS, hZ, hown⟩ := rebS hS hk X53 hs53 gs53 hZ hown
    obtain ⟨b_53, rfl, N53q, Kc53, r53_0, r53_1⟩ := hQ53
    have N53 := Fr.app N51 N53q
    refine own_via st53 ?_
    have hk := Nat.le_refl T53.heap.size
    have K53 : Keep h0 T53.heap [] := K51.trans Kc53 all0
    have R53 := R51.trans r53
    have O53 := O51.keep Kc53 all0
    refine own_go (A := T53.setTop (mkF m 40 #[.val (.int p1), .val (.int p2), .val (.int p3), .val (.int p4), .val (.int p5), .val (.int (2 : Int32)), .val (.ref b_51), .val (.ref b_53), .unset, .unset, .unset, .unset, .unset] [(.int ((((p5).toUInt32 >>> ((4 : Int32) &&& 31).toUInt32).toInt32 &&& (3 : Int32)) % (3 : Int32))), (.int p4)])) (fun t_ k_ => ?_) ?_
    · show Steps p.tables e below (T53.setTop (mkF m 29 #[.val (.int p1), .val (.int p2), .val (.int p3), .val (.int p4), .val (.int p5), .val (.int (2 : Int32)), .val (.ref b_51), .unset, .unset, .unset, .unset, .unset, .unset] [(.ref b_53)])) t_
      refine XS.astore X53.here hx rfl (hb hby at_29) rfl rfl (l' := #[.val (.int p1), .val (.int p2), .val (.int p3), .val (.int p4), .val (.int p5), .val (.int (2 : Int32)), .val (.ref b_51), .val (.ref b_53), .unset, .unset, .unset, .unset, .unset]) rfl ?_
      show Steps p.tables e below (T53.setTop (mkF m 31 #[.val (.int p1), .val (.int p2), .val (.int p3), .val (.int p4), .val (.int p5), .val (.int (2 : Int32)), .val (.ref b_51), .val (.ref b_53), .unset, .unset, .unset, .unset, .unset] [])) t_
      refine XS.iloadN X53.here hx rfl (hb hby at_31) rfl ?_
      show Steps p.tables e below (T53.setTop (mkF m 32 #[.val (.int p1), .val (.int p2), .val (.int p3), .val (.int p4), .val (.int p5), .val (.int (2 : Int32)), .val (.ref b_51), .val (.ref b_53), .unset, .unset, .unset, .unset, .unset] [(.int p4)])) t_
      refine XS.iload X53.here hx rfl (hb hby at_32) rfl ?_
      show Steps p.tables e below (T53.setTop (mkF m 34 #[.val (.int p1), .val (.int p2), .val (.int p3), .val (.int p4), .val (.int p5), .val (.int (2 : Int32)), .val (.ref b_51), .val (.ref b_53), .unset, .unset, .unset, .unset, .unset] [(.int p5), (.int p4)])) t_
      refine XS.iconst X53.here hx rfl (hb hby at_34) ?_
      show Steps p.tables e below (T53.setTop (mkF m 35 #[.val (.int p1), .val (.int p2), .val (.int p3), .val (.int p4), .val (.int p5), .val (.int (2 : Int32)), .val (.ref b_51), .val (.ref b_53), .unset, .unset, .unset, .unset, .unset] [(.int (4 : Int32)), (.int p5), (.int p4)])) t_
      refine XS.iushr X53.here hx rfl (hb hby at_35) rfl ?_
      show Steps p.tables e below (T53.setTop (mkF m 36 #[.val (.int p1), .val (.int p2), .val (.int p3), .val (.int p4), .val (.int p5), .val (.int (2 : Int32)), .val (.ref b_51), .val (.ref b_53), .unset, .unset, .unset, .unset, .unset] [(.int ((p5).toUInt32 >>> ((4 : Int32) &&& 31).toUInt32).toInt32), (.int p4)])) t_
      refine XS.iconst X53.here hx rfl (hb hby at_36) ?_
      show Steps p.tables e below (T53.setTop (mkF m 37 #[.val (.int p1), .val (.int p2), .val (.int p3), .val (.int p4), .val (.int p5), .val (.int (2 : Int32)), .val (.ref b_51), .val (.ref b_53), .unset, .unset, .unset, .unset, .unset] [(.int (3 : Int32)), (.int ((p5).toUInt32 >>> ((4 : Int32) &&& 31).toUInt32).toInt32), (.int p4)])) t_
      refine XS.iand X53.here hx rfl (hb hby at_37) rfl ?_
      show Steps p.tables e below (T53.setTop (mkF m 38 #[.val (.int p1), .val (.int p2), .val (.int p3), .val (.int p4), .val (.int p5), .val (.int (2 : Int32)), .val (.ref b_51), .val (.ref b_53), .unset, .unset, .unset, .unset, .unset] [(.int (((p5).toUInt32 >>> ((4 : Int32) &&& 31).toUInt32).toInt32 &&& (3 : Int32))), (.int p4)])) t_
      refine XS.iconst X53.here hx rfl (hb hby at_38) ?_
      show Steps p.tables e below (T53.setTop (mkF m 39 #[.val (.int p1), .val (.int p2), .val (.int p3), .val (.int p4), .val (.int p5), .val (.int (2 : Int32)), .val (.ref b_51), .val (.ref b_53), .unset, .unset, .unset, .unset, .unset] [(.int (3 : Int32)), (.int (((p5).toUInt32 >>> ((4 : Int32) &&& 31).toUInt32).toInt32 &&& (3 : Int32))), (.int p4)])) t_
      refine iremM (g := (mkF m 39 #[.val (.int p1), .val (.int p2), .val (.int p3), .val (.int p4), .val (.int p5), .val (.int (2 : Int32)), .val (.ref b_51), .val (.ref b_53), .unset, .unset, .unset, .unset, .unset] [(.int (3 : Int32)), (.int (((p5).toUInt32 >>> ((4 : Int32) &&& 31).toUInt32).toInt32 &&& (3 : Int32))), (.int p4)])) X53 hx rfl (hb hby at_39) rfl (by decide : ¬ ((3 : Int32) = (0 : Int32))) ?_
      exact k_
    obtain ⟨y54, hqy54⟩ : ∃ z : Int32, z = ((((p5).toUInt32 >>> ((4 : Int32) &&& 31).toUInt32).toInt32 &&& (3 : Int32)) % (3 : Int32)) := ⟨_, rfl⟩
    rw [← hqy54]
    obtain ⟨_, _, ⟨T55, L55, k55, n55⟩, -, X55, hs55, gs55, ⟨Lc55, hQ55, l55, y55, z55, r55⟩, st55⟩ := callSS X53 hx (y := own_y9) hown (mvT hZ (own_w hw 0 rfl)) (mvT hZ (own_w hw 1 rfl)) (mvT hZ (own_w hw 2 rfl)) (mvT hZ (own_w hw 3 rfl)) (by decide) (backOfSH (W := 0) (rmMk l Z a0 hw [] p4 y54 cs T53.heap n0 (Nat.le_trans Z0 K53.1) O53 u1 hcs) hZ (own_w hw 3 rfl) (own_w hw 2 rfl) (by decide) (by decide) hEL R53.1) (g := (mkF m 40 #[.val (.int p1), .val (.int p2), .val (.int p3), .val (.int p4), .val (.int p5), .val (.int (2 : Int32)), .val (.ref b_51), .val (.ref b_53), .unset, .unset, .unset, .unset, .unset] [(.int y54), (.int p4)])) rfl (by rw [hml]; rfl) (argsL := [(.int p4), (.int y54)]) (rest := []) (lenOf pd_16 rfl) rfl (by show 2 * 0 + _ ≤ _; exact Nat.le_of_eq rfl) (hb hby at_40) (fun _ _ => ⟨rfl, rfl, (by decide : 12 + 6 ≤ _), (by decide : 24 + 12 ≤ _)⟩)
    dsimp only [Pt.U, Pt.locs, Pt.cells, Pt.slots] at X55 l55 y55 z55 st55 hQ55 hs55 gs55 r55
    subst l55 y55 z55
    obtain ⟨X55, hS, hZ, hown⟩ := rebS hS hk X55 hs55 gs55 hZ hown
    obtain ⟨b_55, rfl, N55q, Kc55, r55_0, r55_1⟩ := hQ55
    have N55 := Fr.app N53 N55q
    refine own_via st55 ?_
    have hk := Nat.le_refl T55.heap.size
    have K55 : Keep h0 T55.heap [] := K53.trans Kc55 all0
    have R55 := R53.trans r55
    have O55 := O53.keep Kc55 all0
    refine own_go (A := T55.setTop (mkF m 86 #[.val (.int p1), .val (.int p2), .val (.int p3), .val (.int p4), .val (.int p5), .val (.int (2 : Int32)), .val (.ref b_51), .val (.ref b_53), .val (.ref b_55), .unset, .unset, .unset, .unset] [(.int (2 : Int32))])) (fun t_ k_ => ?_) ?_
    · show Steps p.tables e below (T55.setTop (mkF m 43 #[.val (.int p1), .val (.int p2), .val (.int p3), .val (.int p4), .val (.int p5), .val (.int (2 : Int32)), .val (.ref b_51), .val (.ref b_53), .unset, .unset, .unset, .unset, .unset] [(.ref b_55)])) t_
      refine XS.astore X55.here hx rfl (hb hby at_43) rfl rfl (l' := #[.val (.int p1), .val (.int p2), .val (.int p3), .val (.int p4), .val (.int p5), .val (.int (2 : Int32)), .val (.ref b_51), .val (.ref b_53), .val (.ref b_55), .unset, .unset, .unset, .unset]) rfl ?_
      show Steps p.tables e below (T55.setTop (mkF m 45 #[.val (.int p1), .val (.int p2), .val (.int p3), .val (.int p4), .val (.int p5), .val (.int (2 : Int32)), .val (.ref b_51), .val (.ref b_53), .val (.ref b_55), .unset, .unset, .unset, .unset] [])) t_
      refine XS.iload X55.here hx rfl (hb hby at_45) rfl ?_
      show Steps p.tables e below (T55.setTop (mkF m 47 #[.val (.int p1), .val (.int p2), .val (.int p3), .val (.int p4), .val (.int p5), .val (.int (2 : Int32)), .val (.ref b_51), .val (.ref b_53), .val (.ref b_55), .unset, .unset, .unset, .unset] [(.int (2 : Int32))])) t_
      refine XS.ifYes X55.here hx rfl (pc0 := 47) (pc' := 59) rfl (hb hby at_47) rfl ((if0 _ _).trans (feq (by decide : ¬ ((2 : Int32) = (0 : Int32)))).2) (by decide) (by decide) ?_
      show Steps p.tables e below (T55.setTop (mkF m 59 #[.val (.int p1), .val (.int p2), .val (.int p3), .val (.int p4), .val (.int p5), .val (.int (2 : Int32)), .val (.ref b_51), .val (.ref b_53), .val (.ref b_55), .unset, .unset, .unset, .unset] [])) t_
      refine XS.iload X55.here hx rfl (hb hby at_59) rfl ?_
      show Steps p.tables e below (T55.setTop (mkF m 61 #[.val (.int p1), .val (.int p2), .val (.int p3), .val (.int p4), .val (.int p5), .val (.int (2 : Int32)), .val (.ref b_51), .val (.ref b_53), .val (.ref b_55), .unset, .unset, .unset, .unset] [(.int (2 : Int32))])) t_
      refine XS.iconst X55.here hx rfl (hb hby at_61) ?_
      show Steps p.tables e below (T55.setTop (mkF m 62 #[.val (.int p1), .val (.int p2), .val (.int p3), .val (.int p4), .val (.int p5), .val (.int (2 : Int32)), .val (.ref b_51), .val (.ref b_53), .val (.ref b_55), .unset, .unset, .unset, .unset] [(.int (1 : Int32)), (.int (2 : Int32))])) t_
      refine XS.icmpYes X55.here hx rfl (pc0 := 62) (pc' := 79) rfl (hb hby at_62) rfl (feq (by decide : ¬ ((2 : Int32) = (1 : Int32)))).2 (by decide) (by decide) ?_
      show Steps p.tables e below (T55.setTop (mkF m 79 #[.val (.int p1), .val (.int p2), .val (.int p3), .val (.int p4), .val (.int p5), .val (.int (2 : Int32)), .val (.ref b_51), .val (.ref b_53), .val (.ref b_55), .unset, .unset, .unset, .unset] [])) t_
      refine XS.iload X55.here hx rfl (hb hby at_79) rfl ?_
      show Steps p.tables e below (T55.setTop (mkF m 81 #[.val (.int p1), .val (.int p2), .val (.int p3), .val (.int p4), .val (.int p5), .val (.int (2 : Int32)), .val (.ref b_51), .val (.ref b_53), .val (.ref b_55), .unset, .unset, .unset, .unset] [(.int (2 : Int32))])) t_
      refine XS.iconst X55.here hx rfl (hb hby at_81) ?_
      show Steps p.tables e below (T55.setTop (mkF m 82 #[.val (.int p1), .val (.int p2), .val (.int p3), .val (.int p4), .val (.int p5), .val (.int (2 : Int32)), .val (.ref b_51), .val (.ref b_53), .val (.ref b_55), .unset, .unset, .unset, .unset] [(.int (2 : Int32)), (.int (2 : Int32))])) t_
      refine XS.icmpNo X55.here hx rfl (hb hby at_82) rfl (teq (by decide : (2 : Int32) = (2 : Int32))).2 ?_
      show Steps p.tables e below (T55.setTop (mkF m 85 #[.val (.int p1), .val (.int p2), .val (.int p3), .val (.int p4), .val (.int p5), .val (.int (2 : Int32)), .val (.ref b_51), .val (.ref b_53), .val (.ref b_55), .unset, .unset, .unset, .unset] [])) t_
      refine XS.iconst X55.here hx rfl (hb hby at_85) ?_
      exact k_
    obtain ⟨T56, h56, k56, X56, e56, E56, A56, V56, st56⟩ := newR X55 hx hZ hown (own_w hw 4 rfl) (own_w hw 26 rfl) rfl (g := (mkF m 86 #[.val (.int p1), .val (.int p2), .val (.int p3), .val (.int p4), .val (.int p5), .val (.int (2 : Int32)), .val (.ref b_51), .val (.ref b_53), .val (.ref b_55), .unset, .unset, .unset, .unset] [(.int (2 : Int32))])) rfl (hb hby at_86) rfl (by decide) (cap := 2) (by decide) (by decide) (by decide) (by decide)
    obtain ⟨b56, g56⟩ : ∃ z, z = T55.heap.size := ⟨_, rfl⟩
    rw [← g56] at A56 st56
    refine own_go st56 ?_
    have K56 : Keep h0 h56 [] := K55.ext E56
    have r56 := CHr.ext E56 R55.1
    have R56 := R55.trans r56
    have hk := Nat.le_trans hk E56.1
    have O56 := O55.ext E56
    have Q56 := Safe.ext E56 R55.1 (Safe.new (Nat.le_of_eq g56.symm))
    have B56 : Arv Z h56 b56 k56 (.object "java/lang/String") (2 : Int32) [.null, .null] .null := (Arv.new A56 (by decide)).pad (pad_rep [] .null 2)
    refine own_go (A := T56.setTop (mkF m 93 #[.val (.int p1), .val (.int p2), .val (.int p3), .val (.int p4), .val (.int p5), .val (.int (2 : Int32)), .val (.ref b_51), .val (.ref b_53), .val (.ref b_55), .unset, .unset, .unset, .unset] [(.ref b_51), (.int (0 : Int32)), (.ref b56), (.ref b56)])) (fun t_ k_ => ?_) ?_
    · show Steps p.tables e below (T56.setTop (mkF m 89 #[.val (.int p1), .val (.int p2), .val (.int p3), .val (.int p4), .val (.int p5), .val (.int (2 : Int32)), .val (.ref b_51), .val (.ref b_53), .val (.ref b_55), .unset, .unset, .unset, .unset] [(.ref b56)])) t_
      refine XS.dup X56.here hx rfl (hb hby at_89) rfl rfl ?_
      show Steps p.tables e below (T56.setTop (mkF m 90 #[.val (.int p1), .val (.int p2), .val (.int p3), .val (.int p4), .val (.int p5), .val (.int (2 : Int32)), .val (.ref b_51), .val (.ref b_53), .val (.ref b_55), .unset, .unset, .unset, .unset] [(.ref b56), (.ref b56)])) t_
      refine XS.iconst X56.here hx rfl (hb hby at_90) ?_
      show Steps p.tables e below (T56.setTop (mkF m 91 #[.val (.int p1), .val (.int p2), .val (.int p3), .val (.int p4), .val (.int p5), .val (.int (2 : Int32)), .val (.ref b_51), .val (.ref b_53), .val (.ref b_55), .unset, .unset, .unset, .unset] [(.int (0 : Int32)), (.ref b56), (.ref b56)])) t_
      refine XS.aload X56.here hx rfl (hb hby at_91) rfl rfl ?_
      exact k_
    obtain ⟨cl57, Ar57, q57, S57, M57, H57, G57⟩ := id B56
    have hin57 : ¬ ((0 : Int32) < 0 ∨ cl57.slots.size ≤ ((0 : Int32)).toNatClampNeg) := inb_of S57 ⟨by decide, by decide⟩
    obtain ⟨T58, h58, X58, e58, W58, st58⟩ := stR X56 hx hZ e56 Ar57 (j := (0 : Int32)) hin57 rfl (Sto.ofV Ar57 q57 V56 (Ins.self (((r51_1.keep Kc53).keep Kc55).ext E56))) (g := (mkF m 93 #[.val (.int p1), .val (.int p2), .val (.int p3), .val (.int p4), .val (.int p5), .val (.int (2 : Int32)), .val (.ref b_51), .val (.ref b_53), .val (.ref b_55), .unset, .unset, .unset, .unset] [(.ref b_51), (.int (0 : Int32)), (.ref b56), (.ref b56)])) rfl rfl (hb hby at_93)
    have B58 : Arv Z h58 b56 k56 (.object "java/lang/String") (2 : Int32) [(.ref b_51), .null] .null := Arv.set Ar57 q57 S57 M57 H57 G57 rfl W58 0 rfl (Nat.le_of_ble_eq_true rfl)
    refine own_go st58 ?_
    have K58 : Keep h0 h58 [] := K56.wr W58 (Or.inr (Nat.le_trans K55.1 (Nat.le_of_eq g56.symm)))
    have r58 := CHr.wr W58 Q56 R56.1
    have R58 := R56.trans r58
    have hk := Nat.le_trans hk (Keep.of_wr W58).1
    have O58 := O56.wr W58 (Nat.le_trans Z0 (Nat.le_trans K55.1 (Nat.le_of_eq g56.symm)))
    have N58 := Fr.snoc X58 N55 (Nat.le_trans Z0 (Nat.le_trans K55.1 (Nat.le_of_eq g56.symm)))
    refine own_go (A := T58.setTop (mkF m 98 #[.val (.int p1), .val (.int p2), .val (.int p3), .val (.int p4), .val (.int p5), .val (.int (2 : Int32)), .val (.ref b_51), .val (.ref b_53), .val (.ref b_55), .unset, .unset, .unset, .unset] [(.ref b_53), (.int (1 : Int32)), (.ref b56), (.ref b56)])) (fun t_ k_ => ?_) ?_
    · show Steps p.tables e below (T58.setTop (mkF m 94 #[.val (.int p1), .val (.int p2), .val (.int p3), .val (.int p4), .val (.int p5), .val (.int (2 : Int32)), .val (.ref b_51), .val (.ref b_53), .val (.ref b_55), .unset, .unset, .unset, .unset] [(.ref b56)])) t_
      refine XS.dup X58.here hx rfl (hb hby at_94) rfl rfl ?_
      show Steps p.tables e below (T58.setTop (mkF m 95 #[.val (.int p1), .val (.int p2), .val (.int p3), .val (.int p4), .val (.int p5), .val (.int (2 : Int32)), .val (.ref b_51), .val (.ref b_53), .val (.ref b_55), .unset, .unset, .unset, .unset] [(.ref b56), (.ref b56)])) t_
      refine XS.iconst X58.here hx rfl (hb hby at_95) ?_
      show Steps p.tables e below (T58.setTop (mkF m 96 #[.val (.int p1), .val (.int p2), .val (.int p3), .val (.int p4), .val (.int p5), .val (.int (2 : Int32)), .val (.ref b_51), .val (.ref b_53), .val (.ref b_55), .unset, .unset, .unset, .unset] [(.int (1 : Int32)), (.ref b56), (.ref b56)])) t_
      refine XS.aload X58.here hx rfl (hb hby at_96) rfl rfl ?_
      exact k_
    obtain ⟨cl59, Ar59, q59, S59, M59, H59, G59⟩ := id B58
    have hin59 : ¬ ((1 : Int32) < 0 ∨ cl59.slots.size ≤ ((1 : Int32)).toNatClampNeg) := inb_of S59 ⟨by decide, by decide⟩
    obtain ⟨T60, h60, X60, e60, W60, st60⟩ := stR X58 hx hZ e58 Ar59 (j := (1 : Int32)) hin59 rfl (Sto.ofV Ar59 q59 V56 (Ins.self (((r53_1.keep Kc55).ext E56).wr W58))) (g := (mkF m 98 #[.val (.int p1), .val (.int p2), .val (.int p3), .val (.int p4), .val (.int p5), .val (.int (2 : Int32)), .val (.ref b_51), .val (.ref b_53), .val (.ref b_55), .unset, .unset, .unset, .unset] [(.ref b_53), (.int (1 : Int32)), (.ref b56), (.ref b56)])) rfl rfl (hb hby at_98)
    have B60 : Arv Z h60 b56 k56 (.object "java/lang/String") (2 : Int32) [(.ref b_51), (.ref b_53)] .null := Arv.set Ar59 q59 S59 M59 H59 G59 rfl W60 1 rfl (Nat.le_of_ble_eq_true rfl)
    refine own_go st60 ?_
    have K60 : Keep h0 h60 [] := K58.wr W60 (Or.inr (Nat.le_trans K55.1 (Nat.le_of_eq g56.symm)))
    have r60 := CHr.wr W60 (r58.safe B56.lt Q56) R58.1
    have R60 := R58.trans r60
    have hk := Nat.le_trans hk (Keep.of_wr W60).1
    have O60 := O58.wr W60 (Nat.le_trans Z0 (Nat.le_trans K55.1 (Nat.le_of_eq g56.symm)))
    have N60 := Fr.snoc X60 N58 (Nat.le_trans Z0 (Nat.le_trans K55.1 (Nat.le_of_eq g56.symm)))
    refine own_go (A := T60.setTop (mkF m 125 #[.val (.int p1), .val (.int p2), .val (.int p3), .val (.int p4), .val (.int p5), .val (.int (2 : Int32)), .val (.ref b_51), .val (.ref b_53), .val (.ref b_55), .val (.ref b56), .unset, .unset, .unset] [])) (fun t_ k_ => ?_) ?_
    · show Steps p.tables e below (T60.setTop (mkF m 99 #[.val (.int p1), .val (.int p2), .val (.int p3), .val (.int p4), .val (.int p5), .val (.int (2 : Int32)), .val (.ref b_51), .val (.ref b_53), .val (.ref b_55), .unset, .unset, .unset, .unset] [(.ref b56)])) t_
      refine XS.astore X60.here hx rfl (hb hby at_99) rfl rfl (l' := #[.val (.int p1), .val (.int p2), .val (.int p3), .val (.int p4), .val (.int p5), .val (.int (2 : Int32)), .val (.ref b_51), .val (.ref b_53), .val (.ref b_55), .val (.ref b56), .unset, .unset, .unset]) rfl ?_
      show Steps p.tables e below (T60.setTop (mkF m 101 #[.val (.int p1), .val (.int p2), .val (.int p3), .val (.int p4), .val (.int p5), .val (.int (2 : Int32)), .val (.ref b_51), .val (.ref b_53), .val (.ref b_55), .val (.ref b56), .unset, .unset, .unset] [])) t_
      refine XS.goto X60.here hx rfl (pc0 := 101) (pc' := 125) rfl (hb hby at_101) (by decide) (by decide) ?_
      exact k_
    obtain ⟨T61, h61, X61, e61, E61, A61, D61, -, st61⟩ := newO X60 hx hZ hown (own_w hw 4 rfl) (own_w hw 5 rfl) (own_w hw 6 rfl) e60 (g := (mkF m 125 #[.val (.int p1), .val (.int p2), .val (.int p3), .val (.int p4), .val (.int p5), .val (.int (2 : Int32)), .val (.ref b_51), .val (.ref b_53), .val (.ref b_55), .val (.ref b56), .unset, .unset, .unset] [])) rfl (hb hby at_125) (by decide) (by decide)
    obtain ⟨b61, g61⟩ : ∃ z, z = h60.size := ⟨_, rfl⟩
    rw [← g61] at A61 D61 st61
    refine own_go st61 ?_
    have K61 : Keep h0 h61 [] := K60.ext E61
    have r61 := CHr.ext E61 R60.1
    have R61 := R60.trans r61
    have hk := Nat.le_trans hk E61.1
    have O61 := O60.ext E61
    have Q61 := Safe.ext E61 R60.1 (Safe.new (Nat.le_of_eq g61.symm))
    have F61_value : Fld Z h61 b61 "java/lang/String" "value" "[B" .null := D61 (Or.inr (own_w hw 20 rfl)) (ty := (.array .byte)) (by decide)
    have F61_coder : Fld Z h61 b61 "java/lang/String" "coder" "B" (.int (0 : Int32)) := D61 (Or.inr (own_w hw 21 rfl)) (ty := .byte) (by decide)
    refine own_go (A := T61.setTop (mkF m 130 #[.val (.int p1), .val (.int p2), .val (.int p3), .val (.int p4), .val (.int p5), .val (.int (2 : Int32)), .val (.ref b_51), .val (.ref b_53), .val (.ref b_55), .val (.ref b56), .unset, .unset, .unset] [(.int (3 : Int32)), (.ref b61), (.ref b61)])) (fun t_ k_ => ?_) ?_
    · show Steps p.tables e below (T61.setTop (mkF m 128 #[.val (.int p1), .val (.int p2), .val (.int p3), .val (.int p4), .val (.int p5), .val (.int (2 : Int32)), .val (.ref b_51), .val (.ref b_53), .val (.ref b_55), .val (.ref b56), .unset, .unset, .unset] [(.ref b61)])) t_
      refine XS.dup X61.here hx rfl (hb hby at_128) rfl rfl ?_
      show Steps p.tables e below (T61.setTop (mkF m 129 #[.val (.int p1), .val (.int p2), .val (.int p3), .val (.int p4), .val (.int p5), .val (.int (2 : Int32)), .val (.ref b_51), .val (.ref b_53), .val (.ref b_55), .val (.ref b56), .unset, .unset, .unset] [(.ref b61), (.ref b61)])) t_
      refine XS.iconst X61.here hx rfl (hb hby at_129) ?_
      exact k_
    obtain ⟨T62, h62, k62, X62, e62, E62, A62, st62⟩ := newP X61 hx hZ (own_w hw 7 rfl) e61 (g := (mkF m 130 #[.val (.int p1), .val (.int p2), .val (.int p3), .val (.int p4), .val (.int p5), .val (.int (2 : Int32)), .val (.ref b_51), .val (.ref b_53), .val (.ref b_55), .val (.ref b56), .unset, .unset, .unset] [(.int (3 : Int32)), (.ref b61), (.ref b61)])) rfl (hb hby at_130) rfl (by decide) (cap := 3) (by decide) (by decide) (by decide) (by decide)
    obtain ⟨b62, g62⟩ : ∃ z, z = h61.size := ⟨_, rfl⟩
    rw [← g62] at A62 st62
    refine own_go st62 ?_
    have K62 : Keep h0 h62 [] := K61.ext E62
    have r62 := CHr.ext E62 R61.1
    have R62 := R61.trans r62
    have hk := Nat.le_trans hk E62.1
    have O62 := O61.ext E62
    have Q62 := Safe.ext E62 R61.1 (Safe.new (Nat.le_of_eq g62.symm))
    have B62 : Arv Z h62 b62 k62 .char (3 : Int32) [(.int (0 : Int32)), (.int (0 : Int32)), (.int (0 : Int32))] (.int (0 : Int32)) := (Arv.new A62 (by decide)).pad (pad_rep [] (.int (0 : Int32)) 3)
    refine own_go (A := T62.setTop (mkF m 136 #[.val (.int p1), .val (.int p2), .val (.int p3), .val (.int p4), .val (.int p5), .val (.int (2 : Int32)), .val (.ref b_51), .val (.ref b_53), .val (.ref b_55), .val (.ref b56), .unset, .unset, .unset] [(.int (120 : Int32)), (.int (0 : Int32)), (.ref b62), (.ref b62), (.ref b61), (.ref b61)])) (fun t_ k_ => ?_) ?_
    · show Steps p.tables e below (T62.setTop (mkF m 132 #[.val (.int p1), .val (.int p2), .val (.int p3), .val (.int p4), .val (.int p5), .val (.int (2 : Int32)), .val (.ref b_51), .val (.ref b_53), .val (.ref b_55), .val (.ref b56), .unset, .unset, .unset] [(.ref b62), (.ref b61), (.ref b61)])) t_
      refine XS.dup X62.here hx rfl (hb hby at_132) rfl rfl ?_
      show Steps p.tables e below (T62.setTop (mkF m 133 #[.val (.int p1), .val (.int p2), .val (.int p3), .val (.int p4), .val (.int p5), .val (.int (2 : Int32)), .val (.ref b_51), .val (.ref b_53), .val (.ref b_55), .val (.ref b56), .unset, .unset, .unset] [(.ref b62), (.ref b62), (.ref b61), (.ref b61)])) t_
      refine XS.iconst X62.here hx rfl (hb hby at_133) ?_
      show Steps p.tables e below (T62.setTop (mkF m 134 #[.val (.int p1), .val (.int p2), .val (.int p3), .val (.int p4), .val (.int p5), .val (.int (2 : Int32)), .val (.ref b_51), .val (.ref b_53), .val (.ref b_55), .val (.ref b56), .unset, .unset, .unset] [(.int (0 : Int32)), (.ref b62), (.ref b62), (.ref b61), (.ref b61)])) t_
      refine XS.bipush X62.here hx rfl (hb hby at_134) ?_
      exact k_
    obtain ⟨cl63, Ar63, q63, S63, M63, H63, G63⟩ := id B62
    have hin63 : ¬ ((0 : Int32) < 0 ∨ cl63.slots.size ≤ ((0 : Int32)).toNatClampNeg) := inb_of S63 ⟨by decide, by decide⟩
    obtain ⟨T64, h64, X64, e64, W64, st64⟩ := stC X62 hx hZ e62 Ar63 (j := (0 : Int32)) hin63 (g := (mkF m 136 #[.val (.int p1), .val (.int p2), .val (.int p3), .val (.int p4), .val (.int p5), .val (.int (2 : Int32)), .val (.ref b_51), .val (.ref b_53), .val (.ref b_55), .val (.ref b56), .unset, .unset, .unset] [(.int (120 : Int32)), (.int (0 : Int32)), (.ref b62), (.ref b62), (.ref b61), (.ref b61)])) rfl rfl (hb hby at_136)
    have B64 : Arv Z h64 b62 k62 .char (3 : Int32) [(.int (120 : Int32)), (.int (0 : Int32)), (.int (0 : Int32))] (.int (0 : Int32)) := Arv.set Ar63 q63 S63 M63 H63 G63 (fits_nar_char _) W64 0 rfl (Nat.le_of_ble_eq_true rfl)
    refine own_go st64 ?_
    have K64 : Keep h0 h64 [] := K62.wr W64 (Or.inr (Nat.le_trans K61.1 (Nat.le_of_eq g62.symm)))
    have r64 := CHr.wr W64 Q62 R62.1
    have R64 := R62.trans r64
    have hk := Nat.le_trans hk (Keep.of_wr W64).1
    have O64 := O62.wr W64 (Nat.le_trans Z0 (Nat.le_trans K61.1 (Nat.le_of_eq g62.symm)))
    have N64 := Fr.snoc X64 N60 (Nat.le_trans Z0 (Nat.le_trans K61.1 (Nat.le_of_eq g62.symm)))
    refine own_go (A := T64.setTop (mkF m 141 #[.val (.int p1), .val (.int p2), .val (.int p3), .val (.int p4), .val (.int p5), .val (.int (2 : Int32)), .val (.ref b_51), .val (.ref b_53), .val (.ref b_55), .val (.ref b56), .unset, .unset, .unset] [(.int (121 : Int32)), (.int (1 : Int32)), (.ref b62), (.ref b62), (.ref b61), (.ref b61)])) (fun t_ k_ => ?_) ?_
    · show Steps p.tables e below (T64.setTop (mkF m 137 #[.val (.int p1), .val (.int p2), .val (.int p3), .val (.int p4), .val (.int p5), .val (.int (2 : Int32)), .val (.ref b_51), .val (.ref b_53), .val (.ref b_55), .val (.ref b56), .unset, .unset, .unset] [(.ref b62), (.ref b61), (.ref b61)])) t_
      refine XS.dup X64.here hx rfl (hb hby at_137) rfl rfl ?_
      show Steps p.tables e below (T64.setTop (mkF m 138 #[.val (.int p1), .val (.int p2), .val (.int p3), .val (.int p4), .val (.int p5), .val (.int (2 : Int32)), .val (.ref b_51), .val (.ref b_53), .val (.ref b_55), .val (.ref b56), .unset, .unset, .unset] [(.ref b62), (.ref b62), (.ref b61), (.ref b61)])) t_
      refine XS.iconst X64.here hx rfl (hb hby at_138) ?_
      show Steps p.tables e below (T64.setTop (mkF m 139 #[.val (.int p1), .val (.int p2), .val (.int p3), .val (.int p4), .val (.int p5), .val (.int (2 : Int32)), .val (.ref b_51), .val (.ref b_53), .val (.ref b_55), .val (.ref b56), .unset, .unset, .unset] [(.int (1 : Int32)), (.ref b62), (.ref b62), (.ref b61), (.ref b61)])) t_
      refine XS.bipush X64.here hx rfl (hb hby at_139) ?_
      exact k_
    obtain ⟨cl65, Ar65, q65, S65, M65, H65, G65⟩ := id B64
    have hin65 : ¬ ((1 : Int32) < 0 ∨ cl65.slots.size ≤ ((1 : Int32)).toNatClampNeg) := inb_of S65 ⟨by decide, by decide⟩
    obtain ⟨T66, h66, X66, e66, W66, st66⟩ := stC X64 hx hZ e64 Ar65 (j := (1 : Int32)) hin65 (g := (mkF m 141 #[.val (.int p1), .val (.int p2), .val (.int p3), .val (.int p4), .val (.int p5), .val (.int (2 : Int32)), .val (.ref b_51), .val (.ref b_53), .val (.ref b_55), .val (.ref b56), .unset, .unset, .unset] [(.int (121 : Int32)), (.int (1 : Int32)), (.ref b62), (.ref b62), (.ref b61), (.ref b61)])) rfl rfl (hb hby at_141)
    have B66 : Arv Z h66 b62 k62 .char (3 : Int32) [(.int (120 : Int32)), (.int (121 : Int32)), (.int (0 : Int32))] (.int (0 : Int32)) := Arv.set Ar65 q65 S65 M65 H65 G65 (fits_nar_char _) W66 1 rfl (Nat.le_of_ble_eq_true rfl)
    refine own_go st66 ?_
    have K66 : Keep h0 h66 [] := K64.wr W66 (Or.inr (Nat.le_trans K61.1 (Nat.le_of_eq g62.symm)))
    have r66 := CHr.wr W66 (r64.safe B62.lt Q62) R64.1
    have R66 := R64.trans r66
    have hk := Nat.le_trans hk (Keep.of_wr W66).1
    have O66 := O64.wr W66 (Nat.le_trans Z0 (Nat.le_trans K61.1 (Nat.le_of_eq g62.symm)))
    have N66 := Fr.snoc X66 N64 (Nat.le_trans Z0 (Nat.le_trans K61.1 (Nat.le_of_eq g62.symm)))
    refine own_go (A := T66.setTop (mkF m 146 #[.val (.int p1), .val (.int p2), .val (.int p3), .val (.int p4), .val (.int p5), .val (.int (2 : Int32)), .val (.ref b_51), .val (.ref b_53), .val (.ref b_55), .val (.ref b56), .unset, .unset, .unset] [(.int (122 : Int32)), (.int (2 : Int32)), (.ref b62), (.ref b62), (.ref b61), (.ref b61)])) (fun t_ k_ => ?_) ?_
    · show Steps p.tables e below (T66.setTop (mkF m 142 #[.val (.int p1), .val (.int p2), .val (.int p3), .val (.int p4), .val (.int p5), .val (.int (2 : Int32)), .val (.ref b_51), .val (.ref b_53), .val (.ref b_55), .val (.ref b56), .unset, .unset, .unset] [(.ref b62), (.ref b61), (.ref b61)])) t_
      refine XS.dup X66.here hx rfl (hb hby at_142) rfl rfl ?_
      show Steps p.tables e below (T66.setTop (mkF m 143 #[.val (.int p1), .val (.int p2), .val (.int p3), .val (.int p4), .val (.int p5), .val (.int (2 : Int32)), .val (.ref b_51), .val (.ref b_53), .val (.ref b_55), .val (.ref b56), .unset, .unset, .unset] [(.ref b62), (.ref b62), (.ref b61), (.ref b61)])) t_
      refine XS.iconst X66.here hx rfl (hb hby at_143) ?_
      show Steps p.tables e below (T66.setTop (mkF m 144 #[.val (.int p1), .val (.int p2), .val (.int p3), .val (.int p4), .val (.int p5), .val (.int (2 : Int32)), .val (.ref b_51), .val (.ref b_53), .val (.ref b_55), .val (.ref b56), .unset, .unset, .unset] [(.int (2 : Int32)), (.ref b62), (.ref b62), (.ref b61), (.ref b61)])) t_
      refine XS.bipush X66.here hx rfl (hb hby at_144) ?_
      exact k_
    obtain ⟨cl67, Ar67, q67, S67, M67, H67, G67⟩ := id B66
    have hin67 : ¬ ((2 : Int32) < 0 ∨ cl67.slots.size ≤ ((2 : Int32)).toNatClampNeg) := inb_of S67 ⟨by decide, by decide⟩
    obtain ⟨T68, h68, X68, e68, W68, st68⟩ := stC X66 hx hZ e66 Ar67 (j := (2 : Int32)) hin67 (g := (mkF m 146 #[.val (.int p1), .val (.int p2), .val (.int p3), .val (.int p4), .val (.int p5), .val (.int (2 : Int32)), .val (.ref b_51), .val (.ref b_53), .val (.ref b_55), .val (.ref b56), .unset, .unset, .unset] [(.int (122 : Int32)), (.int (2 : Int32)), (.ref b62), (.ref b62), (.ref b61), (.ref b61)])) rfl rfl (hb hby at_146)
    have B68 : Arv Z h68 b62 k62 .char (3 : Int32) [(.int (120 : Int32)), (.int (121 : Int32)), (.int (122 : Int32))] (.int (0 : Int32)) := Arv.set Ar67 q67 S67 M67 H67 G67 (fits_nar_char _) W68 2 rfl (Nat.le_of_ble_eq_true rfl)
    refine own_go st68 ?_
    have K68 : Keep h0 h68 [] := K66.wr W68 (Or.inr (Nat.le_trans K61.1 (Nat.le_of_eq g62.symm)))
    have r68 := CHr.wr W68 (r66.safe (Nat.lt_of_lt_of_le B62.lt (Keep.of_wr W64).1) (r64.safe B62.lt Q62)) R66.1
    have R68 := R66.trans r68
    have hk := Nat.le_trans hk (Keep.of_wr W68).1
    have O68 := O66.wr W68 (Nat.le_trans Z0 (Nat.le_trans K61.1 (Nat.le_of_eq g62.symm)))
    have N68 := Fr.snoc X68 N66 (Nat.le_trans Z0 (Nat.le_trans K61.1 (Nat.le_of_eq g62.symm)))
    obtain ⟨_, _, ⟨T69, L69, k69, n69⟩, -, X69, ⟨Lc69, hQ69, l69, y69, z69⟩, st69⟩ := X68.specialBack hx (y := own_y8) rfl hown (mvT hZ (own_w hw 8 rfl)) (mvT hZ (own_w hw 9 rfl)) (mvT hZ (own_w hw 10 rfl)) (by decide) (backOf (W := 1) (rmSC3 l Z a0 hw [] b61 b62 cs k62 (120 : Int32) (121 : Int32) (122 : Int32) h68 n0 (Nat.le_trans Z0 K68.1) O68 u1 hcs ((((A61.ext E62).wr W64).wr W66).wr W68) ((((F61_value.ext E62).other W64 (Or.inl (Nat.ne_of_lt (Nat.lt_of_lt_of_le A61.lt (Nat.le_of_eq g62.symm))))).other W66 (Or.inl (Nat.ne_of_lt (Nat.lt_of_lt_of_le A61.lt (Nat.le_of_eq g62.symm))))).other W68 (Or.inl (Nat.ne_of_lt (Nat.lt_of_lt_of_le A61.lt (Nat.le_of_eq g62.symm))))) ((((F61_coder.ext E62).other W64 (Or.inl (Nat.ne_of_lt (Nat.lt_of_lt_of_le A61.lt (Nat.le_of_eq g62.symm))))).other W66 (Or.inl (Nat.ne_of_lt (Nat.lt_of_lt_of_le A61.lt (Nat.le_of_eq g62.symm))))).other W68 (Or.inl (Nat.ne_of_lt (Nat.lt_of_lt_of_le A61.lt (Nat.le_of_eq g62.symm))))) (Nat.le_trans Z0 (Nat.le_trans K60.1 (Nat.le_of_eq g61.symm))) B68 (by decide : ¬ ((255 : Int32) < (120 : Int32))) (by decide : ¬ ((255 : Int32) < (121 : Int32))) (by decide : ¬ ((255 : Int32) < (122 : Int32)))) hZ (own_w hw 10 rfl) (own_w hw 6 rfl) (by decide) (by decide)) (g := (mkF m 147 #[.val (.int p1), .val (.int p2), .val (.int p3), .val (.int p4), .val (.int p5), .val (.int (2 : Int32)), .val (.ref b_51), .val (.ref b_53), .val (.ref b_55), .val (.ref b56), .unset, .unset, .unset] [(.ref b62), (.ref b61), (.ref b61)])) rfl (by rw [hml]; rfl) (Steps.refl _) (a := b61) (argsL := [(.ref b62)]) (rest := [(.ref b61)]) (lenOf pd_7 rfl) rfl (by show 2 * 0 + _ ≤ _; exact Nat.le_of_eq rfl) (hb hby at_147) (fun _ _ => ⟨rfl, e68, (by decide : 21 + 1 ≤ _), (by decide : 45 + 3 ≤ _)⟩)
    dsimp only [Pt.U, Pt.locs, Pt.cells, Pt.slots] at X69 l69 y69 z69 st69 hQ69
    subst l69 y69 z69
    obtain ⟨d_69, k_69, rfl, N69q, Kc69, r69_0, r69_1, r69_2, r69_3⟩ := hQ69
    have N69 := Fr.app N68 N69q
    refine own_via st69 ?_
    have K69 : Keep h0 T69.heap [] := K68.trans Kc69 (allS (P := fun x => x ∈ _ ∨ _ ≤ x) (Or.inr (Nat.le_trans K60.1 (Nat.le_of_eq g61.symm))) all0)
    have r69 := CHr.keep Kc69 (allS (P := fun x => Safe Z own_EL _ _ x) (r68.safe (Nat.lt_of_lt_of_le (Nat.lt_of_lt_of_le (Nat.lt_of_lt_of_le A61.lt E62.1) (Keep.of_wr W64).1) (Keep.of_wr W66).1) (r66.safe (Nat.lt_of_lt_of_le (Nat.lt_of_lt_of_le A61.lt E62.1) (Keep.of_wr W64).1) (r64.safe (Nat.lt_of_lt_of_le A61.lt E62.1) (r62.safe A61.lt Q61)))) all0) R68.1
    have R69 := R68.trans r69
    have hk := Nat.le_trans hk Kc69.1
    have O69 := O68.keep Kc69 (allS (P := fun x => n0 ≤ x) (Nat.le_trans Z0 (Nat.le_trans K60.1 (Nat.le_of_eq g61.symm))) all0)
    refine own_go (A := T69.setTop (mkF m 154 #[.val (.int p1), .val (.int p2), .val (.int p3), .val (.int p4), .val (.int p5), .val (.int (2 : Int32)), .val (.ref b_51), .val (.ref b_53), .val (.ref b_55), .val (.ref b56), .val (.ref b61), .unset, .unset] [(.ref b56)])) (fun t_ k_ => ?_) ?_
    · show Steps p.tables e below (T69.setTop (mkF m 150 #[.val (.int p1), .val (.int p2), .val (.int p3), .val (.int p4), .val (.int p5), .val (.int (2 : Int32)), .val (.ref b_51), .val (.ref b_53), .val (.ref b_55), .val (.ref b56), .unset, .unset, .unset] [(.ref b61)])) t_
      refine XS.astore X69.here hx rfl (hb hby at_150) rfl rfl (l' := #[.val (.int p1), .val (.int p2), .val (.int p3), .val (.int p4), .val (.int p5), .val (.int (2 : Int32)), .val (.ref b_51), .val (.ref b_53), .val (.ref b_55), .val (.ref b56), .val (.ref b61), .unset, .unset]) rfl ?_
      show Steps p.tables e below (T69.setTop (mkF m 152 #[.val (.int p1), .val (.int p2), .val (.int p3), .val (.int p4), .val (.int p5), .val (.int (2 : Int32)), .val (.ref b_51), .val (.ref b_53), .val (.ref b_55), .val (.ref b56), .val (.ref b61), .unset, .unset] [])) t_
      refine XS.aload X69.here hx rfl (hb hby at_152) rfl rfl ?_
      exact k_
    obtain ⟨_, _, ⟨T70, L70, k70, n70⟩, -, X70, ⟨Lc70, hQ70, l70, y70, z70⟩, st70⟩ := Jvm.LawKit.callS X69 hx (y := own_y20) hown (mvT hZ (own_w hw 38 rfl)) (mvT hZ (own_w hw 39 rfl)) (mvT hZ (own_w hw 40 rfl)) (mvT hZ (own_w hw 41 rfl)) (by decide) (backOf (W := 0) (rmDeny2 l Z a0 hw [] b56 k56 b_51 b_53 T69.heap n0 (Nat.le_trans Z0 K69.1) ((((((B60.ext E61).ext E62).other W64 (Nat.ne_of_lt (Nat.lt_of_lt_of_le (Nat.lt_of_lt_of_le (Nat.lt_of_lt_of_le (Nat.lt_of_lt_of_le B56.lt (Keep.of_wr W58).1) (Keep.of_wr W60).1) E61.1) (Nat.le_of_eq g62.symm)))).other W66 (Nat.ne_of_lt (Nat.lt_of_lt_of_le (Nat.lt_of_lt_of_le (Nat.lt_of_lt_of_le (Nat.lt_of_lt_of_le B56.lt (Keep.of_wr W58).1) (Keep.of_wr W60).1) E61.1) (Nat.le_of_eq g62.symm)))).other W68 (Nat.ne_of_lt (Nat.lt_of_lt_of_le (Nat.lt_of_lt_of_le (Nat.lt_of_lt_of_le (Nat.lt_of_lt_of_le B56.lt (Keep.of_wr W58).1) (Keep.of_wr W60).1) E61.1) (Nat.le_of_eq g62.symm)))).keep Kc69 (ninS (Nat.ne_of_lt (Nat.lt_of_lt_of_le (Nat.lt_of_lt_of_le (Nat.lt_of_lt_of_le B56.lt (Keep.of_wr W58).1) (Keep.of_wr W60).1) (Nat.le_of_eq g61.symm))) nin0)) (((((((((((r51_1.keep Kc53).keep Kc55).ext E56).wr W58).wr W60).ext E61).ext E62).wr W64).wr W66).wr W68).keep Kc69) ((((((((((r53_1.keep Kc55).ext E56).wr W58).wr W60).ext E61).ext E62).wr W64).wr W66).wr W68).keep Kc69)) hZ (own_w hw 41 rfl) (own_w hw 40 rfl) (by decide) (by decide)) (g := (mkF m 154 #[.val (.int p1), .val (.int p2), .val (.int p3), .val (.int p4), .val (.int p5), .val (.int (2 : Int32)), .val (.ref b_51), .val (.ref b_53), .val (.ref b_55), .val (.ref b56), .val (.ref b61), .unset, .unset] [(.ref b56)])) rfl (by rw [hml]; rfl) (argsL := [(.ref b56)]) (rest := []) (lenOf pd_17 rfl) rfl (by show 2 * 0 + _ ≤ _; exact Nat.le_of_eq rfl) (hb hby at_154) (fun _ _ => ⟨rfl, rfl, (by decide : 22 + 2 ≤ _), (by decide : 48 + 4 ≤ _)⟩)
    dsimp only [Pt.U, Pt.locs, Pt.cells, Pt.slots] at X70 l70 y70 z70 st70 hQ70
    subst l70 y70 z70
    obtain ⟨vo_70, li_70, rfl, N70q, Kc70, r70_0, r70_1, r70_2, r70_3, r70_4, r70_5, r70_6, r70_7⟩ := hQ70
    have N70 := Fr.app N69 N70q
    refine own_go st70 ?_
    have K70 : Keep h0 T70.heap [] := K69.trans Kc70 all0
    have r70 := CHr.keep Kc70 all0 R69.1
    have R70 := R69.trans r70
    have hk := Nat.le_trans hk Kc70.1
    have O70 := O69.keep Kc70 all0
    refine own_go (A := T70.setTop (mkF m 170 #[.val (.int p1), .val (.int p2), .val (.int p3), .val (.int p4), .val (.int p5), .val (.int (2 : Int32)), .val (.ref b_51), .val (.ref b_53), .val (.ref b_55), .val (.ref b56), .val (.ref b61), .val (.ref vo_70), .unset] [(.ref b61), (.int (0 : Int32)), (.ref b56)])) (fun t_ k_ => ?_) ?_
    · show Steps p.tables e below (T70.setTop (mkF m 157 #[.val (.int p1), .val (.int p2), .val (.int p3), .val (.int p4), .val (.int p5), .val (.int (2 : Int32)), .val (.ref b_51), .val (.ref b_53), .val (.ref b_55), .val (.ref b56), .val (.ref b61), .unset, .unset] [(.ref vo_70)])) t_
      refine XS.astore X70.here hx rfl (hb hby at_157) rfl rfl (l' := #[.val (.int p1), .val (.int p2), .val (.int p3), .val (.int p4), .val (.int p5), .val (.int (2 : Int32)), .val (.ref b_51), .val (.ref b_53), .val (.ref b_55), .val (.ref b56), .val (.ref b61), .val (.ref vo_70), .unset]) rfl ?_
      show Steps p.tables e below (T70.setTop (mkF m 159 #[.val (.int p1), .val (.int p2), .val (.int p3), .val (.int p4), .val (.int p5), .val (.int (2 : Int32)), .val (.ref b_51), .val (.ref b_53), .val (.ref b_55), .val (.ref b56), .val (.ref b61), .val (.ref vo_70), .unset] [])) t_
      refine XS.iload X70.here hx rfl (hb hby at_159) rfl ?_
      show Steps p.tables e below (T70.setTop (mkF m 161 #[.val (.int p1), .val (.int p2), .val (.int p3), .val (.int p4), .val (.int p5), .val (.int (2 : Int32)), .val (.ref b_51), .val (.ref b_53), .val (.ref b_55), .val (.ref b56), .val (.ref b61), .val (.ref vo_70), .unset] [(.int (2 : Int32))])) t_
      refine XS.iconst X70.here hx rfl (hb hby at_161) ?_
      show Steps p.tables e below (T70.setTop (mkF m 162 #[.val (.int p1), .val (.int p2), .val (.int p3), .val (.int p4), .val (.int p5), .val (.int (2 : Int32)), .val (.ref b_51), .val (.ref b_53), .val (.ref b_55), .val (.ref b56), .val (.ref b61), .val (.ref vo_70), .unset] [(.int (1 : Int32)), (.int (2 : Int32))])) t_
      refine XS.icmpNo X70.here hx rfl (hb hby at_162) rfl (flt (by decide : ¬ ((2 : Int32) < (1 : Int32)))).1 ?_
      show Steps p.tables e below (T70.setTop (mkF m 165 #[.val (.int p1), .val (.int p2), .val (.int p3), .val (.int p4), .val (.int p5), .val (.int (2 : Int32)), .val (.ref b_51), .val (.ref b_53), .val (.ref b_55), .val (.ref b56), .val (.ref b61), .val (.ref vo_70), .unset] [])) t_
      refine XS.aload X70.here hx rfl (hb hby at_165) rfl rfl ?_
      show Steps p.tables e below (T70.setTop (mkF m 167 #[.val (.int p1), .val (.int p2), .val (.int p3), .val (.int p4), .val (.int p5), .val (.int (2 : Int32)), .val (.ref b_51), .val (.ref b_53), .val (.ref b_55), .val (.ref b56), .val (.ref b61), .val (.ref vo_70), .unset] [(.ref b56)])) t_
      refine XS.iconst X70.here hx rfl (hb hby at_167) ?_
      show Steps p.tables e below (T70.setTop (mkF m 168 #[.val (.int p1), .val (.int p2), .val (.int p3), .val (.int p4), .val (.int p5), .val (.int (2 : Int32)), .val (.ref b_51), .val (.ref b_53), .val (.ref b_55), .val (.ref b56), .val (.ref b61), .val (.ref vo_70), .unset] [(.int (0 : Int32)), (.ref b56)])) t_
      refine XS.aload X70.here hx rfl (hb hby at_168) rfl rfl ?_
      exact k_
    obtain ⟨cl71, Ar71, q71, S71, M71, H71, G71⟩ := id (((((((B60.ext E61).ext E62).other W64 (Nat.ne_of_lt (Nat.lt_of_lt_of_le (Nat.lt_of_lt_of_le (Nat.lt_of_lt_of_le (Nat.lt_of_lt_of_le B56.lt (Keep.of_wr W58).1) (Keep.of_wr W60).1) E61.1) (Nat.le_of_eq g62.symm)))).other W66 (Nat.ne_of_lt (Nat.lt_of_lt_of_le (Nat.lt_of_lt_of_le (Nat.lt_of_lt_of_le (Nat.lt_of_lt_of_le B56.lt (Keep.of_wr W58).1) (Keep.of_wr W60).1) E61.1) (Nat.le_of_eq g62.symm)))).other W68 (Nat.ne_of_lt (Nat.lt_of_lt_of_le (Nat.lt_of_lt_of_le (Nat.lt_of_lt_of_le (Nat.lt_of_lt_of_le B56.lt (Keep.of_wr W58).1) (Keep.of_wr W60).1) E61.1) (Nat.le_of_eq g62.symm)))).keep Kc69 (ninS (Nat.ne_of_lt (Nat.lt_of_lt_of_le (Nat.lt_of_lt_of_le (Nat.lt_of_lt_of_le B56.lt (Keep.of_wr W58).1) (Keep.of_wr W60).1) (Nat.le_of_eq g61.symm))) nin0)).keep Kc70 nin0)
    have hin71 : ¬ ((0 : Int32) < 0 ∨ cl71.slots.size ≤ ((0 : Int32)).toNatClampNeg) := inb_of S71 ⟨by decide, by decide⟩
    obtain ⟨T72, h72, X72, e72, W72, st72⟩ := stR X70 hx hZ rfl Ar71 (j := (0 : Int32)) hin71 rfl (Sto.ofV Ar71 q71 V56 (Ins.self ((((((A61.ext E62).wr W64).wr W66).wr W68).keep Kc69).keep Kc70))) (g := (mkF m 170 #[.val (.int p1), .val (.int p2), .val (.int p3), .val (.int p4), .val (.int p5), .val (.int (2 : Int32)), .val (.ref b_51), .val (.ref b_53), .val (.ref b_55), .val (.ref b56), .val (.ref b61), .val (.ref vo_70), .unset] [(.ref b61), (.int (0 : Int32)), (.ref b56)])) rfl rfl (hb hby at_170)
    have B72 : Arv Z h72 b56 k56 (.object "java/lang/String") (2 : Int32) [(.ref b61), (.ref b_53)] .null := Arv.set Ar71 q71 S71 M71 H71 G71 rfl W72 0 rfl (Nat.le_of_ble_eq_true rfl)
    refine own_go st72 ?_
    have K72 : Keep h0 h72 [] := K70.wr W72 (Or.inr (Nat.le_trans K55.1 (Nat.le_of_eq g56.symm)))
    have r72 := CHr.wr W72 (r70.safe (Nat.lt_of_lt_of_le (Nat.lt_of_lt_of_le (Nat.lt_of_lt_of_le (Nat.lt_of_lt_of_le (Nat.lt_of_lt_of_le (Nat.lt_of_lt_of_le (Nat.lt_of_lt_of_le (Nat.lt_of_lt_of_le B56.lt (Keep.of_wr W58).1) (Keep.of_wr W60).1) E61.1) E62.1) (Keep.of_wr W64).1) (Keep.of_wr W66).1) (Keep.of_wr W68).1) Kc69.1) (r69.safe (Nat.lt_of_lt_of_le (Nat.lt_of_lt_of_le (Nat.lt_of_lt_of_le (Nat.lt_of_lt_of_le (Nat.lt_of_lt_of_le (Nat.lt_of_lt_of_le (Nat.lt_of_lt_of_le B56.lt (Keep.of_wr W58).1) (Keep.of_wr W60).1) E61.1) E62.1) (Keep.of_wr W64).1) (Keep.of_wr W66).1) (Keep.of_wr W68).1) (r68.safe (Nat.lt_of_lt_of_le (Nat.lt_of_lt_of_le (Nat.lt_of_lt_of_le (Nat.lt_of_lt_of_le (Nat.lt_of_lt_of_le (Nat.lt_of_lt_of_le B56.lt (Keep.of_wr W58).1) (Keep.of_wr W60).1) E61.1) E62.1) (Keep.of_wr W64).1) (Keep.of_wr W66).1) (r66.safe (Nat.lt_of_lt_of_le (Nat.lt_of_lt_of_le (Nat.lt_of_lt_of_le (Nat.lt_of_lt_of_le (Nat.lt_of_lt_of_le B56.lt (Keep.of_wr W58).1) (Keep.of_wr W60).1) E61.1) E62.1) (Keep.of_wr W64).1) (r64.safe (Nat.lt_of_lt_of_le (Nat.lt_of_lt_of_le (Nat.lt_of_lt_of_le (Nat.lt_of_lt_of_le B56.lt (Keep.of_wr W58).1) (Keep.of_wr W60).1) E61.1) E62.1) (r62.safe (Nat.lt_of_lt_of_le (Nat.lt_of_lt_of_le (Nat.lt_of_lt_of_le B56.lt (Keep.of_wr W58).1) (Keep.of_wr W60).1) E61.1) (r61.safe (Nat.lt_of_lt_of_le (Nat.lt_of_lt_of_le B56.lt (Keep.of_wr W58).1) (Keep.of_wr W60).1) (r60.safe (Nat.lt_of_lt_of_le B56.lt (Keep.of_wr W58).1) (r58.safe B56.lt Q56))))))))) R70.1
    have R72 := R70.trans r72
    have hk := Nat.le_trans hk (Keep.of_wr W72).1
    have O72 := O70.wr W72 (Nat.le_trans Z0 (Nat.le_trans K55.1 (Nat.le_of_eq g56.symm)))
    have N72 := Fr.snoc X72 N70 (Nat.le_trans Z0 (Nat.le_trans K55.1 (Nat.le_of_eq g56.symm)))
    refine own_go (A := T72.setTop (mkF m 173 #[.val (.int p1), .val (.int p2), .val (.int p3), .val (.int p4), .val (.int p5), .val (.int (2 : Int32)), .val (.ref b_51), .val (.ref b_53), .val (.ref b_55), .val (.ref b56), .val (.ref b61), .val (.ref vo_70), .unset] [(.ref vo_70)])) (fun t_ k_ => ?_) ?_
    · show Steps p.tables e below (T72.setTop (mkF m 171 #[.val (.int p1), .val (.int p2), .val (.int p3), .val (.int p4), .val (.int p5), .val (.int (2 : Int32)), .val (.ref b_51), .val (.ref b_53), .val (.ref b_55), .val (.ref b56), .val (.ref b61), .val (.ref vo_70), .unset] [])) t_
      refine XS.aload X72.here hx rfl (hb hby at_171) rfl rfl ?_
      exact k_
    obtain ⟨cq73, kq73, q73a, q73b, q73c⟩ := isOf hZ e72 (r70_1.wr W72)
    obtain ⟨_, _, ⟨T73, L73, k73, n73⟩, -, X73, ⟨Lc73, hQ73, l73, y73, z73⟩, st73⟩ := X72.virtualBack hx (y := own_y21) (z := own_y21) hown (mvT hZ (own_w hw 44 rfl)) (mvT hZ (own_w hw 45 rfl)) (notFace_of_selects (args := #[]) (mvT hZ (own_w hw 47 rfl))) (mvT hZ (own_w hw 47 rfl)) (mvT hZ (own_w hw 46 rfl)) (by decide) (backOf (W := 0) (rmAll l Z a0 hw [] vo_70 h72 n0 (Nat.le_trans Z0 K72.1) (r70_2.other W72 (Or.inl (Ne.symm (Nat.ne_of_lt (Nat.lt_of_lt_of_le (Nat.lt_of_lt_of_le (Nat.lt_of_lt_of_le (Nat.lt_of_lt_of_le (Nat.lt_of_lt_of_le (Nat.lt_of_lt_of_le (Nat.lt_of_lt_of_le (Nat.lt_of_lt_of_le (Nat.lt_of_lt_of_le B56.lt (Keep.of_wr W58).1) (Keep.of_wr W60).1) E61.1) E62.1) (Keep.of_wr W64).1) (Keep.of_wr W66).1) (Keep.of_wr W68).1) Kc69.1) r70_0)))))) hZ (own_w hw 48 rfl) (own_w hw 40 rfl) (by decide) (by decide)) q73a q73c (g := (mkF m 173 #[.val (.int p1), .val (.int p2), .val (.int p3), .val (.int p4), .val (.int p5), .val (.int (2 : Int32)), .val (.ref b_51), .val (.ref b_53), .val (.ref b_55), .val (.ref b56), .val (.ref b61), .val (.ref vo_70), .unset] [(.ref vo_70)])) rfl (by rw [hml]; rfl) (Steps.refl _) (argsL := []) (rest := []) (lenOf pd_18 rfl) rfl (by show 2 * 0 + _ ≤ _; exact Nat.le_of_eq rfl) (hb hby at_173) (fun _ _ => ⟨rfl, e72, (by decide : 24 + 0 ≤ _), (by decide : 52 + 0 ≤ _)⟩)
    dsimp only [Pt.U, Pt.locs, Pt.cells, Pt.slots] at X73 l73 y73 z73 st73 hQ73
    subst l73 y73 z73
    obtain ⟨rfl, N73q, eh73⟩ := hQ73
    have N73 := Fr.app N72 N73q
    refine own_via st73 ?_
    refine own_go (A := T73.setTop (mkF m 183 #[.val (.int p1), .val (.int p2), .val (.int p3), .val (.int p4), .val (.int p5), .val (.int (2 : Int32)), .val (.ref b_51), .val (.ref b_53), .val (.ref b_55), .val (.ref b56), .val (.ref b61), .val (.ref vo_70), .unset] [(.ref vo_70)])) (fun t_ k_ => ?_) ?_
    · show Steps p.tables e below (T73.setTop (mkF m 176 #[.val (.int p1), .val (.int p2), .val (.int p3), .val (.int p4), .val (.int p5), .val (.int (2 : Int32)), .val (.ref b_51), .val (.ref b_53), .val (.ref b_55), .val (.ref b56), .val (.ref b61), .val (.ref vo_70), .unset] [(.int (0 : Int32))])) t_
      refine XS.ifYes X73.here hx rfl (pc0 := 176) (pc' := 181) rfl (hb hby at_176) rfl ((if0 _ _).trans (teq (by decide : (0 : Int32) = (0 : Int32))).1) (by decide) (by decide) ?_
      show Steps p.tables e below (T73.setTop (mkF m 181 #[.val (.int p1), .val (.int p2), .val (.int p3), .val (.int p4), .val (.int p5), .val (.int (2 : Int32)), .val (.ref b_51), .val (.ref b_53), .val (.ref b_55), .val (.ref b56), .val (.ref b61), .val (.ref vo_70), .unset] [])) t_
      refine XS.aload X73.here hx rfl (hb hby at_181) rfl rfl ?_
      exact k_
    obtain ⟨cq74, kq74, q74a, q74b, q74c⟩ := isOf hZ eh73 (r70_1.wr W72)
    obtain ⟨_, _, ⟨T74, L74, k74, n74⟩, -, X74, ⟨Lc74, hQ74, l74, y74, z74⟩, st74⟩ := X73.virtualBack hx (y := own_y22) (z := own_y22) hown (mvT hZ (own_w hw 51 rfl)) (mvT hZ (own_w hw 52 rfl)) (notFace_of_selects (args := #[]) (mvT hZ (own_w hw 54 rfl))) (mvT hZ (own_w hw 54 rfl)) (mvT hZ (own_w hw 53 rfl)) (by decide) (backOf (W := 0) (rmRea l Z a0 hw [] vo_70 li_70 h72 n0 (Nat.le_trans Z0 K72.1) (r70_3.other W72 (Or.inl (Ne.symm (Nat.ne_of_lt (Nat.lt_of_lt_of_le (Nat.lt_of_lt_of_le (Nat.lt_of_lt_of_le (Nat.lt_of_lt_of_le (Nat.lt_of_lt_of_le (Nat.lt_of_lt_of_le (Nat.lt_of_lt_of_le (Nat.lt_of_lt_of_le (Nat.lt_of_lt_of_le B56.lt (Keep.of_wr W58).1) (Keep.of_wr W60).1) E61.1) E62.1) (Keep.of_wr W64).1) (Keep.of_wr W66).1) (Keep.of_wr W68).1) Kc69.1) r70_0)))))) hZ (own_w hw 55 rfl) (own_w hw 40 rfl) (by decide) (by decide)) q74a q74c (g := (mkF m 183 #[.val (.int p1), .val (.int p2), .val (.int p3), .val (.int p4), .val (.int p5), .val (.int (2 : Int32)), .val (.ref b_51), .val (.ref b_53), .val (.ref b_55), .val (.ref b56), .val (.ref b61), .val (.ref vo_70), .unset] [(.ref vo_70)])) rfl (by rw [hml]; rfl) (Steps.refl _) (argsL := []) (rest := []) (lenOf pd_19 rfl) rfl (by show 2 * 0 + _ ≤ _; exact Nat.le_of_eq rfl) (hb hby at_183) (fun _ _ => ⟨rfl, eh73, (by decide : 24 + 0 ≤ _), (by decide : 52 + 0 ≤ _)⟩)
    dsimp only [Pt.U, Pt.locs, Pt.cells, Pt.slots] at X74 l74 y74 z74 st74 hQ74
    subst l74 y74 z74
    obtain ⟨rfl, N74q, eh74⟩ := hQ74
    have N74 := Fr.app N73 N74q
    refine own_via st74 ?_
    refine own_go (A := T74.setTop (mkF m 195 #[.val (.int p1), .val (.int p2), .val (.int p3), .val (.int p4), .val (.int p5), .val (.int (2 : Int32)), .val (.ref b_51), .val (.ref b_53), .val (.ref b_55), .val (.ref b56), .val (.ref b61), .val (.ref vo_70), .val (.ref li_70)] [(.ref li_70)])) (fun t_ k_ => ?_) ?_
    · show Steps p.tables e below (T74.setTop (mkF m 186 #[.val (.int p1), .val (.int p2), .val (.int p3), .val (.int p4), .val (.int p5), .val (.int (2 : Int32)), .val (.ref b_51), .val (.ref b_53), .val (.ref b_55), .val (.ref b56), .val (.ref b61), .val (.ref vo_70), .unset] [(.ref li_70)])) t_
      refine XS.astore X74.here hx rfl (hb hby at_186) rfl rfl (l' := #[.val (.int p1), .val (.int p2), .val (.int p3), .val (.int p4), .val (.int p5), .val (.int (2 : Int32)), .val (.ref b_51), .val (.ref b_53), .val (.ref b_55), .val (.ref b56), .val (.ref b61), .val (.ref vo_70), .val (.ref li_70)]) rfl ?_
      show Steps p.tables e below (T74.setTop (mkF m 188 #[.val (.int p1), .val (.int p2), .val (.int p3), .val (.int p4), .val (.int p5), .val (.int (2 : Int32)), .val (.ref b_51), .val (.ref b_53), .val (.ref b_55), .val (.ref b56), .val (.ref b61), .val (.ref vo_70), .val (.ref li_70)] [])) t_
      refine XS.aload X74.here hx rfl (hb hby at_188) rfl rfl ?_
      show Steps p.tables e below (T74.setTop (mkF m 190 #[.val (.int p1), .val (.int p2), .val (.int p3), .val (.int p4), .val (.int p5), .val (.int (2 : Int32)), .val (.ref b_51), .val (.ref b_53), .val (.ref b_55), .val (.ref b56), .val (.ref b61), .val (.ref vo_70), .val (.ref li_70)] [(.ref li_70)])) t_
      refine XS.ifnullNo X74.here hx rfl (hb hby at_190) rfl ?_
      show Steps p.tables e below (T74.setTop (mkF m 193 #[.val (.int p1), .val (.int p2), .val (.int p3), .val (.int p4), .val (.int p5), .val (.int (2 : Int32)), .val (.ref b_51), .val (.ref b_53), .val (.ref b_55), .val (.ref b56), .val (.ref b61), .val (.ref vo_70), .val (.ref li_70)] [])) t_
      refine XS.aload X74.here hx rfl (hb hby at_193) rfl rfl ?_
      exact k_
    obtain ⟨cq75, kq75, q75a, q75b, q75c⟩ := isOf hZ eh74 (r70_5.wr W72)
    obtain ⟨_, _, ⟨T75, L75, k75, n75⟩, -, X75, ⟨Lc75, hQ75, l75, y75, z75⟩, st75⟩ := X74.interfaceBack hx (xi := own_y28) (y := own_y25) hown (mvT hZ (own_w hw 58 rfl)) (mvT hZ (own_w hw 59 rfl)) (mvT hZ (own_w hw 60 rfl)) (mvT hZ (own_w hw 161 rfl)) (mvT hZ (own_w hw 162 rfl)) (mvT hZ (own_w hw 163 rfl)) (mvT hZ (own_w hw 164 rfl)) (mvT hZ (own_w hw 165 rfl)) (by decide) (backOf (W := 0) (rm2s2 l Z a0 hw [] li_70 b_53 em h72 n0 (Nat.le_trans Z0 K72.1) O72 u3 (r70_7.other W72 (Or.inl (Ne.symm (Nat.ne_of_lt (Nat.lt_of_lt_of_le (Nat.lt_of_lt_of_le (Nat.lt_of_lt_of_le (Nat.lt_of_lt_of_le (Nat.lt_of_lt_of_le (Nat.lt_of_lt_of_le (Nat.lt_of_lt_of_le (Nat.lt_of_lt_of_le (Nat.lt_of_lt_of_le B56.lt (Keep.of_wr W58).1) (Keep.of_wr W60).1) E61.1) E62.1) (Keep.of_wr W64).1) (Keep.of_wr W66).1) (Keep.of_wr W68).1) Kc69.1) r70_4))))) (Ne.symm (O72.ne u4.lt (Nat.le_trans Z0 (Nat.le_trans K51.1 r53_0))))) hZ (own_w hw 166 rfl) (own_w hw 147 rfl) (by decide) (by decide)) q75a q75b q75c (g := (mkF m 195 #[.val (.int p1), .val (.int p2), .val (.int p3), .val (.int p4), .val (.int p5), .val (.int (2 : Int32)), .val (.ref b_51), .val (.ref b_53), .val (.ref b_55), .val (.ref b56), .val (.ref b61), .val (.ref vo_70), .val (.ref li_70)] [(.ref li_70)])) rfl (by rw [hml]; rfl) (Steps.refl _) (argsL := []) (rest := []) (lenOf pd_20 rfl) rfl (by show 2 * 0 + _ ≤ _; exact Nat.le_of_eq rfl) (hb hby at_195) (fun _ _ => ⟨rfl, eh74, (by decide : 24 + 0 ≤ _), (by decide : 52 + 0 ≤ _)⟩)
    dsimp only [Pt.U, Pt.locs, Pt.cells, Pt.slots] at X75 l75 y75 z75 st75 hQ75
    subst l75 y75 z75
    obtain ⟨rfl, N75q, eh75⟩ := hQ75
    have N75 := Fr.app N74 N75q
    refine own_via st75 ?_
    refine own_go (A := T75.setTop (mkF m 218 #[.val (.int p1), .val (.int p2), .val (.int p3), .val (.int p4), .val (.int p5), .val (.int (2 : Int32)), .val (.ref b_51), .val (.ref b_53), .val (.ref b_55), .val (.ref b56), .val (.ref b61), .val (.ref vo_70), .val (.ref li_70)] [(.int (0 : Int32)), (.ref li_70), (.ref b_51)])) (fun t_ k_ => ?_) ?_
    · show Steps p.tables e below (T75.setTop (mkF m 200 #[.val (.int p1), .val (.int p2), .val (.int p3), .val (.int p4), .val (.int p5), .val (.int (2 : Int32)), .val (.ref b_51), .val (.ref b_53), .val (.ref b_55), .val (.ref b56), .val (.ref b61), .val (.ref vo_70), .val (.ref li_70)] [(.int (2 : Int32))])) t_
      refine XS.iload X75.here hx rfl (hb hby at_200) rfl ?_
      show Steps p.tables e below (T75.setTop (mkF m 202 #[.val (.int p1), .val (.int p2), .val (.int p3), .val (.int p4), .val (.int p5), .val (.int (2 : Int32)), .val (.ref b_51), .val (.ref b_53), .val (.ref b_55), .val (.ref b56), .val (.ref b61), .val (.ref vo_70), .val (.ref li_70)] [(.int (2 : Int32)), (.int (2 : Int32))])) t_
      refine XS.icmpYes X75.here hx rfl (pc0 := 202) (pc' := 207) rfl (hb hby at_202) rfl (teq (by decide : (2 : Int32) = (2 : Int32))).1 (by decide) (by decide) ?_
      show Steps p.tables e below (T75.setTop (mkF m 207 #[.val (.int p1), .val (.int p2), .val (.int p3), .val (.int p4), .val (.int p5), .val (.int (2 : Int32)), .val (.ref b_51), .val (.ref b_53), .val (.ref b_55), .val (.ref b56), .val (.ref b61), .val (.ref vo_70), .val (.ref li_70)] [])) t_
      refine XS.iload X75.here hx rfl (hb hby at_207) rfl ?_
      show Steps p.tables e below (T75.setTop (mkF m 209 #[.val (.int p1), .val (.int p2), .val (.int p3), .val (.int p4), .val (.int p5), .val (.int (2 : Int32)), .val (.ref b_51), .val (.ref b_53), .val (.ref b_55), .val (.ref b56), .val (.ref b61), .val (.ref vo_70), .val (.ref li_70)] [(.int (2 : Int32))])) t_
      refine XS.iconst X75.here hx rfl (hb hby at_209) ?_
      show Steps p.tables e below (T75.setTop (mkF m 210 #[.val (.int p1), .val (.int p2), .val (.int p3), .val (.int p4), .val (.int p5), .val (.int (2 : Int32)), .val (.ref b_51), .val (.ref b_53), .val (.ref b_55), .val (.ref b56), .val (.ref b61), .val (.ref vo_70), .val (.ref li_70)] [(.int (1 : Int32)), (.int (2 : Int32))])) t_
      refine XS.icmpNo X75.here hx rfl (hb hby at_210) rfl (flt (by decide : ¬ ((2 : Int32) < (1 : Int32)))).1 ?_
      show Steps p.tables e below (T75.setTop (mkF m 213 #[.val (.int p1), .val (.int p2), .val (.int p3), .val (.int p4), .val (.int p5), .val (.int (2 : Int32)), .val (.ref b_51), .val (.ref b_53), .val (.ref b_55), .val (.ref b56), .val (.ref b61), .val (.ref vo_70), .val (.ref li_70)] [])) t_
      refine XS.aload X75.here hx rfl (hb hby at_213) rfl rfl ?_
      show Steps p.tables e below (T75.setTop (mkF m 215 #[.val (.int p1), .val (.int p2), .val (.int p3), .val (.int p4), .val (.int p5), .val (.int (2 : Int32)), .val (.ref b_51), .val (.ref b_53), .val (.ref b_55), .val (.ref b56), .val (.ref b61), .val (.ref vo_70), .val (.ref li_70)] [(.ref b_51)])) t_
      refine XS.aload X75.here hx rfl (hb hby at_215) rfl rfl ?_
      show Steps p.tables e below (T75.setTop (mkF m 217 #[.val (.int p1), .val (.int p2), .val (.int p3), .val (.int p4), .val (.int p5), .val (.int (2 : Int32)), .val (.ref b_51), .val (.ref b_53), .val (.ref b_55), .val (.ref b56), .val (.ref b61), .val (.ref vo_70), .val (.ref li_70)] [(.ref li_70), (.ref b_51)])) t_
      refine XS.iconst X75.here hx rfl (hb hby at_217) ?_
      exact k_
    obtain ⟨cq76, kq76, q76a, q76b, q76c⟩ := isOf hZ eh75 (r70_5.wr W72)
    obtain ⟨_, _, ⟨T76, L76, k76, n76⟩, -, X76, ⟨Lc76, hQ76, l76, y76, z76⟩, st76⟩ := X75.interfaceBack hx (xi := own_y29) (y := own_y26) hown (mvT hZ (own_w hw 132 rfl)) (mvT hZ (own_w hw 133 rfl)) (mvT hZ (own_w hw 134 rfl)) (mvT hZ (own_w hw 168 rfl)) (mvT hZ (own_w hw 169 rfl)) (mvT hZ (own_w hw 170 rfl)) (mvT hZ (own_w hw 171 rfl)) (mvT hZ (own_w hw 165 rfl)) (by decide) (backOf (W := 1) (rm2g0 l Z a0 hw [] li_70 b_51 h72 n0 (Nat.le_trans Z0 K72.1) (r70_6.other W72 (Or.inl (Ne.symm (Nat.ne_of_lt (Nat.lt_of_lt_of_le (Nat.lt_of_lt_of_le (Nat.lt_of_lt_of_le (Nat.lt_of_lt_of_le (Nat.lt_of_lt_of_le (Nat.lt_of_lt_of_le (Nat.lt_of_lt_of_le (Nat.lt_of_lt_of_le (Nat.lt_of_lt_of_le B56.lt (Keep.of_wr W58).1) (Keep.of_wr W60).1) E61.1) E62.1) (Keep.of_wr W64).1) (Keep.of_wr W66).1) (Keep.of_wr W68).1) Kc69.1) r70_4)))))) hZ (own_w hw 172 rfl) (own_w hw 147 rfl) (by decide) (by decide)) q76a q76b q76c (g := (mkF m 218 #[.val (.int p1), .val (.int p2), .val (.int p3), .val (.int p4), .val (.int p5), .val (.int (2 : Int32)), .val (.ref b_51), .val (.ref b_53), .val (.ref b_55), .val (.ref b56), .val (.ref b61), .val (.ref vo_70), .val (.ref li_70)] [(.int (0 : Int32)), (.ref li_70), (.ref b_51)])) rfl (by rw [hml]; rfl) (Steps.refl _) (argsL := [(.int (0 : Int32))]) (rest := [(.ref b_51)]) (lenOf pd_21 rfl) rfl (by show 2 * 0 + _ ≤ _; exact Nat.le_of_eq rfl) (hb hby at_218) (fun _ _ => ⟨rfl, eh75, (by decide : 24 + 0 ≤ _), (by decide : 52 + 0 ≤ _)⟩)
    dsimp only [Pt.U, Pt.locs, Pt.cells, Pt.slots] at X76 l76 y76 z76 st76 hQ76
    subst l76 y76 z76
    obtain ⟨rfl, N76q, eh76⟩ := hQ76
    have N76 := Fr.app N75 N76q
    refine own_via st76 ?_
    obtain ⟨cq77, kq77, q77a, q77b, q77c⟩ := isOf hZ eh76 (((((((((((((r51_1.keep Kc53).keep Kc55).ext E56).wr W58).wr W60).ext E61).ext E62).wr W64).wr W66).wr W68).keep Kc69).keep Kc70).wr W72)
    obtain ⟨_, _, ⟨T77, L77, k77, n77⟩, -, X77, ⟨Lc77, hQ77, l77, y77, z77⟩, st77⟩ := X76.virtualBack hx (y := own_y27) (z := own_y27) hown (mvT hZ (own_w hw 140 rfl)) (mvT hZ (own_w hw 141 rfl)) (notFace_of_selects (args := #[]) (mvT hZ (own_w hw 143 rfl))) (mvT hZ (own_w hw 143 rfl)) (mvT hZ (own_w hw 142 rfl)) (by decide) (backOf (W := 0) (rmEq l Z a0 hw [] b_51 h72 n0 (Nat.le_trans Z0 K72.1)) hZ (own_w hw 144 rfl) (own_w hw 6 rfl) (by decide) (by decide)) q77a q77c (g := (mkF m 223 #[.val (.int p1), .val (.int p2), .val (.int p3), .val (.int p4), .val (.int p5), .val (.int (2 : Int32)), .val (.ref b_51), .val (.ref b_53), .val (.ref b_55), .val (.ref b56), .val (.ref b61), .val (.ref vo_70), .val (.ref li_70)] [(.ref b_51), (.ref b_51)])) rfl (by rw [hml]; rfl) (Steps.refl _) (argsL := [(.ref b_51)]) (rest := []) (lenOf pd_22 rfl) rfl (by show 2 * 0 + _ ≤ _; exact Nat.le_of_eq rfl) (hb hby at_223) (fun _ _ => ⟨rfl, eh76, (by decide : 24 + 0 ≤ _), (by decide : 52 + 0 ≤ _)⟩)
    dsimp only [Pt.U, Pt.locs, Pt.cells, Pt.slots] at X77 l77 y77 z77 st77 hQ77
    subst l77 y77 z77
    obtain ⟨rfl, N77q, eh77⟩ := hQ77
    have N77 := Fr.app N76 N77q
    refine own_via st77 ?_
    refine own_go (A := T77.setTop (mkF m 242 #[.val (.int p1), .val (.int p2), .val (.int p3), .val (.int p4), .val (.int p5), .val (.int (2 : Int32)), .val (.ref b_51), .val (.ref b_53), .val (.ref b_55), .val (.ref b56), .val (.ref b61), .val (.ref vo_70), .val (.ref li_70)] [(.int (1 : Int32)), (.ref li_70), (.ref b_53)])) (fun t_ k_ => ?_) ?_
    · show Steps p.tables e below (T77.setTop (mkF m 226 #[.val (.int p1), .val (.int p2), .val (.int p3), .val (.int p4), .val (.int p5), .val (.int (2 : Int32)), .val (.ref b_51), .val (.ref b_53), .val (.ref b_55), .val (.ref b56), .val (.ref b61), .val (.ref vo_70), .val (.ref li_70)] [(.int (1 : Int32))])) t_
      refine XS.ifYes X77.here hx rfl (pc0 := 226) (pc' := 231) rfl (hb hby at_226) rfl ((if0 _ _).trans (feq (by decide : ¬ ((1 : Int32) = (0 : Int32)))).2) (by decide) (by decide) ?_
      show Steps p.tables e below (T77.setTop (mkF m 231 #[.val (.int p1), .val (.int p2), .val (.int p3), .val (.int p4), .val (.int p5), .val (.int (2 : Int32)), .val (.ref b_51), .val (.ref b_53), .val (.ref b_55), .val (.ref b56), .val (.ref b61), .val (.ref vo_70), .val (.ref li_70)] [])) t_
      refine XS.iload X77.here hx rfl (hb hby at_231) rfl ?_
      show Steps p.tables e below (T77.setTop (mkF m 233 #[.val (.int p1), .val (.int p2), .val (.int p3), .val (.int p4), .val (.int p5), .val (.int (2 : Int32)), .val (.ref b_51), .val (.ref b_53), .val (.ref b_55), .val (.ref b56), .val (.ref b61), .val (.ref vo_70), .val (.ref li_70)] [(.int (2 : Int32))])) t_
      refine XS.iconst X77.here hx rfl (hb hby at_233) ?_
      show Steps p.tables e below (T77.setTop (mkF m 234 #[.val (.int p1), .val (.int p2), .val (.int p3), .val (.int p4), .val (.int p5), .val (.int (2 : Int32)), .val (.ref b_51), .val (.ref b_53), .val (.ref b_55), .val (.ref b56), .val (.ref b61), .val (.ref vo_70), .val (.ref li_70)] [(.int (2 : Int32)), (.int (2 : Int32))])) t_
      refine XS.icmpNo X77.here hx rfl (hb hby at_234) rfl (flt (by decide : ¬ ((2 : Int32) < (2 : Int32)))).1 ?_
      show Steps p.tables e below (T77.setTop (mkF m 237 #[.val (.int p1), .val (.int p2), .val (.int p3), .val (.int p4), .val (.int p5), .val (.int (2 : Int32)), .val (.ref b_51), .val (.ref b_53), .val (.ref b_55), .val (.ref b56), .val (.ref b61), .val (.ref vo_70), .val (.ref li_70)] [])) t_
      refine XS.aload X77.here hx rfl (hb hby at_237) rfl rfl ?_
      show Steps p.tables e below (T77.setTop (mkF m 239 #[.val (.int p1), .val (.int p2), .val (.int p3), .val (.int p4), .val (.int p5), .val (.int (2 : Int32)), .val (.ref b_51), .val (.ref b_53), .val (.ref b_55), .val (.ref b56), .val (.ref b61), .val (.ref vo_70), .val (.ref li_70)] [(.ref b_53)])) t_
      refine XS.aload X77.here hx rfl (hb hby at_239) rfl rfl ?_
      show Steps p.tables e below (T77.setTop (mkF m 241 #[.val (.int p1), .val (.int p2), .val (.int p3), .val (.int p4), .val (.int p5), .val (.int (2 : Int32)), .val (.ref b_51), .val (.ref b_53), .val (.ref b_55), .val (.ref b56), .val (.ref b61), .val (.ref vo_70), .val (.ref li_70)] [(.ref li_70), (.ref b_53)])) t_
      refine XS.iconst X77.here hx rfl (hb hby at_241) ?_
      exact k_
    obtain ⟨cq78, kq78, q78a, q78b, q78c⟩ := isOf hZ eh77 (r70_5.wr W72)
    obtain ⟨_, _, ⟨T78, L78, k78, n78⟩, -, X78, ⟨Lc78, hQ78, l78, y78, z78⟩, st78⟩ := X77.interfaceBack hx (xi := own_y29) (y := own_y26) hown (mvT hZ (own_w hw 132 rfl)) (mvT hZ (own_w hw 133 rfl)) (mvT hZ (own_w hw 134 rfl)) (mvT hZ (own_w hw 168 rfl)) (mvT hZ (own_w hw 169 rfl)) (mvT hZ (own_w hw 170 rfl)) (mvT hZ (own_w hw 171 rfl)) (mvT hZ (own_w hw 165 rfl)) (by decide) (backOf (W := 1) (rm2g1 l Z a0 hw [] li_70 b_53 em h72 n0 (Nat.le_trans Z0 K72.1) O72 u3 (r70_7.other W72 (Or.inl (Ne.symm (Nat.ne_of_lt (Nat.lt_of_lt_of_le (Nat.lt_of_lt_of_le (Nat.lt_of_lt_of_le (Nat.lt_of_lt_of_le (Nat.lt_of_lt_of_le (Nat.lt_of_lt_of_le (Nat.lt_of_lt_of_le (Nat.lt_of_lt_of_le (Nat.lt_of_lt_of_le B56.lt (Keep.of_wr W58).1) (Keep.of_wr W60).1) E61.1) E62.1) (Keep.of_wr W64).1) (Keep.of_wr W66).1) (Keep.of_wr W68).1) Kc69.1) r70_4))))) (Ne.symm (O72.ne u4.lt (Nat.le_trans Z0 (Nat.le_trans K51.1 r53_0))))) hZ (own_w hw 172 rfl) (own_w hw 147 rfl) (by decide) (by decide)) q78a q78b q78c (g := (mkF m 242 #[.val (.int p1), .val (.int p2), .val (.int p3), .val (.int p4), .val (.int p5), .val (.int (2 : Int32)), .val (.ref b_51), .val (.ref b_53), .val (.ref b_55), .val (.ref b56), .val (.ref b61), .val (.ref vo_70), .val (.ref li_70)] [(.int (1 : Int32)), (.ref li_70), (.ref b_53)])) rfl (by rw [hml]; rfl) (Steps.refl _) (argsL := [(.int (1 : Int32))]) (rest := [(.ref b_53)]) (lenOf pd_21 rfl) rfl (by show 2 * 0 + _ ≤ _; exact Nat.le_of_eq rfl) (hb hby at_242) (fun _ _ => ⟨rfl, eh77, (by decide : 24 + 0 ≤ _), (by decide : 52 + 0 ≤ _)⟩)
    dsimp only [Pt.U, Pt.locs, Pt.cells, Pt.slots] at X78 l78 y78 z78 st78 hQ78
    subst l78 y78 z78
    obtain ⟨rfl, N78q, eh78⟩ := hQ78
    have N78 := Fr.app N77 N78q
    refine own_via st78 ?_
    obtain ⟨cq79, kq79, q79a, q79b, q79c⟩ := isOf hZ eh78 ((((((((((((r53_1.keep Kc55).ext E56).wr W58).wr W60).ext E61).ext E62).wr W64).wr W66).wr W68).keep Kc69).keep Kc70).wr W72)
    obtain ⟨_, _, ⟨T79, L79, k79, n79⟩, -, X79, ⟨Lc79, hQ79, l79, y79, z79⟩, st79⟩ := X78.virtualBack hx (y := own_y27) (z := own_y27) hown (mvT hZ (own_w hw 140 rfl)) (mvT hZ (own_w hw 141 rfl)) (notFace_of_selects (args := #[]) (mvT hZ (own_w hw 143 rfl))) (mvT hZ (own_w hw 143 rfl)) (mvT hZ (own_w hw 142 rfl)) (by decide) (backOf (W := 0) (rmEq l Z a0 hw [] b_53 h72 n0 (Nat.le_trans Z0 K72.1)) hZ (own_w hw 144 rfl) (own_w hw 6 rfl) (by decide) (by decide)) q79a q79c (g := (mkF m 247 #[.val (.int p1), .val (.int p2), .val (.int p3), .val (.int p4), .val (.int p5), .val (.int (2 : Int32)), .val (.ref b_51), .val (.ref b_53), .val (.ref b_55), .val (.ref b56), .val (.ref b61), .val (.ref vo_70), .val (.ref li_70)] [(.ref b_53), (.ref b_53)])) rfl (by rw [hml]; rfl) (Steps.refl _) (argsL := [(.ref b_53)]) (rest := []) (lenOf pd_22 rfl) rfl (by show 2 * 0 + _ ≤ _; exact Nat.le_of_eq rfl) (hb hby at_247) (fun _ _ => ⟨rfl, eh78, (by decide : 24 + 0 ≤ _), (by decide : 52 + 0 ≤ _)⟩)
    dsimp only [Pt.U, Pt.locs, Pt.cells, Pt.slots] at X79 l79 y79 z79 st79 hQ79
    subst l79 y79 z79
    obtain ⟨rfl, N79q, eh79⟩ := hQ79
    have N79 := Fr.app N78 N79q
    refine own_via st79 ?_
    refine own_go (A := T79.setTop (mkF m 280 #[.val (.int p1), .val (.int p2), .val (.int p3), .val (.int p4), .val (.int p5), .val (.int (2 : Int32)), .val (.ref b_51), .val (.ref b_53), .val (.ref b_55), .val (.ref b56), .val (.ref b61), .val (.ref vo_70), .val (.ref li_70)] [(.int (1 : Int32))])) (fun t_ k_ => ?_) ?_
    · show Steps p.tables e below (T79.setTop (mkF m 250 #[.val (.int p1), .val (.int p2), .val (.int p3), .val (.int p4), .val (.int p5), .val (.int (2 : Int32)), .val (.ref b_51), .val (.ref b_53), .val (.ref b_55), .val (.ref b56), .val (.ref b61), .val (.ref vo_70), .val (.ref li_70)] [(.int (1 : Int32))])) t_
      refine XS.ifYes X79.here hx rfl (pc0 := 250) (pc' := 255) rfl (hb hby at_250) rfl ((if0 _ _).trans (feq (by decide : ¬ ((1 : Int32) = (0 : Int32)))).2) (by decide) (by decide) ?_
      show Steps p.tables e below (T79.setTop (mkF m 255 #[.val (.int p1), .val (.int p2), .val (.int p3), .val (.int p4), .val (.int p5), .val (.int (2 : Int32)), .val (.ref b_51), .val (.ref b_53), .val (.ref b_55), .val (.ref b56), .val (.ref b61), .val (.ref vo_70), .val (.ref li_70)] [])) t_
      refine XS.iload X79.here hx rfl (hb hby at_255) rfl ?_
      show Steps p.tables e below (T79.setTop (mkF m 257 #[.val (.int p1), .val (.int p2), .val (.int p3), .val (.int p4), .val (.int p5), .val (.int (2 : Int32)), .val (.ref b_51), .val (.ref b_53), .val (.ref b_55), .val (.ref b56), .val (.ref b61), .val (.ref vo_70), .val (.ref li_70)] [(.int (2 : Int32))])) t_
      refine XS.iconst X79.here hx rfl (hb hby at_257) ?_
      show Steps p.tables e below (T79.setTop (mkF m 258 #[.val (.int p1), .val (.int p2), .val (.int p3), .val (.int p4), .val (.int p5), .val (.int (2 : Int32)), .val (.ref b_51), .val (.ref b_53), .val (.ref b_55), .val (.ref b56), .val (.ref b61), .val (.ref vo_70), .val (.ref li_70)] [(.int (3 : Int32)), (.int (2 : Int32))])) t_
      refine XS.icmpYes X79.here hx rfl (pc0 := 258) (pc' := 279) rfl (hb hby at_258) rfl (tlt (by decide : (2 : Int32) < (3 : Int32))).1 (by decide) (by decide) ?_
      show Steps p.tables e below (T79.setTop (mkF m 279 #[.val (.int p1), .val (.int p2), .val (.int p3), .val (.int p4), .val (.int p5), .val (.int (2 : Int32)), .val (.ref b_51), .val (.ref b_53), .val (.ref b_55), .val (.ref b56), .val (.ref b61), .val (.ref vo_70), .val (.ref li_70)] [])) t_
      refine XS.iconst X79.here hx rfl (hb hby at_279) ?_
      exact k_
    obtain ⟨fs80, hr80, hrun80, hended80, hRW80⟩ := X79.leaveW hS (by rw [eh79]; exact hk) (v := some (.int (1 : Int32))) (fun h => by rw [Bd.returns] at h; cases h)
    refine ⟨_, _, ?_, hrun80, hended80, _, _, rfl, ?_, ?_, hRW80.1, hRW80.2.1, hRW80.2.2.1, hRW80.2.2.2.mono (by decide) (by decide)⟩
    · exact retN X79 hx (t := .boolean) Bd.returns (by simp) (hb hby at_280) hr80
    · show Q_rm0 Z p1 p2 p3 p4 p5 cs em dn li0 es0 ka h0 n0 _ T79.heap _
      rw [eh79]
      exact ⟨rfl, N79, K72⟩
    · show CHr Z own_EL s.vm s.heap T79.vm T79.heap
      rw [hh, eh79]
      exact R72.trans (CHv.at X79 hZ hEL R72.1)
  · rw [hm1]
    refine own_go (A := s₁.setTop (mkF m 12 #[.val (.int p1), .val (.int p2), .val (.int p3), .val (.int p4), .val (.int p5), .val (.int (3 : Int32)), .unset, .unset, .unset, .unset, .unset, .unset, .unset] [(.int ((p5 &&& (3 : Int32)) % (3 : Int32))), (.int p2)])) (fun t_ k_ => ?_) ?_
    · show Steps p.tables e below (s₁.setTop (mkF m 3 #[.val (.int p1), .val (.int p2), .val (.int p3), .val (.int p4), .val (.int p5), .unset, .unset, .unset, .unset, .unset, .unset, .unset, .unset] [(.int (3 : Int32))])) t_
      refine XS.istore X0.here hx rfl (hb hby at_3) rfl (l' := #[.val (.int p1), .val (.int p2), .val (.int p3), .val (.int p4), .val (.int p5), .val (.int (3 : Int32)), .unset, .unset, .unset, .unset, .unset, .unset, .unset]) rfl ?_
      show Steps p.tables e below (s₁.setTop (mkF m 5 #[.val (.int p1), .val (.int p2), .val (.int p3), .val (.int p4), .val (.int p5), .val (.int (3 : Int32)), .unset, .unset, .unset, .unset, .unset, .unset, .unset] [])) t_
      refine XS.iloadN X0.here hx rfl (hb hby at_5) rfl ?_
      show Steps p.tables e below (s₁.setTop (mkF m 6 #[.val (.int p1), .val (.int p2), .val (.int p3), .val (.int p4), .val (.int p5), .val (.int (3 : Int32)), .unset, .unset, .unset, .unset, .unset, .unset, .unset] [(.int p2)])) t_
      refine XS.iload X0.here hx rfl (hb hby at_6) rfl ?_
      show Steps p.tables e below (s₁.setTop (mkF m 8 #[.val (.int p1), .val (.int p2), .val (.int p3), .val (.int p4), .val (.int p5), .val (.int (3 : Int32)), .unset, .unset, .unset, .unset, .unset, .unset, .unset] [(.int p5), (.int p2)])) t_
      refine XS.iconst X0.here hx rfl (hb hby at_8) ?_
      show Steps p.tables e below (s₁.setTop (mkF m 9 #[.val (.int p1), .val (.int p2), .val (.int p3), .val (.int p4), .val (.int p5), .val (.int (3 : Int32)), .unset, .unset, .unset, .unset, .unset, .unset, .unset] [(.int (3 : Int32)), (.int p5), (.int p2)])) t_
      refine XS.iand X0.here hx rfl (hb hby at_9) rfl ?_
      show Steps p.tables e below (s₁.setTop (mkF m 10 #[.val (.int p1), .val (.int p2), .val (.int p3), .val (.int p4), .val (.int p5), .val (.int (3 : Int32)), .unset, .unset, .unset, .unset, .unset, .unset, .unset] [(.int (p5 &&& (3 : Int32))), (.int p2)])) t_
      refine XS.iconst X0.here hx rfl (hb hby at_10) ?_
      show Steps p.tables e below (s₁.setTop (mkF m 11 #[.val (.int p1), .val (.int p2), .val (.int p3), .val (.int p4), .val (.int p5), .val (.int (3 : Int32)), .unset, .unset, .unset, .unset, .unset, .unset, .unset] [(.int (3 : Int32)), (.int (p5 &&& (3 : Int32))), (.int p2)])) t_
      refine iremM (g := (mkF m 11 #[.val (.int p1), .val (.int p2), .val (.int p3), .val (.int p4), .val (.int p5), .val (.int (3 : Int32)), .unset, .unset, .unset, .unset, .unset, .unset, .unset] [(.int (3 : Int32)), (.int (p5 &&& (3 : Int32))), (.int p2)])) X0 hx rfl (hb hby at_11) rfl (by decide : ¬ ((3 : Int32) = (0 : Int32))) ?_
      exact k_
    obtain ⟨y81, hqy81⟩ : ∃ z : Int32, z = ((p5 &&& (3 : Int32)) % (3 : Int32)) := ⟨_, rfl⟩
    rw [← hqy81]
    obtain ⟨_, _, ⟨T82, L82, k82, n82⟩, -, X82, hs82, gs82, ⟨Lc82, hQ82, l82, y82, z82, r82⟩, st82⟩ := callSS X0 hx (y := own_y9) hown (mvT hZ (own_w hw 0 rfl)) (mvT hZ (own_w hw 1 rfl)) (mvT hZ (own_w hw 2 rfl)) (mvT hZ (own_w hw 3 rfl)) (by decide) (backOfSH (W := 0) (rmMk l Z a0 hw [] p2 y81 cs h0 n0 Z0 O0 u1 hcs) hZ (own_w hw 3 rfl) (own_w hw 2 rfl) (by decide) (by decide) hEL R0.1) (g := (mkF m 12 #[.val (.int p1), .val (.int p2), .val (.int p3), .val (.int p4), .val (.int p5), .val (.int (3 : Int32)), .unset, .unset, .unset, .unset, .unset, .unset, .unset] [(.int y81), (.int p2)])) rfl (by rw [hml]; rfl) (argsL := [(.int p2), (.int y81)]) (rest := []) (lenOf pd_16 rfl) rfl (by show 2 * 0 + _ ≤ _; exact Nat.le_of_eq rfl) (hb hby at_12) (fun _ _ => ⟨rfl, e0, (by decide : 0 + 6 ≤ _), (by decide : 0 + 12 ≤ _)⟩)
    dsimp only [Pt.U, Pt.locs, Pt.cells, Pt.slots] at X82 l82 y82 z82 st82 hQ82 hs82 gs82 r82
    subst l82 y82 z82
    obtain ⟨X82, hS, hZ, hown⟩ := rebS hS (by rw [e0]; exact hk) X82 hs82 gs82 hZ hown
    obtain ⟨b_82, rfl, N82q, Kc82, r82_0, r82_1⟩ := hQ82
    have N82 := Fr.app N0 N82q
    refine own_via st82 ?_
    have hk := Nat.le_refl T82.heap.size
    have K82 : Keep h0 T82.heap [] := (Keep.refl h0 []).trans Kc82 all0
    have R82 := R0.trans r82
    have O82 := O0.keep Kc82 all0
    refine own_go (A := T82.setTop (mkF m 26 #[.val (.int p1), .val (.int p2), .val (.int p3), .val (.int p4), .val (.int p5), .val (.int (3 : Int32)), .val (.ref b_82), .unset, .unset, .unset, .unset, .unset, .unset] [(.int ((((p5).toUInt32 >>> ((2 : Int32) &&& 31).toUInt32).toInt32 &&& (3 : Int32)) % (3 : Int32))), (.int p3)])) (fun t_ k_ => ?_) ?_
    · show Steps p.tables e below (T82.setTop (mkF m 15 #[.val (.int p1), .val (.int p2), .val (.int p3), .val (.int p4), .val (.int p5), .val (.int (3 : Int32)), .unset, .unset, .unset, .unset, .unset, .unset, .unset] [(.ref b_82)])) t_
      refine XS.astore X82.here hx rfl (hb hby at_15) rfl rfl (l' := #[.val (.int p1), .val (.int p2), .val (.int p3), .val (.int p4), .val (.int p5), .val (.int (3 : Int32)), .val (.ref b_82), .unset, .unset, .unset, .unset, .unset, .unset]) rfl ?_
      show Steps p.tables e below (T82.setTop (mkF m 17 #[.val (.int p1), .val (.int p2), .val (.int p3), .val (.int p4), .val (.int p5), .val (.int (3 : Int32)), .val (.ref b_82), .unset, .unset, .unset, .unset, .unset, .unset] [])) t_
      refine XS.iloadN X82.here hx rfl (hb hby at_17) rfl ?_
      show Steps p.tables e below (T82.setTop (mkF m 18 #[.val (.int p1), .val (.int p2), .val (.int p3), .val (.int p4), .val (.int p5), .val (.int (3 : Int32)), .val (.ref b_82), .unset, .unset, .unset, .unset, .unset, .unset] [(.int p3)])) t_
      refine XS.iload X82.here hx rfl (hb hby at_18) rfl ?_
      show Steps p.tables e below (T82.setTop (mkF m 20 #[.val (.int p1), .val (.int p2), .val (.int p3), .val (.int p4), .val (.int p5), .val (.int (3 : Int32)), .val (.ref b_82), .unset, .unset, .unset, .unset, .unset, .unset] [(.int p5), (.int p3)])) t_
      refine XS.iconst X82.here hx rfl (hb hby at_20) ?_
      show Steps p.tables e below (T82.setTop (mkF m 21 #[.val (.int p1), .val (.int p2), .val (.int p3), .val (.int p4), .val (.int p5), .val (.int (3 : Int32)), .val (.ref b_82), .unset, .unset, .unset, .unset, .unset, .unset] [(.int (2 : Int32)), (.int p5), (.int p3)])) t_
      refine XS.iushr X82.here hx rfl (hb hby at_21) rfl ?_
      show Steps p.tables e below (T82.setTop (mkF m 22 #[.val (.int p1), .val (.int p2), .val (.int p3), .val (.int p4), .val (.int p5), .val (.int (3 : Int32)), .val (.ref b_82), .unset, .unset, .unset, .unset, .unset, .unset] [(.int ((p5).toUInt32 >>> ((2 : Int32) &&& 31).toUInt32).toInt32), (.int p3)])) t_
      refine XS.iconst X82.here hx rfl (hb hby at_22) ?_
      show Steps p.tables e below (T82.setTop (mkF m 23 #[.val (.int p1), .val (.int p2), .val (.int p3), .val (.int p4), .val (.int p5), .val (.int (3 : Int32)), .val (.ref b_82), .unset, .unset, .unset, .unset, .unset, .unset] [(.int (3 : Int32)), (.int ((p5).toUInt32 >>> ((2 : Int32) &&& 31).toUInt32).toInt32), (.int p3)])) t_
      refine XS.iand X82.here hx rfl (hb hby at_23) rfl ?_
      show Steps p.tables e below (T82.setTop (mkF m 24 #[.val (.int p1), .val (.int p2), .val (.int p3), .val (.int p4), .val (.int p5), .val (.int (3 : Int32)), .val (.ref b_82), .unset, .unset, .unset, .unset, .unset, .unset] [(.int (((p5).toUInt32 >>> ((2 : Int32) &&& 31).toUInt32).toInt32 &&& (3 : Int32))), (.int p3)])) t_
      refine XS.iconst X82.here hx rfl (hb hby at_24) ?_
      show Steps p.tables e below (T82.setTop (mkF m 25 #[.val (.int p1), .val (.int p2), .val (.int p3), .val (.int p4), .val (.int p5), .val (.int (3 : Int32)), .val (.ref b_82), .unset, .unset, .unset, .unset, .unset, .unset] [(.int (3 : Int32)), (.int (((p5).toUInt32 >>> ((2 : Int32) &&& 31).toUInt32).toInt32 &&& (3 : Int32))), (.int p3)])) t_
      refine iremM (g := (mkF m 25 #[.val (.int p1), .val (.int p2), .val (.int p3), .val (.int p4), .val (.int p5), .val (.int (3 : Int32)), .val (.ref b_82), .unset, .unset, .unset, .unset, .unset, .unset] [(.int (3 : Int32)), (.int (((p5).toUInt32 >>> ((2 : Int32) &&& 31).toUInt32).toInt32 &&& (3 : Int32))), (.int p3)])) X82 hx rfl (hb hby at_25) rfl (by decide : ¬ ((3 : Int32) = (0 : Int32))) ?_
      exact k_
    obtain ⟨y83, hqy83⟩ : ∃ z : Int32, z = ((((p5).toUInt32 >>> ((2 : Int32) &&& 31).toUInt32).toInt32 &&& (3 : Int32)) % (3 : Int32)) := ⟨_, rfl⟩
    rw [← hqy83]
    obtain ⟨_, _, ⟨T84, L84, k84, n84⟩, -, X84, hs84, gs84, ⟨Lc84, hQ84, l84, y84, z84, r84⟩, st84⟩ := callSS X82 hx (y := own_y9) hown (mvT hZ (own_w hw 0 rfl)) (mvT hZ (own_w hw 1 rfl)) (mvT hZ (own_w hw 2 rfl)) (mvT hZ (own_w hw 3 rfl)) (by decide) (backOfSH (W := 0) (rmMk l Z a0 hw [] p3 y83 cs T82.heap n0 (Nat.le_trans Z0 K82.1) O82 u1 hcs) hZ (own_w hw 3 rfl) (own_w hw 2 rfl) (by decide) (by decide) hEL R82.1) (g := (mkF m 26 #[.val (.int p1), .val (.int p2), .val (.int p3), .val (.int p4), .val (.int p5), .val (.int (3 : Int32)), .val (.ref b_82), .unset, .unset, .unset, .unset, .unset, .unset] [(.int y83), (.int p3)])) rfl (by rw [hml]; rfl) (argsL := [(.int p3), (.int y83)]) (rest := []) (lenOf pd_16 rfl) rfl (by show 2 * 0 + _ ≤ _; exact Nat.le_of_eq rfl) (hb hby at_26) (fun _ _ => ⟨rfl, rfl, (by decide : 6 + 6 ≤ _), (by decide : 12 + 12 ≤ _)⟩)
    dsimp only [Pt.U, Pt.locs, Pt.cells, Pt.slots] at X84 l84 y84 z84 st84 hQ84 hs84 gs84 r84
    subst l84 y84 z84
    obtain ⟨X84, hS, hZ, hown⟩ := rebS hS hk X84 hs84 gs84 hZ hown
    obtain ⟨b_84, rfl, N84q, Kc84, r84_0, r84_1⟩ := hQ84
    have N84 := Fr.app N82 N84q
    refine own_via st84 ?_
    have hk := Nat.le_refl T84.heap.size
    have K84 : Keep h0 T84.heap [] := K82.trans Kc84 all0
    have R84 := R82.trans r84
    have O84 := O82.keep Kc84 all0
    refine own_go (A := T84.setTop (mkF m 40 #[.val (.int p1), .val (.int p2), .val (.int p3), .val (.int p4), .val (.int p5), .val (.int (3 : Int32)), .val (.ref b_82), .val (.ref b_84), .unset, .unset, .unset, .unset, .unset] [(.int ((((p5).toUInt32 >>> ((4 : Int32) &&& 31).toUInt32).toInt32 &&& (3 : Int32)) % (3 : Int32))), (.int p4)])) (fun t_ k_ => ?_) ?_
    · show Steps p.tables e below (T84.setTop (mkF m 29 #[.val (.int p1), .val (.int p2), .val (.int p3), .val (.int p4), .val (.int p5), .val (.int (3 : Int32)), .val (.ref b_82), .unset, .unset, .unset, .unset, .unset, .unset] [(.ref b_84)])) t_
      refine XS.astore X84.here hx rfl (hb hby at_29) rfl rfl (l' := #[.val (.int p1), .val (.int p2), .val (.int p3), .val (.int p4), .val (.int p5), .val (.int (3 : Int32)), .val (.ref b_82), .val (.ref b_84), .unset, .unset, .unset, .unset, .unset]) rfl ?_
      show Steps p.tables e below (T84.setTop (mkF m 31 #[.val (.int p1), .val (.int p2), .val (.int p3), .val (.int p4), .val (.int p5), .val (.int (3 : Int32)), .val (.ref b_82), .val (.ref b_84), .unset, .unset, .unset, .unset, .unset] [])) t_
      refine XS.iloadN X84.here hx rfl (hb hby at_31) rfl ?_
      show Steps p.tables e below (T84.setTop (mkF m 32 #[.val (.int p1), .val (.int p2), .val (.int p3), .val (.int p4), .val (.int p5), .val (.int (3 : Int32)), .val (.ref b_82), .val (.ref b_84), .unset, .unset, .unset, .unset, .unset] [(.int p4)])) t_
      refine XS.iload X84.here hx rfl (hb hby at_32) rfl ?_
      show Steps p.tables e below (T84.setTop (mkF m 34 #[.val (.int p1), .val (.int p2), .val (.int p3), .val (.int p4), .val (.int p5), .val (.int (3 : Int32)), .val (.ref b_82), .val (.ref b_84), .unset, .unset, .unset, .unset, .unset] [(.int p5), (.int p4)])) t_
      refine XS.iconst X84.here hx rfl (hb hby at_34) ?_
      show Steps p.tables e below (T84.setTop (mkF m 35 #[.val (.int p1), .val (.int p2), .val (.int p3), .val (.int p4), .val (.int p5), .val (.int (3 : Int32)), .val (.ref b_82), .val (.ref b_84), .unset, .unset, .unset, .unset, .unset] [(.int (4 : Int32)), (.int p5), (.int p4)])) t_
      refine XS.iushr X84.here hx rfl (hb hby at_35) rfl ?_
      show Steps p.tables e below (T84.setTop (mkF m 36 #[.val (.int p1), .val (.int p2), .val (.int p3), .val (.int p4), .val (.int p5), .val (.int (3 : Int32)), .val (.ref b_82), .val (.ref b_84), .unset, .unset, .unset, .unset, .unset] [(.int ((p5).toUInt32 >>> ((4 : Int32) &&& 31).toUInt32).toInt32), (.int p4)])) t_
      refine XS.iconst X84.here hx rfl (hb hby at_36) ?_
      show Steps p.tables e below (T84.setTop (mkF m 37 #[.val (.int p1), .val (.int p2), .val (.int p3), .val (.int p4), .val (.int p5), .val (.int (3 : Int32)), .val (.ref b_82), .val (.ref b_84), .unset, .unset, .unset, .unset, .unset] [(.int (3 : Int32)), (.int ((p5).toUInt32 >>> ((4 : Int32) &&& 31).toUInt32).toInt32), (.int p4)])) t_
      refine XS.iand X84.here hx rfl (hb hby at_37) rfl ?_
      show Steps p.tables e below (T84.setTop (mkF m 38 #[.val (.int p1), .val (.int p2), .val (.int p3), .val (.int p4), .val (.int p5), .val (.int (3 : Int32)), .val (.ref b_82), .val (.ref b_84), .unset, .unset, .unset, .unset, .unset] [(.int (((p5).toUInt32 >>> ((4 : Int32) &&& 31).toUInt32).toInt32 &&& (3 : Int32))), (.int p4)])) t_
      refine XS.iconst X84.here hx rfl (hb hby at_38) ?_
      show Steps p.tables e below (T84.setTop (mkF m 39 #[.val (.int p1), .val (.int p2), .val (.int p3), .val (.int p4), .val (.int p5), .val (.int (3 : Int32)), .val (.ref b_82), .val (.ref b_84), .unset, .unset, .unset, .unset, .unset] [(.int (3 : Int32)), (.int (((p5).toUInt32 >>> ((4 : Int32) &&& 31).toUInt32).toInt32 &&& (3 : Int32))), (.int p4)])) t_
      refine iremM (g := (mkF m 39 #[.val (.int p1), .val (.int p2), .val (.int p3), .val (.int p4), .val (.int p5), .val (.int (3 : Int32)), .val (.ref b_82), .val (.ref b_84), .unset, .unset, .unset, .unset, .unset] [(.int (3 : Int32)), (.int (((p5).toUInt32 >>> ((4 : Int32) &&& 31).toUInt32).toInt32 &&& (3 : Int32))), (.int p4)])) X84 hx rfl (hb hby at_39) rfl (by decide : ¬ ((3 : Int32) = (0 : Int32))) ?_
      exact k_
    obtain ⟨y85, hqy85⟩ : ∃ z : Int32, z = ((((p5).toUInt32 >>> ((4 : Int32) &&& 31).toUInt32).toInt32 &&& (3 : Int32)) % (3 : Int32)) := ⟨_, rfl⟩
    rw [← hqy85]
    obtain ⟨_, _, ⟨T86, L86, k86, n86⟩, -, X86, hs86, gs86, ⟨Lc86, hQ86, l86, y86, z86, r86⟩, st86⟩ := callSS X84 hx (y := own_y9) hown (mvT hZ (own_w hw 0 rfl)) (mvT hZ (own_w hw 1 rfl)) (mvT hZ (own_w hw 2 rfl)) (mvT hZ (own_w hw 3 rfl)) (by decide) (backOfSH (W := 0) (rmMk l Z a0 hw [] p4 y85 cs T84.heap n0 (Nat.le_trans Z0 K84.1) O84 u1 hcs) hZ (own_w hw 3 rfl) (own_w hw 2 rfl) (by decide) (by decide) hEL R84.1) (g := (mkF m 40 #[.val (.int p1), .val (.int p2), .val (.int p3), .val (.int p4), .val (.int p5), .val (.int (3 : Int32)), .val (.ref b_82), .val (.ref b_84), .unset, .unset, .unset, .unset, .unset] [(.int y85), (.int p4)])) rfl (by rw [hml]; rfl) (argsL := [(.int p4), (.int y85)]) (rest := []) (lenOf pd_16 rfl) rfl (by show 2 * 0 + _ ≤ _; exact Nat.le_of_eq rfl) (hb hby at_40) (fun _ _ => ⟨rfl, rfl, (by decide : 12 + 6 ≤ _), (by decide : 24 + 12 ≤ _)⟩)
    dsimp only [Pt.U, Pt.locs, Pt.cells, Pt.slots] at X86 l86 y86 z86 st86 hQ86 hs86 gs86 r86
    subst l86 y86 z86
    obtain ⟨X86, hS, hZ, hown⟩ := rebS hS hk X86 hs86 gs86 hZ hown
    obtain ⟨b_86, rfl, N86q, Kc86, r86_0, r86_1⟩ := hQ86
    have N86 := Fr.app N84 N86q
    refine own_via st86 ?_
    have hk := Nat.le_refl T86.heap.size
    have K86 : Keep h0 T86.heap [] := K84.trans Kc86 all0
    have R86 := R84.trans r86
    have O86 := O84.keep Kc86 all0
    refine own_go (A := T86.setTop (mkF m 105 #[.val (.int p1), .val (.int p2), .val (.int p3), .val (.int p4), .val (.int p5), .val (.int (3 : Int32)), .val (.ref b_82), .val (.ref b_84), .val (.ref b_86), .unset, .unset, .unset, .unset] [(.int (3 : Int32))])) (fun t_ k_ => ?_) ?_
    · show Steps p.tables e below (T86.setTop (mkF m 43 #[.val (.int p1), .val (.int p2), .val (.int p3), .val (.int p4), .val (.int p5), .val (.int (3 : Int32)), .val (.ref b_82), .val (.ref b_84), .unset, .unset, .unset, .unset, .unset] [(.ref b_86)])) t_
      refine XS.astore X86.here hx rfl (hb hby at_43) rfl rfl (l' := #[.val (.int p1), .val (.int p2), .val (.int p3), .val (.int p4), .val (.int p5), .val (.int (3 : Int32)), .val (.ref b_82), .val (.ref b_84), .val (.ref b_86), .unset, .unset, .unset, .unset]) rfl ?_
      show Steps p.tables e below (T86.setTop (mkF m 45 #[.val (.int p1), .val (.int p2), .val (.int p3), .val (.int p4), .val (.int p5), .val (.int (3 : Int32)), .val (.ref b_82), .val (.ref b_84), .val (.ref b_86), .unset, .unset, .unset, .unset] [])) t_
      refine XS.iload X86.here hx rfl (hb hby at_45) rfl ?_
      show Steps p.tables e below (T86.setTop (mkF m 47 #[.val (.int p1), .val (.int p2), .val (.int p3), .val (.int p4), .val (.int p5), .val (.int (3 : Int32)), .val (.ref b_82), .val (.ref b_84), .val (.ref b_86), .unset, .unset, .unset, .unset] [(.int (3 : Int32))])) t_
      refine XS.ifYes X86.here hx rfl (pc0 := 47) (pc' := 59) rfl (hb hby at_47) rfl ((if0 _ _).trans (feq (by decide : ¬ ((3 : Int32) = (0 : Int32)))).2) (by decide) (by decide) ?_
      show Steps p.tables e below (T86.setTop (mkF m 59 #[.val (.int p1), .val (.int p2), .val (.int p3), .val (.int p4), .val (.int p5), .val (.int (3 : Int32)), .val (.ref b_82), .val (.ref b_84), .val (.ref b_86), .unset, .unset, .unset, .unset] [])) t_
      refine XS.iload X86.here hx rfl (hb hby at_59) rfl ?_
      show Steps p.tables e below (T86.setTop (mkF m 61 #[.val (.int p1), .val (.int p2), .val (.int p3), .val (.int p4), .val (.int p5), .val (.int (3 : Int32)), .val (.ref b_82), .val (.ref b_84), .val (.ref b_86), .unset, .unset, .unset, .unset] [(.int (3 : Int32))])) t_
      refine XS.iconst X86.here hx rfl (hb hby at_61) ?_
      show Steps p.tables e below (T86.setTop (mkF m 62 #[.val (.int p1), .val (.int p2), .val (.int p3), .val (.int p4), .val (.int p5), .val (.int (3 : Int32)), .val (.ref b_82), .val (.ref b_84), .val (.ref b_86), .unset, .unset, .unset, .unset] [(.int (1 : Int32)), (.int (3 : Int32))])) t_
      refine XS.icmpYes X86.here hx rfl (pc0 := 62) (pc' := 79) rfl (hb hby at_62) rfl (feq (by decide : ¬ ((3 : Int32) = (1 : Int32)))).2 (by decide) (by decide) ?_
      show Steps p.tables e below (T86.setTop (mkF m 79 #[.val (.int p1), .val (.int p2), .val (.int p3), .val (.int p4), .val (.int p5), .val (.int (3 : Int32)), .val (.ref b_82), .val (.ref b_84), .val (.ref b_86), .unset, .unset, .unset, .unset] [])) t_
      refine XS.iload X86.here hx rfl (hb hby at_79) rfl ?_
      show Steps p.tables e below (T86.setTop (mkF m 81 #[.val (.int p1), .val (.int p2), .val (.int p3), .val (.int p4), .val (.int p5), .val (.int (3 : Int32)), .val (.ref b_82), .val (.ref b_84), .val (.ref b_86), .unset, .unset, .unset, .unset] [(.int (3 : Int32))])) t_
      refine XS.iconst X86.here hx rfl (hb hby at_81) ?_
      show Steps p.tables e below (T86.setTop (mkF m 82 #[.val (.int p1), .val (.int p2), .val (.int p3), .val (.int p4), .val (.int p5), .val (.int (3 : Int32)), .val (.ref b_82), .val (.ref b_84), .val (.ref b_86), .unset, .unset, .unset, .unset] [(.int (2 : Int32)), (.int (3 : Int32))])) t_
      refine XS.icmpYes X86.here hx rfl (pc0 := 82) (pc' := 104) rfl (hb hby at_82) rfl (feq (by decide : ¬ ((3 : Int32) = (2 : Int32)))).2 (by decide) (by decide) ?_
      show Steps p.tables e below (T86.setTop (mkF m 104 #[.val (.int p1), .val (.int p2), .val (.int p3), .val (.int p4), .val (.int p5), .val (.int (3 : Int32)), .val (.ref b_82), .val (.ref b_84), .val (.ref b_86), .unset, .unset, .unset, .unset] [])) t_
      refine XS.iconst X86.here hx rfl (hb hby at_104) ?_
      exact k_
    obtain ⟨T87, h87, k87, X87, e87, E87, A87, V87, st87⟩ := newR X86 hx hZ hown (own_w hw 4 rfl) (own_w hw 26 rfl) rfl (g := (mkF m 105 #[.val (.int p1), .val (.int p2), .val (.int p3), .val (.int p4), .val (.int p5), .val (.int (3 : Int32)), .val (.ref b_82), .val (.ref b_84), .val (.ref b_86), .unset, .unset, .unset, .unset] [(.int (3 : Int32))])) rfl (hb hby at_105) rfl (by decide) (cap := 3) (by decide) (by decide) (by decide) (by decide)
    obtain ⟨b87, g87⟩ : ∃ z, z = T86.heap.size := ⟨_, rfl⟩
    rw [← g87] at A87 st87
    refine own_go st87 ?_
    have K87 : Keep h0 h87 [] := K86.ext E87
    have r87 := CHr.ext E87 R86.1
    have R87 := R86.trans r87
    have hk := Nat.le_trans hk E87.1
    have O87 := O86.ext E87
    have Q87 := Safe.ext E87 R86.1 (Safe.new (Nat.le_of_eq g87.symm))
    have B87 : Arv Z h87 b87 k87 (.object "java/lang/String") (3 : Int32) [.null, .null, .null] .null := (Arv.new A87 (by decide)).pad (pad_rep [] .null 3)
    refine own_go (A := T87.setTop (mkF m 112 #[.val (.int p1), .val (.int p2), .val (.int p3), .val (.int p4), .val (.int p5), .val (.int (3 : Int32)), .val (.ref b_82), .val (.ref b_84), .val (.ref b_86), .unset, .unset, .unset, .unset] [(.ref b_82), (.int (0 : Int32)), (.ref b87), (.ref b87)])) (fun t_ k_ => ?_) ?_
    · show Steps p.tables e below (T87.setTop (mkF m 108 #[.val (.int p1), .val (.int p2), .val (.int p3), .val (.int p4), .val (.int p5), .val (.int (3 : Int32)), .val (.ref b_82), .val (.ref b_84), .val (.ref b_86), .unset, .unset, .unset, .unset] [(.ref b87)])) t_
      refine XS.dup X87.here hx rfl (hb hby at_108) rfl rfl ?_
      show Steps p.tables e below (T87.setTop (mkF m 109 #[.val (.int p1), .val (.int p2), .val (.int p3), .val (.int p4), .val (.int p5), .val (.int (3 : Int32)), .val (.ref b_82), .val (.ref b_84), .val (.ref b_86), .unset, .unset, .unset, .unset] [(.ref b87), (.ref b87)])) t_
      refine XS.iconst X87.here hx rfl (hb hby at_109) ?_
      show Steps p.tables e below (T87.setTop (mkF m 110 #[.val (.int p1), .val (.int p2), .val (.int p3), .val (.int p4), .val (.int p5), .val (.int (3 : Int32)), .val (.ref b_82), .val (.ref b_84), .val (.ref b_86), .unset, .unset, .unset, .unset] [(.int (0 : Int32)), (.ref b87), (.ref b87)])) t_
      refine XS.aload X87.here hx rfl (hb hby at_110) rfl rfl ?_
      exact k_
    obtain ⟨cl88, Ar88, q88, S88, M88, H88, G88⟩ := id B87
    have hin88 : ¬ ((0 : Int32) < 0 ∨ cl88.slots.size ≤ ((0 : Int32)).toNatClampNeg) := inb_of S88 ⟨by decide, by decide⟩
    obtain ⟨T89, h89, X89, e89, W89, st89⟩ := stR X87 hx hZ e87 Ar88 (j := (0 : Int32)) hin88 rfl (Sto.ofV Ar88 q88 V87 (Ins.self (((r82_1.keep Kc84).keep Kc86).ext E87))) (g := (mkF m 112 #[.val (.int p1), .val (.int p2), .val (.int p3), .val (.int p4), .val (.int p5), .val (.int (3 : Int32)), .val (.ref b_82), .val (.ref b_84), .val (.ref b_86), .unset, .unset, .unset, .unset] [(.ref b_82), (.int (0 : Int32)), (.ref b87), (.ref b87)])) rfl rfl (hb hby at_112)
    have B89 : Arv Z h89 b87 k87 (.object "java/lang/String") (3 : Int32) [(.ref b_82), .null, .null] .null := Arv.set Ar88 q88 S88 M88 H88 G88 rfl W89 0 rfl (Nat.le_of_ble_eq_true rfl)
    refine own_go st89 ?_
    have K89 : Keep h0 h89 [] := K87.wr W89 (Or.inr (Nat.le_trans K86.1 (Nat.le_of_eq g87.symm)))
    have r89 := CHr.wr W89 Q87 R87.1
    have R89 := R87.trans r89
    have hk := Nat.le_trans hk (Keep.of_wr W89).1
    have O89 := O87.wr W89 (Nat.le_trans Z0 (Nat.le_trans K86.1 (Nat.le_of_eq g87.symm)))
    have N89 := Fr.snoc X89 N86 (Nat.le_trans Z0 (Nat.le_trans K86.1 (Nat.le_of_eq g87.symm)))
    refine own_go (A := T89.setTop (mkF m 117 #[.val (.int p1), .val (.int p2), .val (.int p3), .val (.int p4), .val (.int p5), .val (.int (3 : Int32)), .val (.ref b_82), .val (.ref b_84), .val (.ref b_86), .unset, .unset, .unset, .unset] [(.ref b_84), (.int (1 : Int32)), (.ref b87), (.ref b87)])) (fun t_ k_ => ?_) ?_
    · show Steps p.tables e below (T89.setTop (mkF m 113 #[.val (.int p1), .val (.int p2), .val (.int p3), .val (.int p4), .val (.int p5), .val (.int (3 : Int32)), .val (.ref b_82), .val (.ref b_84), .val (.ref b_86), .unset, .unset, .unset, .unset] [(.ref b87)])) t_
      refine XS.dup X89.here hx rfl (hb hby at_113) rfl rfl ?_
      show Steps p.tables e below (T89.setTop (mkF m 114 #[.val (.int p1), .val (.int p2), .val (.int p3), .val (.int p4), .val (.int p5), .val (.int (3 : Int32)), .val (.ref b_82), .val (.ref b_84), .val (.ref b_86), .unset, .unset, .unset, .unset] [(.ref b87), (.ref b87)])) t_
      refine XS.iconst X89.here hx rfl (hb hby at_114) ?_
      show Steps p.tables e below (T89.setTop (mkF m 115 #[.val (.int p1), .val (.int p2), .val (.int p3), .val (.int p4), .val (.int p5), .val (.int (3 : Int32)), .val (.ref b_82), .val (.ref b_84), .val (.ref b_86), .unset, .unset, .unset, .unset] [(.int (1 : Int32)), (.ref b87), (.ref b87)])) t_
      refine XS.aload X89.here hx rfl (hb hby at_115) rfl rfl ?_
      exact k_
    obtain ⟨cl90, Ar90, q90, S90, M90, H90, G90⟩ := id B89
    have hin90 : ¬ ((1 : Int32) < 0 ∨ cl90.slots.size ≤ ((1 : Int32)).toNatClampNeg) := inb_of S90 ⟨by decide, by decide⟩
    obtain ⟨T91, h91, X91, e91, W91, st91⟩ := stR X89 hx hZ e89 Ar90 (j := (1 : Int32)) hin90 rfl (Sto.ofV Ar90 q90 V87 (Ins.self (((r84_1.keep Kc86).ext E87).wr W89))) (g := (mkF m 117 #[.val (.int p1), .val (.int p2), .val (.int p3), .val (.int p4), .val (.int p5), .val (.int (3 : Int32)), .val (.ref b_82), .val (.ref b_84), .val (.ref b_86), .unset, .unset, .unset, .unset] [(.ref b_84), (.int (1 : Int32)), (.ref b87), (.ref b87)])) rfl rfl (hb hby at_117)
    have B91 : Arv Z h91 b87 k87 (.object "java/lang/String") (3 : Int32) [(.ref b_82), (.ref b_84), .null] .null := Arv.set Ar90 q90 S90 M90 H90 G90 rfl W91 1 rfl (Nat.le_of_ble_eq_true rfl)
    refine own_go st91 ?_
    have K91 : Keep h0 h91 [] := K89.wr W91 (Or.inr (Nat.le_trans K86.1 (Nat.le_of_eq g87.symm)))
    have r91 := CHr.wr W91 (r89.safe B87.lt Q87) R89.1
    have R91 := R89.trans r91
    have hk := Nat.le_trans hk (Keep.of_wr W91).1
    have O91 := O89.wr W91 (Nat.le_trans Z0 (Nat.le_trans K86.1 (Nat.le_of_eq g87.symm)))
    have N91 := Fr.snoc X91 N89 (Nat.le_trans Z0 (Nat.le_trans K86.1 (Nat.le_of_eq g87.symm)))
    refine own_go (A := T91.setTop (mkF m 122 #[.val (.int p1), .val (.int p2), .val (.int p3), .val (.int p4), .val (.int p5), .val (.int (3 : Int32)), .val (.ref b_82), .val (.ref b_84), .val (.ref b_86), .unset, .unset, .unset, .unset] [(.ref b_86), (.int (2 : Int32)), (.ref b87), (.ref b87)])) (fun t_ k_ => ?_) ?_
    · show Steps p.tables e below (T91.setTop (mkF m 118 #[.val (.int p1), .val (.int p2), .val (.int p3), .val (.int p4), .val (.int p5), .val (.int (3 : Int32)), .val (.ref b_82), .val (.ref b_84), .val (.ref b_86), .unset, .unset, .unset, .unset] [(.ref b87)])) t_
      refine XS.dup X91.here hx rfl (hb hby at_118) rfl rfl ?_
      show Steps p.tables e below (T91.setTop (mkF m 119 #[.val (.int p1), .val (.int p2), .val (.int p3), .val (.int p4), .val (.int p5), .val (.int (3 : Int32)), .val (.ref b_82), .val (.ref b_84), .val (.ref b_86), .unset, .unset, .unset, .unset] [(.ref b87), (.ref b87)])) t_
      refine XS.iconst X91.here hx rfl (hb hby at_119) ?_
      show Steps p.tables e below (T91.setTop (mkF m 120 #[.val (.int p1), .val (.int p2), .val (.int p3), .val (.int p4), .val (.int p5), .val (.int (3 : Int32)), .val (.ref b_82), .val (.ref b_84), .val (.ref b_86), .unset, .unset, .unset, .unset] [(.int (2 : Int32)), (.ref b87), (.ref b87)])) t_
      refine XS.aload X91.here hx rfl (hb hby at_120) rfl rfl ?_
      exact k_
    obtain ⟨cl92, Ar92, q92, S92, M92, H92, G92⟩ := id B91
    have hin92 : ¬ ((2 : Int32) < 0 ∨ cl92.slots.size ≤ ((2 : Int32)).toNatClampNeg) := inb_of S92 ⟨by decide, by decide⟩
    obtain ⟨T93, h93, X93, e93, W93, st93⟩ := stR X91 hx hZ e91 Ar92 (j := (2 : Int32)) hin92 rfl (Sto.ofV Ar92 q92 V87 (Ins.self (((r86_1.ext E87).wr W89).wr W91))) (g := (mkF m 122 #[.val (.int p1), .val (.int p2), .val (.int p3), .val (.int p4), .val (.int p5), .val (.int (3 : Int32)), .val (.ref b_82), .val (.ref b_84), .val (.ref b_86), .unset, .unset, .unset, .unset] [(.ref b_86), (.int (2 : Int32)), (.ref b87), (.ref b87)])) rfl rfl (hb hby at_122)
    have B93 : Arv Z h93 b87 k87 (.object "java/lang/String") (3 : Int32) [(.ref b_82), (.ref b_84), (.ref b_86)] .null := Arv.set Ar92 q92 S92 M92 H92 G92 rfl W93 2 rfl (Nat.le_of_ble_eq_true rfl)
    refine own_go st93 ?_
    have K93 : Keep h0 h93 [] := K91.wr W93 (Or.inr (Nat.le_trans K86.1 (Nat.le_of_eq g87.symm)))
    have r93 := CHr.wr W93 (r91.safe (Nat.lt_of_lt_of_le B87.lt (Keep.of_wr W89).1) (r89.safe B87.lt Q87)) R91.1
    have R93 := R91.trans r93
    have hk := Nat.le_trans hk (Keep.of_wr W93).1
    have O93 := O91.wr W93 (Nat.le_trans Z0 (Nat.le_trans K86.1 (Nat.le_of_eq g87.symm)))
    have N93 := Fr.snoc X93 N91 (Nat.le_trans Z0 (Nat.le_trans K86.1 (Nat.le_of_eq g87.symm)))
    refine own_go (A := T93.setTop (mkF m 125 #[.val (.int p1), .val (.int p2), .val (.int p3), .val (.int p4), .val (.int p5), .val (.int (3 : Int32)), .val (.ref b_82), .val (.ref b_84), .val (.ref b_86), .val (.ref b87), .unset, .unset, .unset] [])) (fun t_ k_ => ?_) ?_
    · show Steps p.tables e below (T93.setTop (mkF m 123 #[.val (.int p1), .val (.int p2), .val (.int p3), .val (.int p4), .val (.int p5), .val (.int (3 : Int32)), .val (.ref b_82), .val (.ref b_84), .val (.ref b_86), .unset, .unset, .unset, .unset] [(.ref b87)])) t_
      refine XS.astore X93.here hx rfl (hb hby at_123) rfl rfl (l' := #[.val (.int p1), .val (.int p2), .val (.int p3), .val (.int p4), .val (.int p5), .val (.int (3 : Int32)), .val (.ref b_82), .val (.ref b_84), .val (.ref b_86), .val (.ref b87), .unset, .unset, .unset]) rfl ?_
      exact k_
    obtain ⟨T94, h94, X94, e94, E94, A94, D94, -, st94⟩ := newO X93 hx hZ hown (own_w hw 4 rfl) (own_w hw 5 rfl) (own_w hw 6 rfl) e93 (g := (mkF m 125 #[.val (.int p1), .val (.int p2), .val (.int p3), .val (.int p4), .val (.int p5), .val (.int (3 : Int32)), .val (.ref b_82), .val (.ref b_84), .val (.ref b_86), .val (.ref b87), .unset, .unset, .unset] [])) rfl (hb hby at_125) (by decide) (by decide)
    obtain ⟨b94, g94⟩ : ∃ z, z = h93.size := ⟨_, rfl⟩
    rw [← g94] at A94 D94 st94
    refine own_go st94 ?_
    have K94 : Keep h0 h94 [] := K93.ext E94
    have r94 := CHr.ext E94 R93.1
    have R94 := R93.trans r94
    have hk := Nat.le_trans hk E94.1
    have O94 := O93.ext E94
    have Q94 := Safe.ext E94 R93.1 (Safe.new (Nat.le_of_eq g94.symm))
    have F94_value : Fld Z h94 b94 "java/lang/String" "value" "[B" .null := D94 (Or.inr (own_w hw 20 rfl)) (ty := (.array .byte)) (by decide)
    have F94_coder : Fld Z h94 b94 "java/lang/String" "coder" "B" (.int (0 : Int32)) := D94 (Or.inr (own_w hw 21 rfl)) (ty := .byte) (by decide)
    refine own_go (A := T94.setTop (mkF m 130 #[.val (.int p1), .val (.int p2), .val (.int p3), .val (.int p4), .val (.int p5), .val (.int (3 : Int32)), .val (.ref b_82), .val (.ref b_84), .val (.ref b_86), .val (.ref b87), .unset, .unset, .unset] [(.int (3 : Int32)), (.ref b94), (.ref b94)])) (fun t_ k_ => ?_) ?_
    · show Steps p.tables e below (T94.setTop (mkF m 128 #[.val (.int p1), .val (.int p2), .val (.int p3), .val (.int p4), .val (.int p5), .val (.int (3 : Int32)), .val (.ref b_82), .val (.ref b_84), .val (.ref b_86), .val (.ref b87), .unset, .unset, .unset] [(.ref b94)])) t_
      refine XS.dup X94.here hx rfl (hb hby at_128) rfl rfl ?_
      show Steps p.tables e below (T94.setTop (mkF m 129 #[.val (.int p1), .val (.int p2), .val (.int p3), .val (.int p4), .val (.int p5), .val (.int (3 : Int32)), .val (.ref b_82), .val (.ref b_84), .val (.ref b_86), .val (.ref b87), .unset, .unset, .unset] [(.ref b94), (.ref b94)])) t_
      refine XS.iconst X94.here hx rfl (hb hby at_129) ?_
      exact k_
    obtain ⟨T95, h95, k95, X95, e95, E95, A95, st95⟩ := newP X94 hx hZ (own_w hw 7 rfl) e94 (g := (mkF m 130 #[.val (.int p1), .val (.int p2), .val (.int p3), .val (.int p4), .val (.int p5), .val (.int (3 : Int32)), .val (.ref b_82), .val (.ref b_84), .val (.ref b_86), .val (.ref b87), .unset, .unset, .unset] [(.int (3 : Int32)), (.ref b94), (.ref b94)])) rfl (hb hby at_130) rfl (by decide) (cap := 3) (by decide) (by decide) (by decide) (by decide)
    obtain ⟨b95, g95⟩ : ∃ z, z = h94.size := ⟨_, rfl⟩
    rw [← g95] at A95 st95
    refine own_go st95 ?_
    have K95 : Keep h0 h95 [] := K94.ext E95
    have r95 := CHr.ext E95 R94.1
    have R95 := R94.trans r95
    have hk := Nat.le_trans hk E95.1
    have O95 := O94.ext E95
    have Q95 := Safe.ext E95 R94.1 (Safe.new (Nat.le_of_eq g95.symm))
    have B95 : Arv Z h95 b95 k95 .char (3 : Int32) [(.int (0 : Int32)), (.int (0 : Int32)), (.int (0 : Int32))] (.int (0 : Int32)) := (Arv.new A95 (by decide)).pad (pad_rep [] (.int (0 : Int32)) 3)
    refine own_go (A := T95.setTop (mkF m 136 #[.val (.int p1), .val (.int p2), .val (.int p3), .val (.int p4), .val (.int p5), .val (.int (3 : Int32)), .val (.ref b_82), .val (.ref b_84), .val (.ref b_86), .val (.ref b87), .unset, .unset, .unset] [(.int (120 : Int32)), (.int (0 : Int32)), (.ref b95), (.ref b95), (.ref b94), (.ref b94)])) (fun t_ k_ => ?_) ?_
    · show Steps p.tables e below (T95.setTop (mkF m 132 #[.val (.int p1), .val (.int p2), .val (.int p3), .val (.int p4), .val (.int p5), .val (.int (3 : Int32)), .val (.ref b_82), .val (.ref b_84), .val (.ref b_86), .val (.ref b87), .unset, .unset, .unset] [(.ref b95), (.ref b94), (.ref b94)])) t_
      refine XS.dup X95.here hx rfl (hb hby at_132) rfl rfl ?_
      show Steps p.tables e below (T95.setTop (mkF m 133 #[.val (.int p1), .val (.int p2), .val (.int p3), .val (.int p4), .val (.int p5), .val (.int (3 : Int32)), .val (.ref b_82), .val (.ref b_84), .val (.ref b_86), .val (.ref b87), .unset, .unset, .unset] [(.ref b95), (.ref b95), (.ref b94), (.ref b94)])) t_
      refine XS.iconst X95.here hx rfl (hb hby at_133) ?_
      show Steps p.tables e below (T95.setTop (mkF m 134 #[.val (.int p1), .val (.int p2), .val (.int p3), .val (.int p4), .val (.int p5), .val (.int (3 : Int32)), .val (.ref b_82), .val (.ref b_84), .val (.ref b_86), .val (.ref b87), .unset, .unset, .unset] [(.int (0 : Int32)), (.ref b95), (.ref b95), (.ref b94), (.ref b94)])) t_
      refine XS.bipush X95.here hx rfl (hb hby at_134) ?_
      exact k_
    obtain ⟨cl96, Ar96, q96, S96, M96, H96, G96⟩ := id B95
    have hin96 : ¬ ((0 : Int32) < 0 ∨ cl96.slots.size ≤ ((0 : Int32)).toNatClampNeg) := inb_of S96 ⟨by decide, by decide⟩
    obtain ⟨T97, h97, X97, e97, W97, st97⟩ := stC X95 hx hZ e95 Ar96 (j := (0 : Int32)) hin96 (g := (mkF m 136 #[.val (.int p1), .val (.int p2), .val (.int p3), .val (.int p4), .val (.int p5), .val (.int (3 : Int32)), .val (.ref b_82), .val (.ref b_84), .val (.ref b_86), .val (.ref b87), .unset, .unset, .unset] [(.int (120 : Int32)), (.int (0 : Int32)), (.ref b95), (.ref b95), (.ref b94), (.ref b94)])) rfl rfl (hb hby at_136)
    have B97 : Arv Z h97 b95 k95 .char (3 : Int32) [(.int (120 : Int32)), (.int (0 : Int32)), (.int (0 : Int32))] (.int (0 : Int32)) := Arv.set Ar96 q96 S96 M96 H96 G96 (fits_nar_char _) W97 0 rfl (Nat.le_of_ble_eq_true rfl)
    refine own_go st97 ?_
    have K97 : Keep h0 h97 [] := K95.wr W97 (Or.inr (Nat.le_trans K94.1 (Nat.le_of_eq g95.symm)))
    have r97 := CHr.wr W97 Q95 R95.1
    have R97 := R95.trans r97
    have hk := Nat.le_trans hk (Keep.of_wr W97).1
    have O97 := O95.wr W97 (Nat.le_trans Z0 (Nat.le_trans K94.1 (Nat.le_of_eq g95.symm)))
    have N97 := Fr.snoc X97 N93 (Nat.le_trans Z0 (Nat.le_trans K94.1 (Nat.le_of_eq g95.symm)))
    refine own_go (A := T97.setTop (mkF m 141 #[.val (.int p1), .val (.int p2), .val (.int p3), .val (.int p4), .val (.int p5), .val (.int (3 : Int32)), .val (.ref b_82), .val (.ref b_84), .val (.ref b_86), .val (.ref b87), .unset, .unset, .unset] [(.int (121 : Int32)), (.int (1 : Int32)), (.ref b95), (.ref b95), (.ref b94), (.ref b94)])) (fun t_ k_ => ?_) ?_
    · show Steps p.tables e below (T97.setTop (mkF m 137 #[.val (.int p1), .val (.int p2), .val (.int p3), .val (.int p4), .val (.int p5), .val (.int (3 : Int32)), .val (.ref b_82), .val (.ref b_84), .val (.ref b_86), .val (.ref b87), .unset, .unset, .unset] [(.ref b95), (.ref b94), (.ref b94)])) t_
      refine XS.dup X97.here hx rfl (hb hby at_137) rfl rfl ?_
      show Steps p.tables e below (T97.setTop (mkF m 138 #[.val (.int p1), .val (.int p2), .val (.int p3), .val (.int p4), .val (.int p5), .val (.int (3 : Int32)), .val (.ref b_82), .val (.ref b_84), .val (.ref b_86), .val (.ref b87), .unset, .unset, .unset] [(.ref b95), (.ref b95), (.ref b94), (.ref b94)])) t_
      refine XS.iconst X97.here hx rfl (hb hby at_138) ?_
      show Steps p.tables e below (T97.setTop (mkF m 139 #[.val (.int p1), .val (.int p2), .val (.int p3), .val (.int p4), .val (.int p5), .val (.int (3 : Int32)), .val (.ref b_82), .val (.ref b_84), .val (.ref b_86), .val (.ref b87), .unset, .unset, .unset] [(.int (1 : Int32)), (.ref b95), (.ref b95), (.ref b94), (.ref b94)])) t_
      refine XS.bipush X97.here hx rfl (hb hby at_139) ?_
      exact k_
    obtain ⟨cl98, Ar98, q98, S98, M98, H98, G98⟩ := id B97
    have hin98 : ¬ ((1 : Int32) < 0 ∨ cl98.slots.size ≤ ((1 : Int32)).toNatClampNeg) := inb_of S98 ⟨by decide, by decide⟩
    obtain ⟨T99, h99, X99, e99, W99, st99⟩ := stC X97 hx hZ e97 Ar98 (j := (1 : Int32)) hin98 (g := (mkF m 141 #[.val (.int p1), .val (.int p2), .val (.int p3), .val (.int p4), .val (.int p5), .val (.int (3 : Int32)), .val (.ref b_82), .val (.ref b_84), .val (.ref b_86), .val (.ref b87), .unset, .unset, .unset] [(.int (121 : Int32)), (.int (1 : Int32)), (.ref b95), (.ref b95), (.ref b94), (.ref b94)])) rfl rfl (hb hby at_141)
    have B99 : Arv Z h99 b95 k95 .char (3 : Int32) [(.int (120 : Int32)), (.int (121 : Int32)), (.int (0 : Int32))] (.int (0 : Int32)) := Arv.set Ar98 q98 S98 M98 H98 G98 (fits_nar_char _) W99 1 rfl (Nat.le_of_ble_eq_true rfl)
    refine own_go st99 ?_
    have K99 : Keep h0 h99 [] := K97.wr W99 (Or.inr (Nat.le_trans K94.1 (Nat.le_of_eq g95.symm)))
    have r99 := CHr.wr W99 (r97.safe B95.lt Q95) R97.1
    have R99 := R97.trans r99
    have hk := Nat.le_trans hk (Keep.of_wr W99).1
    have O99 := O97.wr W99 (Nat.le_trans Z0 (Nat.le_trans K94.1 (Nat.le_of_eq g95.symm)))
    have N99 := Fr.snoc X99 N97 (Nat.le_trans Z0 (Nat.le_trans K94.1 (Nat.le_of_eq g95.symm)))
    refine own_go (A := T99.setTop (mkF m 146 #[.val (.int p1), .val (.int p2), .val (.int p3), .val (.int p4), .val (.int p5), .val (.int (3 : Int32)), .val (.ref b_82), .val (.ref b_84), .val (.ref b_86), .val (.ref b87), .unset, .unset, .unset] [(.int (122 : Int32)), (.int (2 : Int32)), (.ref b95), (.ref b95), (.ref b94), (.ref b94)])) (fun t_ k_ => ?_) ?_
    · show Steps p.tables e below (T99.setTop (mkF m 142 #[.val (.int p1), .val (.int p2), .val (.int p3), .val (.int p4), .val (.int p5), .val (.int (3 : Int32)), .val (.ref b_82), .val (.ref b_84), .val (.ref b_86), .val (.ref b87), .unset, .unset, .unset] [(.ref b95), (.ref b94), (.ref b94)])) t_
      refine XS.dup X99.here hx rfl (hb hby at_142) rfl rfl ?_
      show Steps p.tables e below (T99.setTop (mkF m 143 #[.val (.int p1), .val (.int p2), .val (.int p3), .val (.int p4), .val (.int p5), .val (.int (3 : Int32)), .val (.ref b_82), .val (.ref b_84), .val (.ref b_86), .val (.ref b87), .unset, .unset, .unset] [(.ref b95), (.ref b95), (.ref b94), (.ref b94)])) t_
      refine XS.iconst X99.here hx rfl (hb hby at_143) ?_
      show Steps p.tables e below (T99.setTop (mkF m 144 #[.val (.int p1), .val (.int p2), .val (.int p3), .val (.int p4), .val (.int p5), .val (.int (3 : Int32)), .val (.ref b_82), .val (.ref b_84), .val (.ref b_86), .val (.ref b87), .unset, .unset, .unset] [(.int (2 : Int32)), (.ref b95), (.ref b95), (.ref b94), (.ref b94)])) t_
      refine XS.bipush X99.here hx rfl (hb hby at_144) ?_
      exact k_
    obtain ⟨cl100, Ar100, q100, S100, M100, H100, G100⟩ := id B99
    have hin100 : ¬ ((2 : Int32) < 0 ∨ cl100.slots.size ≤ ((2 : Int32)).toNatClampNeg) := inb_of S100 ⟨by decide, by decide⟩
    obtain ⟨T101, h101, X101, e101, W101, st101⟩ := stC X99 hx hZ e99 Ar100 (j := (2 : Int32)) hin100 (g := (mkF m 146 #[.val (.int p1), .val (.int p2), .val (.int p3), .val (.int p4), .val (.int p5), .val (.int (3 : Int32)), .val (.ref b_82), .val (.ref b_84), .val (.ref b_86), .val (.ref b87), .unset, .unset, .unset] [(.int (122 : Int32)), (.int (2 : Int32)), (.ref b95), (.ref b95), (.ref b94), (.ref b94)])) rfl rfl (hb hby at_146)
    have B101 : Arv Z h101 b95 k95 .char (3 : Int32) [(.int (120 : Int32)), (.int (121 : Int32)), (.int (122 : Int32))] (.int (0 : Int32)) := Arv.set Ar100 q100 S100 M100 H100 G100 (fits_nar_char _) W101 2 rfl (Nat.le_of_ble_eq_true rfl)
    refine own_go st101 ?_
    have K101 : Keep h0 h101 [] := K99.wr W101 (Or.inr (Nat.le_trans K94.1 (Nat.le_of_eq g95.symm)))
    have r101 := CHr.wr W101 (r99.safe (Nat.lt_of_lt_of_le B95.lt (Keep.of_wr W97).1) (r97.safe B95.lt Q95)) R99.1
    have R101 := R99.trans r101
    have hk := Nat.le_trans hk (Keep.of_wr W101).1
    have O101 := O99.wr W101 (Nat.le_trans Z0 (Nat.le_trans K94.1 (Nat.le_of_eq g95.symm)))
    have N101 := Fr.snoc X101 N99 (Nat.le_trans Z0 (Nat.le_trans K94.1 (Nat.le_of_eq g95.symm)))
    obtain ⟨_, _, ⟨T102, L102, k102, n102⟩, -, X102, ⟨Lc102, hQ102, l102, y102, z102⟩, st102⟩ := X101.specialBack hx (y := own_y8) rfl hown (mvT hZ (own_w hw 8 rfl)) (mvT hZ (own_w hw 9 rfl)) (mvT hZ (own_w hw 10 rfl)) (by decide) (backOf (W := 1) (rmSC3 l Z a0 hw [] b94 b95 cs k95 (120 : Int32) (121 : Int32) (122 : Int32) h101 n0 (Nat.le_trans Z0 K101.1) O101 u1 hcs ((((A94.ext E95).wr W97).wr W99).wr W101) ((((F94_value.ext E95).other W97 (Or.inl (Nat.ne_of_lt (Nat.lt_of_lt_of_le A94.lt (Nat.le_of_eq g95.symm))))).other W99 (Or.inl (Nat.ne_of_lt (Nat.lt_of_lt_of_le A94.lt (Nat.le_of_eq g95.symm))))).other W101 (Or.inl (Nat.ne_of_lt (Nat.lt_of_lt_of_le A94.lt (Nat.le_of_eq g95.symm))))) ((((F94_coder.ext E95).other W97 (Or.inl (Nat.ne_of_lt (Nat.lt_of_lt_of_le A94.lt (Nat.le_of_eq g95.symm))))).other W99 (Or.inl (Nat.ne_of_lt (Nat.lt_of_lt_of_le A94.lt (Nat.le_of_eq g95.symm))))).other W101 (Or.inl (Nat.ne_of_lt (Nat.lt_of_lt_of_le A94.lt (Nat.le_of_eq g95.symm))))) (Nat.le_trans Z0 (Nat.le_trans K93.1 (Nat.le_of_eq g94.symm))) B101 (by decide : ¬ ((255 : Int32) < (120 : Int32))) (by decide : ¬ ((255 : Int32) < (121 : Int32))) (by decide : ¬ ((255 : Int32) < (122 : Int32)))) hZ (own_w hw 10 rfl) (own_w hw 6 rfl) (by decide) (by decide)) (g := (mkF m 147 #[.val (.int p1), .val (.int p2), .val (.int p3), .val (.int p4), .val (.int p5), .val (.int (3 : Int32)), .val (.ref b_82), .val (.ref b_84), .val (.ref b_86), .val (.ref b87), .unset, .unset, .unset] [(.ref b95), (.ref b94), (.ref b94)])) rfl (by rw [hml]; rfl) (Steps.refl _) (a := b94) (argsL := [(.ref b95)]) (rest := [(.ref b94)]) (lenOf pd_7 rfl) rfl (by show 2 * 0 + _ ≤ _; exact Nat.le_of_eq rfl) (hb hby at_147) (fun _ _ => ⟨rfl, e101, (by decide : 21 + 1 ≤ _), (by decide : 46 + 3 ≤ _)⟩)
    dsimp only [Pt.U, Pt.locs, Pt.cells, Pt.slots] at X102 l102 y102 z102 st102 hQ102
    subst l102 y102 z102
    obtain ⟨d_102, k_102, rfl, N102q, Kc102, r102_0, r102_1, r102_2, r102_3⟩ := hQ102
    have N102 := Fr.app N101 N102q
    refine own_via st102 ?_
    have K102 : Keep h0 T102.heap [] := K101.trans Kc102 (allS (P := fun x => x ∈ _ ∨ _ ≤ x) (Or.inr (Nat.le_trans K93.1 (Nat.le_of_eq g94.symm))) all0)
    have r102 := CHr.keep Kc102 (allS (P := fun x => Safe Z own_EL _ _ x) (r101.safe (Nat.lt_of_lt_of_le (Nat.lt_of_lt_of_le (Nat.lt_of_lt_of_le A94.lt E95.1) (Keep.of_wr W97).1) (Keep.of_wr W99).1) (r99.safe (Nat.lt_of_lt_of_le (Nat.lt_of_lt_of_le A94.lt E95.1) (Keep.of_wr W97).1) (r97.safe (Nat.lt_of_lt_of_le A94.lt E95.1) (r95.safe A94.lt Q94)))) all0) R101.1
    have R102 := R101.trans r102
    have hk := Nat.le_trans hk Kc102.1
    have O102 := O101.keep Kc102 (allS (P := fun x => n0 ≤ x) (Nat.le_trans Z0 (Nat.le_trans K93.1 (Nat.le_of_eq g94.symm))) all0)
    refine own_go (A := T102.setTop (mkF m 154 #[.val (.int p1), .val (.int p2), .val (.int p3), .val (.int p4), .val (.int p5), .val (.int (3 : Int32)), .val (.ref b_82), .val (.ref b_84), .val (.ref b_86), .val (.ref b87), .val (.ref b94), .unset, .unset] [(.ref b87)])) (fun t_ k_ => ?_) ?_
    · show Steps p.tables e below (T102.setTop (mkF m 150 #[.val (.int p1), .val (.int p2), .val (.int p3), .val (.int p4), .val (.int p5), .val (.int (3 : Int32)), .val (.ref b_82), .val (.ref b_84), .val (.ref b_86), .val (.ref b87), .unset, .unset, .unset] [(.ref b94)])) t_
      refine XS.astore X102.here hx rfl (hb hby at_150) rfl rfl (l' := #[.val (.int p1), .val (.int p2), .val (.int p3), .val (.int p4), .val (.int p5), .val (.int (3 : Int32)), .val (.ref b_82), .val (.ref b_84), .val (.ref b_86), .val (.ref b87), .val (.ref b94), .unset, .unset]) rfl ?_
      show Steps p.tables e below (T102.setTop (mkF m 152 #[.val (.int p1), .val (.int p2), .val (.int p3), .val (.int p4), .val (.int p5), .val (.int (3 : Int32)), .val (.ref b_82), .val (.ref b_84), .val (.ref b_86), .val (.ref b87), .val (.ref b94), .unset, .unset] [])) t_
      refine XS.aload X102.here hx rfl (hb hby at_152) rfl rfl ?_
      exact k_
    obtain ⟨_, _, ⟨T103, L103, k103, n103⟩, -, X103, ⟨Lc103, hQ103, l103, y103, z103⟩, st103⟩ := Jvm.LawKit.callS X102 hx (y := own_y20) hown (mvT hZ (own_w hw 38 rfl)) (mvT hZ (own_w hw 39 rfl)) (mvT hZ (own_w hw 40 rfl)) (mvT hZ (own_w hw 41 rfl)) (by decide) (backOf (W := 0) (rmDeny3 l Z a0 hw [] b87 k87 b_82 b_84 b_86 T102.heap n0 (Nat.le_trans Z0 K102.1) ((((((B93.ext E94).ext E95).other W97 (Nat.ne_of_lt (Nat.lt_of_lt_of_le (Nat.lt_of_lt_of_le (Nat.lt_of_lt_of_le (Nat.lt_of_lt_of_le (Nat.lt_of_lt_of_le B87.lt (Keep.of_wr W89).1) (Keep.of_wr W91).1) (Keep.of_wr W93).1) E94.1) (Nat.le_of_eq g95.symm)))).other W99 (Nat.ne_of_lt (Nat.lt_of_lt_of_le (Nat.lt_of_lt_of_le (Nat.lt_of_lt_of_le (Nat.lt_of_lt_of_le (Nat.lt_of_lt_of_le B87.lt (Keep.of_wr W89).1) (Keep.of_wr W91).1) (Keep.of_wr W93).1) E94.1) (Nat.le_of_eq g95.symm)))).other W101 (Nat.ne_of_lt (Nat.lt_of_lt_of_le (Nat.lt_of_lt_of_le (Nat.lt_of_lt_of_le (Nat.lt_of_lt_of_le (Nat.lt_of_lt_of_le B87.lt (Keep.of_wr W89).1) (Keep.of_wr W91).1) (Keep.of_wr W93).1) E94.1) (Nat.le_of_eq g95.symm)))).keep Kc102 (ninS (Nat.ne_of_lt (Nat.lt_of_lt_of_le (Nat.lt_of_lt_of_le (Nat.lt_of_lt_of_le (Nat.lt_of_lt_of_le B87.lt (Keep.of_wr W89).1) (Keep.of_wr W91).1) (Keep.of_wr W93).1) (Nat.le_of_eq g94.symm))) nin0)) ((((((((((((r82_1.keep Kc84).keep Kc86).ext E87).wr W89).wr W91).wr W93).ext E94).ext E95).wr W97).wr W99).wr W101).keep Kc102) (((((((((((r84_1.keep Kc86).ext E87).wr W89).wr W91).wr W93).ext E94).ext E95).wr W97).wr W99).wr W101).keep Kc102) ((((((((((r86_1.ext E87).wr W89).wr W91).wr W93).ext E94).ext E95).wr W97).wr W99).wr W101).keep Kc102)) hZ (own_w hw 41 rfl) (own_w hw 40 rfl) (by decide) (by decide)) (g := (mkF m 154 #[.val (.int p1), .val (.int p2), .val (.int p3), .val (.int p4), .val (.int p5), .val (.int (3 : Int32)), .val (.ref b_82), .val (.ref b_84), .val (.ref b_86), .val (.ref b87), .val (.ref b94), .unset, .unset] [(.ref b87)])) rfl (by rw [hml]; rfl) (argsL := [(.ref b87)]) (rest := []) (lenOf pd_17 rfl) rfl (by show 2 * 0 + _ ≤ _; exact Nat.le_of_eq rfl) (hb hby at_154) (fun _ _ => ⟨rfl, rfl, (by decide : 22 + 3 ≤ _), (by decide : 49 + 7 ≤ _)⟩)
    dsimp only [Pt.U, Pt.locs, Pt.cells, Pt.slots] at X103 l103 y103 z103 st103 hQ103
    subst l103 y103 z103
    obtain ⟨vo_103, li_103, es_103, k_103, rfl, N103q, Kc103, r103_0, r103_1, r103_2, r103_3, r103_4, r103_5, r103_6, r103_7, r103_8⟩ := hQ103
    have N103 := Fr.app N102 N103q
    refine own_go st103 ?_
    have K103 : Keep h0 T103.heap [] := K102.trans Kc103 all0
    have r103 := CHr.keep Kc103 all0 R102.1
    have R103 := R102.trans r103
    have hk := Nat.le_trans hk Kc103.1
    have O103 := O102.keep Kc103 all0
    refine own_go (A := T103.setTop (mkF m 170 #[.val (.int p1), .val (.int p2), .val (.int p3), .val (.int p4), .val (.int p5), .val (.int (3 : Int32)), .val (.ref b_82), .val (.ref b_84), .val (.ref b_86), .val (.ref b87), .val (.ref b94), .val (.ref vo_103), .unset] [(.ref b94), (.int (0 : Int32)), (.ref b87)])) (fun t_ k_ => ?_) ?_
    · show Steps p.tables e below (T103.setTop (mkF m 157 #[.val (.int p1), .val (.int p2), .val (.int p3), .val (.int p4), .val (.int p5), .val (.int (3 : Int32)), .val (.ref b_82), .val (.ref b_84), .val (.ref b_86), .val (.ref b87), .val (.ref b94), .unset, .unset] [(.ref vo_103)])) t_
      refine XS.astore X103.here hx rfl (hb hby at_157) rfl rfl (l' := #[.val (.int p1), .val (.int p2), .val (.int p3), .val (.int p4), .val (.int p5), .val (.int (3 : Int32)), .val (.ref b_82), .val (.ref b_84), .val (.ref b_86), .val (.ref b87), .val (.ref b94), .val (.ref vo_103), .unset]) rfl ?_
      show Steps p.tables e below (T103.setTop (mkF m 159 #[.val (.int p1), .val (.int p2), .val (.int p3), .val (.int p4), .val (.int p5), .val (.int (3 : Int32)), .val (.ref b_82), .val (.ref b_84), .val (.ref b_86), .val (.ref b87), .val (.ref b94), .val (.ref vo_103), .unset] [])) t_
      refine XS.iload X103.here hx rfl (hb hby at_159) rfl ?_
      show Steps p.tables e below (T103.setTop (mkF m 161 #[.val (.int p1), .val (.int p2), .val (.int p3), .val (.int p4), .val (.int p5), .val (.int (3 : Int32)), .val (.ref b_82), .val (.ref b_84), .val (.ref b_86), .val (.ref b87), .val (.ref b94), .val (.ref vo_103), .unset] [(.int (3 : Int32))])) t_
      refine XS.iconst X103.here hx rfl (hb hby at_161) ?_
      show Steps p.tables e below (T103.setTop (mkF m 162 #[.val (.int p1), .val (.int p2), .val (.int p3), .val (.int p4), .val (.int p5), .val (.int (3 : Int32)), .val (.ref b_82), .val (.ref b_84), .val (.ref b_86), .val (.ref b87), .val (.ref b94), .val (.ref vo_103), .unset] [(.int (1 : Int32)), (.int (3 : Int32))])) t_
      refine XS.icmpNo X103.here hx rfl (hb hby at_162) rfl (flt (by decide : ¬ ((3 : Int32) < (1 : Int32)))).1 ?_
      show Steps p.tables e below (T103.setTop (mkF m 165 #[.val (.int p1), .val (.int p2), .val (.int p3), .val (.int p4), .val (.int p5), .val (.int (3 : Int32)), .val (.ref b_82), .val (.ref b_84), .val (.ref b_86), .val (.ref b87), .val (.ref b94), .val (.ref vo_103), .unset] [])) t_
      refine XS.aload X103.here hx rfl (hb hby at_165) rfl rfl ?_
      show Steps p.tables e below (T103.setTop (mkF m 167 #[.val (.int p1), .val (.int p2), .val (.int p3), .val (.int p4), .val (.int p5), .val (.int (3 : Int32)), .val (.ref b_82), .val (.ref b_84), .val (.ref b_86), .val (.ref b87), .val (.ref b94), .val (.ref vo_103), .unset] [(.ref b87)])) t_
      refine XS.iconst X103.here hx rfl (hb hby at_167) ?_
      show Steps p.tables e below (T103.setTop (mkF m 168 #[.val (.int p1), .val (.int p2), .val (.int p3), .val (.int p4), .val (.int p5), .val (.int (3 : Int32)), .val (.ref b_82), .val (.ref b_84), .val (.ref b_86), .val (.ref b87), .val (.ref b94), .val (.ref vo_103), .unset] [(.int (0 : Int32)), (.ref b87)])) t_
      refine XS.aload X103.here hx rfl (hb hby at_168) rfl rfl ?_
      exact k_
    obtain ⟨cl104, Ar104, q104, S104, M104, H104, G104⟩ := id (((((((B93.ext E94).ext E95).other W97 (Nat.ne_of_lt (Nat.lt_of_lt_of_le (Nat.lt_of_lt_of_le (Nat.lt_of_lt_of_le (Nat.lt_of_lt_of_le (Nat.lt_of_lt_of_le B87.lt (Keep.of_wr W89).1) (Keep.of_wr W91).1) (Keep.of_wr W93).1) E94.1) (Nat.le_of_eq g95.symm)))).other W99 (Nat.ne_of_lt (Nat.lt_of_lt_of_le (Nat.lt_of_lt_of_le (Nat.lt_of_lt_of_le (Nat.lt_of_lt_of_le (Nat.lt_of_lt_of_le B87.lt (Keep.of_wr W89).1) (Keep.of_wr W91).1) (Keep.of_wr W93).1) E94.1) (Nat.le_of_eq g95.symm)))).other W101 (Nat.ne_of_lt (Nat.lt_of_lt_of_le (Nat.lt_of_lt_of_le (Nat.lt_of_lt_of_le (Nat.lt_of_lt_of_le (Nat.lt_of_lt_of_le B87.lt (Keep.of_wr W89).1) (Keep.of_wr W91).1) (Keep.of_wr W93).1) E94.1) (Nat.le_of_eq g95.symm)))).keep Kc102 (ninS (Nat.ne_of_lt (Nat.lt_of_lt_of_le (Nat.lt_of_lt_of_le (Nat.lt_of_lt_of_le (Nat.lt_of_lt_of_le B87.lt (Keep.of_wr W89).1) (Keep.of_wr W91).1) (Keep.of_wr W93).1) (Nat.le_of_eq g94.symm))) nin0)).keep Kc103 nin0)
    have hin104 : ¬ ((0 : Int32) < 0 ∨ cl104.slots.size ≤ ((0 : Int32)).toNatClampNeg) := inb_of S104 ⟨by decide, by decide⟩
    obtain ⟨T105, h105, X105, e105, W105, st105⟩ := stR X103 hx hZ rfl Ar104 (j := (0 : Int32)) hin104 rfl (Sto.ofV Ar104 q104 V87 (Ins.self ((((((A94.ext E95).wr W97).wr W99).wr W101).keep Kc102).keep Kc103))) (g := (mkF m 170 #[.val (.int p1), .val (.int p2), .val (.int p3), .val (.int p4), .val (.int p5), .val (.int (3 : Int32)), .val (.ref b_82), .val (.ref b_84), .val (.ref b_86), .val (.ref b87), .val (.ref b94), .val (.ref vo_103), .unset] [(.ref b94), (.int (0 : Int32)), (.ref b87)])) rfl rfl (hb hby at_170)
    have B105 : Arv Z h105 b87 k87 (.object "java/lang/String") (3 : Int32) [(.ref b94), (.ref b_84), (.ref b_86)] .null := Arv.set Ar104 q104 S104 M104 H104 G104 rfl W105 0 rfl (Nat.le_of_ble_eq_true rfl)
    refine own_go st105 ?_
    have K105 : Keep h0 h105 [] := K103.wr W105 (Or.inr (Nat.le_trans K86.1 (Nat.le_of_eq g87.symm)))
    have r105 := CHr.wr W105 (r103.safe (Nat.lt_of_lt_of_le (Nat.lt_of_lt_of_le (Nat.lt_of_lt_of_le (Nat.lt_of_lt_of_le (Nat.lt_of_lt_of_le (Nat.lt_of_lt_of_le (Nat.lt_of_lt_of_le (Nat.lt_of_lt_of_le (Nat.lt_of_lt_of_le B87.lt (Keep.of_wr W89).1) (Keep.of_wr W91).1) (Keep.of_wr W93).1) E94.1) E95.1) (Keep.of_wr W97).1) (Keep.of_wr W99).1) (Keep.of_wr W101).1) Kc102.1) (r102.safe (Nat.lt_of_lt_of_le (Nat.lt_of_lt_of_le (Nat.lt_of_lt_of_le (Nat.lt_of_lt_of_le (Nat.lt_of_lt_of_le (Nat.lt_of_lt_of_le (Nat.lt_of_lt_of_le (Nat.lt_of_lt_of_le B87.lt (Keep.of_wr W89).1) (Keep.of_wr W91).1) (Keep.of_wr W93).1) E94.1) E95.1) (Keep.of_wr W97).1) (Keep.of_wr W99).1) (Keep.of_wr W101).1) (r101.safe (Nat.lt_of_lt_of_le (Nat.lt_of_lt_of_le (Nat.lt_of_lt_of_le (Nat.lt_of_lt_of_le (Nat.lt_of_lt_of_le (Nat.lt_of_lt_of_le (Nat.lt_of_lt_of_le B87.lt (Keep.of_wr W89).1) (Keep.of_wr W91).1) (Keep.of_wr W93).1) E94.1) E95.1) (Keep.of_wr W97).1) (Keep.of_wr W99).1) (r99.safe (Nat.lt_of_lt_of_le (Nat.lt_of_lt_of_le (Nat.lt_of_lt_of_le (Nat.lt_of_lt_of_le (Nat.lt_of_lt_of_le (Nat.lt_of_lt_of_le B87.lt (Keep.of_wr W89).1) (Keep.of_wr W91).1) (Keep.of_wr W93).1) E94.1) E95.1) (Keep.of_wr W97).1) (r97.safe (Nat.lt_of_lt_of_le (Nat.lt_of_lt_of_le (Nat.lt_of_lt_of_le (Nat.lt_of_lt_of_le (Nat.lt_of_lt_of_le B87.lt (Keep.of_wr W89).1) (Keep.of_wr W91).1) (Keep.of_wr W93).1) E94.1) E95.1) (r95.safe (Nat.lt_of_lt_of_le (Nat.lt_of_lt_of_le (Nat.lt_of_lt_of_le (Nat.lt_of_lt_of_le B87.lt (Keep.of_wr W89).1) (Keep.of_wr W91).1) (Keep.of_wr W93).1) E94.1) (r94.safe (Nat.lt_of_lt_of_le (Nat.lt_of_lt_of_le (Nat.lt_of_lt_of_le B87.lt (Keep.of_wr W89).1) (Keep.of_wr W91).1) (Keep.of_wr W93).1) (r93.safe (Nat.lt_of_lt_of_le (Nat.lt_of_lt_of_le B87.lt (Keep.of_wr W89).1) (Keep.of_wr W91).1) (r91.safe (Nat.lt_of_lt_of_le B87.lt (Keep.of_wr W89).1) (r89.safe B87.lt Q87)))))))))) R103.1
    have R105 := R103.trans r105
    have hk := Nat.le_trans hk (Keep.of_wr W105).1
    have O105 := O103.wr W105 (Nat.le_trans Z0 (Nat.le_trans K86.1 (Nat.le_of_eq g87.symm)))
    have N105 := Fr.snoc X105 N103 (Nat.le_trans Z0 (Nat.le_trans K86.1 (Nat.le_of_eq g87.symm)))
    refine own_go (A := T105.setTop (mkF m 173 #[.val (.int p1), .val (.int p2), .val (.int p3), .val (.int p4), .val (.int p5), .val (.int (3 : Int32)), .val (.ref b_82), .val (.ref b_84), .val (.ref b_86), .val (.ref b87), .val (.ref b94), .val (.ref vo_103), .unset] [(.ref vo_103)])) (fun t_ k_ => ?_) ?_
    · show Steps p.tables e below (T105.setTop (mkF m 171 #[.val (.int p1), .val (.int p2), .val (.int p3), .val (.int p4), .val (.int p5), .val (.int (3 : Int32)), .val (.ref b_82), .val (.ref b_84), .val (.ref b_86), .val (.ref b87), .val (.ref b94), .val (.ref vo_103), .unset] [])) t_
      refine XS.aload X105.here hx rfl (hb hby at_171) rfl rfl ?_
      exact k_
    obtain ⟨cq106, kq106, q106a, q106b, q106c⟩ := isOf hZ e105 (r103_1.wr W105)
    obtain ⟨_, _, ⟨T106, L106, k106, n106⟩, -, X106, ⟨Lc106, hQ106, l106, y106, z106⟩, st106⟩ := X105.virtualBack hx (y := own_y21) (z := own_y21) hown (mvT hZ (own_w hw 44 rfl)) (mvT hZ (own_w hw 45 rfl)) (notFace_of_selects (args := #[]) (mvT hZ (own_w hw 47 rfl))) (mvT hZ (own_w hw 47 rfl)) (mvT hZ (own_w hw 46 rfl)) (by decide) (backOf (W := 0) (rmAll l Z a0 hw [] vo_103 h105 n0 (Nat.le_trans Z0 K105.1) (r103_2.other W105 (Or.inl (Ne.symm (Nat.ne_of_lt (Nat.lt_of_lt_of_le (Nat.lt_of_lt_of_le (Nat.lt_of_lt_of_le (Nat.lt_of_lt_of_le (Nat.lt_of_lt_of_le (Nat.lt_of_lt_of_le (Nat.lt_of_lt_of_le (Nat.lt_of_lt_of_le (Nat.lt_of_lt_of_le (Nat.lt_of_lt_of_le B87.lt (Keep.of_wr W89).1) (Keep.of_wr W91).1) (Keep.of_wr W93).1) E94.1) E95.1) (Keep.of_wr W97).1) (Keep.of_wr W99).1) (Keep.of_wr W101).1) Kc102.1) r103_0)))))) hZ (own_w hw 48 rfl) (own_w hw 40 rfl) (by decide) (by decide)) q106a q106c (g := (mkF m 173 #[.val (.int p1), .val (.int p2), .val (.int p3), .val (.int p4), .val (.int p5), .val (.int (3 : Int32)), .val (.ref b_82), .val (.ref b_84), .val (.ref b_86), .val (.ref b87), .val (.ref b94), .val (.ref vo_103), .unset] [(.ref vo_103)])) rfl (by rw [hml]; rfl) (Steps.refl _) (argsL := []) (rest := []) (lenOf pd_18 rfl) rfl (by show 2 * 0 + _ ≤ _; exact Nat.le_of_eq rfl) (hb hby at_173) (fun _ _ => ⟨rfl, e105, (by decide : 25 + 0 ≤ _), (by decide : 56 + 0 ≤ _)⟩)
    dsimp only [Pt.U, Pt.locs, Pt.cells, Pt.slots] at X106 l106 y106 z106 st106 hQ106
    subst l106 y106 z106
    obtain ⟨rfl, N106q, eh106⟩ := hQ106
    have N106 := Fr.app N105 N106q
    refine own_via st106 ?_
    refine own_go (A := T106.setTop (mkF m 183 #[.val (.int p1), .val (.int p2), .val (.int p3), .val (.int p4), .val (.int p5), .val (.int (3 : Int32)), .val (.ref b_82), .val (.ref b_84), .val (.ref b_86), .val (.ref b87), .val (.ref b94), .val (.ref vo_103), .unset] [(.ref vo_103)])) (fun t_ k_ => ?_) ?_
    · show Steps p.tables e below (T106.setTop (mkF m 176 #[.val (.int p1), .val (.int p2), .val (.int p3), .val (.int p4), .val (.int p5), .val (.int (3 : Int32)), .val (.ref b_82), .val (.ref b_84), .val (.ref b_86), .val (.ref b87), .val (.ref b94), .val (.ref vo_103), .unset] [(.int (0 : Int32))])) t_
      refine XS.ifYes X106.here hx rfl (pc0 := 176) (pc' := 181) rfl (hb hby at_176) rfl ((if0 _ _).trans (teq (by decide : (0 : Int32) = (0 : Int32))).1) (by decide) (by decide) ?_
      show Steps p.tables e below (T106.setTop (mkF m 181 #[.val (.int p1), .val (.int p2), .val (.int p3), .val (.int p4), .val (.int p5), .val (.int (3 : Int32)), .val (.ref b_82), .val (.ref b_84), .val (.ref b_86), .val (.ref b87), .val (.ref b94), .val (.ref vo_103), .unset] [])) t_
      refine XS.aload X106.here hx rfl (hb hby at_181) rfl rfl ?_
      exact k_
    obtain ⟨cq107, kq107, q107a, q107b, q107c⟩ := isOf hZ eh106 (r103_1.wr W105)
    obtain ⟨_, _, ⟨T107, L107, k107, n107⟩, -, X107, ⟨Lc107, hQ107, l107, y107, z107⟩, st107⟩ := X106.virtualBack hx (y := own_y22) (z := own_y22) hown (mvT hZ (own_w hw 51 rfl)) (mvT hZ (own_w hw 52 rfl)) (notFace_of_selects (args := #[]) (mvT hZ (own_w hw 54 rfl))) (mvT hZ (own_w hw 54 rfl)) (mvT hZ (own_w hw 53 rfl)) (by decide) (backOf (W := 0) (rmRea l Z a0 hw [] vo_103 li_103 h105 n0 (Nat.le_trans Z0 K105.1) (r103_3.other W105 (Or.inl (Ne.symm (Nat.ne_of_lt (Nat.lt_of_lt_of_le (Nat.lt_of_lt_of_le (Nat.lt_of_lt_of_le (Nat.lt_of_lt_of_le (Nat.lt_of_lt_of_le (Nat.lt_of_lt_of_le (Nat.lt_of_lt_of_le (Nat.lt_of_lt_of_le (Nat.lt_of_lt_of_le (Nat.lt_of_lt_of_le B87.lt (Keep.of_wr W89).1) (Keep.of_wr W91).1) (Keep.of_wr W93).1) E94.1) E95.1) (Keep.of_wr W97).1) (Keep.of_wr W99).1) (Keep.of_wr W101).1) Kc102.1) r103_0)))))) hZ (own_w hw 55 rfl) (own_w hw 40 rfl) (by decide) (by decide)) q107a q107c (g := (mkF m 183 #[.val (.int p1), .val (.int p2), .val (.int p3), .val (.int p4), .val (.int p5), .val (.int (3 : Int32)), .val (.ref b_82), .val (.ref b_84), .val (.ref b_86), .val (.ref b87), .val (.ref b94), .val (.ref vo_103), .unset] [(.ref vo_103)])) rfl (by rw [hml]; rfl) (Steps.refl _) (argsL := []) (rest := []) (lenOf pd_19 rfl) rfl (by show 2 * 0 + _ ≤ _; exact Nat.le_of_eq rfl) (hb hby at_183) (fun _ _ => ⟨rfl, eh106, (by decide : 25 + 0 ≤ _), (by decide : 56 + 0 ≤ _)⟩)
    dsimp only [Pt.U, Pt.locs, Pt.cells, Pt.slots] at X107 l107 y107 z107 st107 hQ107
    subst l107 y107 z107
    obtain ⟨rfl, N107q, eh107⟩ := hQ107
    have N107 := Fr.app N106 N107q
    refine own_via st107 ?_
    refine own_go (A := T107.setTop (mkF m 195 #[.val (.int p1), .val (.int p2), .val (.int p3), .val (.int p4), .val (.int p5), .val (.int (3 : Int32)), .val (.ref b_82), .val (.ref b_84), .val (.ref b_86), .val (.ref b87), .val (.ref b94), .val (.ref vo_103), .val (.ref li_103)] [(.ref li_103)])) (fun t_ k_ => ?_) ?_
    · show Steps p.tables e below (T107.setTop (mkF m 186 #[.val (.int p1), .val (.int p2), .val (.int p3), .val (.int p4), .val (.int p5), .val (.int (3 : Int32)), .val (.ref b_82), .val (.ref b_84), .val (.ref b_86), .val (.ref b87), .val (.ref b94), .val (.ref vo_103), .unset] [(.ref li_103)])) t_
      refine XS.astore X107.here hx rfl (hb hby at_186) rfl rfl (l' := #[.val (.int p1), .val (.int p2), .val (.int p3), .val (.int p4), .val (.int p5), .val (.int (3 : Int32)), .val (.ref b_82), .val (.ref b_84), .val (.ref b_86), .val (.ref b87), .val (.ref b94), .val (.ref vo_103), .val (.ref li_103)]) rfl ?_
      show Steps p.tables e below (T107.setTop (mkF m 188 #[.val (.int p1), .val (.int p2), .val (.int p3), .val (.int p4), .val (.int p5), .val (.int (3 : Int32)), .val (.ref b_82), .val (.ref b_84), .val (.ref b_86), .val (.ref b87), .val (.ref b94), .val (.ref vo_103), .val (.ref li_103)] [])) t_
      refine XS.aload X107.here hx rfl (hb hby at_188) rfl rfl ?_
      show Steps p.tables e below (T107.setTop (mkF m 190 #[.val (.int p1), .val (.int p2), .val (.int p3), .val (.int p4), .val (.int p5), .val (.int (3 : Int32)), .val (.ref b_82), .val (.ref b_84), .val (.ref b_86), .val (.ref b87), .val (.ref b94), .val (.ref vo_103), .val (.ref li_103)] [(.ref li_103)])) t_
      refine XS.ifnullNo X107.here hx rfl (hb hby at_190) rfl ?_
      show Steps p.tables e below (T107.setTop (mkF m 193 #[.val (.int p1), .val (.int p2), .val (.int p3), .val (.int p4), .val (.int p5), .val (.int (3 : Int32)), .val (.ref b_82), .val (.ref b_84), .val (.ref b_86), .val (.ref b87), .val (.ref b94), .val (.ref vo_103), .val (.ref li_103)] [])) t_
      refine XS.aload X107.here hx rfl (hb hby at_193) rfl rfl ?_
      exact k_
    obtain ⟨cq108, kq108, q108a, q108b, q108c⟩ := isOf hZ eh107 (r103_5.wr W105)
    obtain ⟨_, _, ⟨T108, L108, k108, n108⟩, -, X108, ⟨Lc108, hQ108, l108, y108, z108⟩, st108⟩ := X107.interfaceBack hx (xi := own_y28) (y := own_y23) hown (mvT hZ (own_w hw 58 rfl)) (mvT hZ (own_w hw 59 rfl)) (mvT hZ (own_w hw 60 rfl)) (mvT hZ (own_w hw 61 rfl)) (mvT hZ (own_w hw 62 rfl)) (mvT hZ (own_w hw 63 rfl)) (mvT hZ (own_w hw 64 rfl)) (mvT hZ (own_w hw 65 rfl)) (by decide) (backOf (W := 0) (rmNs l Z a0 hw [] li_103 es_103 k_103 (3 : Int32) [(.ref b_82), (.ref b_84), (.ref b_86)] h105 n0 (Nat.le_trans Z0 K105.1) (r103_7.other W105 (Or.inl (Ne.symm (Nat.ne_of_lt (Nat.lt_of_lt_of_le (Nat.lt_of_lt_of_le (Nat.lt_of_lt_of_le (Nat.lt_of_lt_of_le (Nat.lt_of_lt_of_le (Nat.lt_of_lt_of_le (Nat.lt_of_lt_of_le (Nat.lt_of_lt_of_le (Nat.lt_of_lt_of_le (Nat.lt_of_lt_of_le B87.lt (Keep.of_wr W89).1) (Keep.of_wr W91).1) (Keep.of_wr W93).1) E94.1) E95.1) (Keep.of_wr W97).1) (Keep.of_wr W99).1) (Keep.of_wr W101).1) Kc102.1) r103_4))))) (r103_8.other W105 (Ne.symm (Nat.ne_of_lt (Nat.lt_of_lt_of_le (Nat.lt_of_lt_of_le (Nat.lt_of_lt_of_le (Nat.lt_of_lt_of_le (Nat.lt_of_lt_of_le (Nat.lt_of_lt_of_le (Nat.lt_of_lt_of_le (Nat.lt_of_lt_of_le (Nat.lt_of_lt_of_le (Nat.lt_of_lt_of_le B87.lt (Keep.of_wr W89).1) (Keep.of_wr W91).1) (Keep.of_wr W93).1) E94.1) E95.1) (Keep.of_wr W97).1) (Keep.of_wr W99).1) (Keep.of_wr W101).1) Kc102.1) r103_6))))) hZ (own_w hw 67 rfl) (own_w hw 66 rfl) (by decide) (by decide)) q108a q108b q108c (g := (mkF m 195 #[.val (.int p1), .val (.int p2), .val (.int p3), .val (.int p4), .val (.int p5), .val (.int (3 : Int32)), .val (.ref b_82), .val (.ref b_84), .val (.ref b_86), .val (.ref b87), .val (.ref b94), .val (.ref vo_103), .val (.ref li_103)] [(.ref li_103)])) rfl (by rw [hml]; rfl) (Steps.refl _) (argsL := []) (rest := []) (lenOf pd_20 rfl) rfl (by show 2 * 0 + _ ≤ _; exact Nat.le_of_eq rfl) (hb hby at_195) (fun _ _ => ⟨rfl, eh107, (by decide : 25 + 0 ≤ _), (by decide : 56 + 0 ≤ _)⟩)
    dsimp only [Pt.U, Pt.locs, Pt.cells, Pt.slots] at X108 l108 y108 z108 st108 hQ108
    subst l108 y108 z108
    obtain ⟨rfl, N108q, eh108⟩ := hQ108
    have N108 := Fr.app N107 N108q
    refine own_via st108 ?_
    refine own_go (A := T108.setTop (mkF m 218 #[.val (.int p1), .val (.int p2), .val (.int p3), .val (.int p4), .val (.int p5), .val (.int (3 : Int32)), .val (.ref b_82), .val (.ref b_84), .val (.ref b_86), .val (.ref b87), .val (.ref b94), .val (.ref vo_103), .val (.ref li_103)] [(.int (0 : Int32)), (.ref li_103), (.ref b_82)])) (fun t_ k_ => ?_) ?_
    · show Steps p.tables e below (T108.setTop (mkF m 200 #[.val (.int p1), .val (.int p2), .val (.int p3), .val (.int p4), .val (.int p5), .val (.int (3 : Int32)), .val (.ref b_82), .val (.ref b_84), .val (.ref b_86), .val (.ref b87), .val (.ref b94), .val (.ref vo_103), .val (.ref li_103)] [(.int (3 : Int32))])) t_
      refine XS.iload X108.here hx rfl (hb hby at_200) rfl ?_
      show Steps p.tables e below (T108.setTop (mkF m 202 #[.val (.int p1), .val (.int p2), .val (.int p3), .val (.int p4), .val (.int p5), .val (.int (3 : Int32)), .val (.ref b_82), .val (.ref b_84), .val (.ref b_86), .val (.ref b87), .val (.ref b94), .val (.ref vo_103), .val (.ref li_103)] [(.int (3 : Int32)), (.int (3 : Int32))])) t_
      refine XS.icmpYes X108.here hx rfl (pc0 := 202) (pc' := 207) rfl (hb hby at_202) rfl (teq (by decide : (3 : Int32) = (3 : Int32))).1 (by decide) (by decide) ?_
      show Steps p.tables e below (T108.setTop (mkF m 207 #[.val (.int p1), .val (.int p2), .val (.int p3), .val (.int p4), .val (.int p5), .val (.int (3 : Int32)), .val (.ref b_82), .val (.ref b_84), .val (.ref b_86), .val (.ref b87), .val (.ref b94), .val (.ref vo_103), .val (.ref li_103)] [])) t_
      refine XS.iload X108.here hx rfl (hb hby at_207) rfl ?_
      show Steps p.tables e below (T108.setTop (mkF m 209 #[.val (.int p1), .val (.int p2), .val (.int p3), .val (.int p4), .val (.int p5), .val (.int (3 : Int32)), .val (.ref b_82), .val (.ref b_84), .val (.ref b_86), .val (.ref b87), .val (.ref b94), .val (.ref vo_103), .val (.ref li_103)] [(.int (3 : Int32))])) t_
      refine XS.iconst X108.here hx rfl (hb hby at_209) ?_
      show Steps p.tables e below (T108.setTop (mkF m 210 #[.val (.int p1), .val (.int p2), .val (.int p3), .val (.int p4), .val (.int p5), .val (.int (3 : Int32)), .val (.ref b_82), .val (.ref b_84), .val (.ref b_86), .val (.ref b87), .val (.ref b94), .val (.ref vo_103), .val (.ref li_103)] [(.int (1 : Int32)), (.int (3 : Int32))])) t_
      refine XS.icmpNo X108.here hx rfl (hb hby at_210) rfl (flt (by decide : ¬ ((3 : Int32) < (1 : Int32)))).1 ?_
      show Steps p.tables e below (T108.setTop (mkF m 213 #[.val (.int p1), .val (.int p2), .val (.int p3), .val (.int p4), .val (.int p5), .val (.int (3 : Int32)), .val (.ref b_82), .val (.ref b_84), .val (.ref b_86), .val (.ref b87), .val (.ref b94), .val (.ref vo_103), .val (.ref li_103)] [])) t_
      refine XS.aload X108.here hx rfl (hb hby at_213) rfl rfl ?_
      show Steps p.tables e below (T108.setTop (mkF m 215 #[.val (.int p1), .val (.int p2), .val (.int p3), .val (.int p4), .val (.int p5), .val (.int (3 : Int32)), .val (.ref b_82), .val (.ref b_84), .val (.ref b_86), .val (.ref b87), .val (.ref b94), .val (.ref vo_103), .val (.ref li_103)] [(.ref b_82)])) t_
      refine XS.aload X108.here hx rfl (hb hby at_215) rfl rfl ?_
      show Steps p.tables e below (T108.setTop (mkF m 217 #[.val (.int p1), .val (.int p2), .val (.int p3), .val (.int p4), .val (.int p5), .val (.int (3 : Int32)), .val (.ref b_82), .val (.ref b_84), .val (.ref b_86), .val (.ref b87), .val (.ref b94), .val (.ref vo_103), .val (.ref li_103)] [(.ref li_103), (.ref b_82)])) t_
      refine XS.iconst X108.here hx rfl (hb hby at_217) ?_
      exact k_
    obtain ⟨cq109, kq109, q109a, q109b, q109c⟩ := isOf hZ eh108 (r103_5.wr W105)
    obtain ⟨_, _, ⟨T109, L109, k109, n109⟩, -, X109, ⟨Lc109, hQ109, l109, y109, z109⟩, st109⟩ := X108.interfaceBack hx (xi := own_y29) (y := own_y24) hown (mvT hZ (own_w hw 132 rfl)) (mvT hZ (own_w hw 133 rfl)) (mvT hZ (own_w hw 134 rfl)) (mvT hZ (own_w hw 135 rfl)) (mvT hZ (own_w hw 136 rfl)) (mvT hZ (own_w hw 137 rfl)) (mvT hZ (own_w hw 138 rfl)) (mvT hZ (own_w hw 65 rfl)) (by decide) (backOf (W := 1) (rmNg0 l Z a0 hw [] li_103 es_103 k_103 b_82 b_84 b_86 h105 n0 (Nat.le_trans Z0 K105.1) (r103_7.other W105 (Or.inl (Ne.symm (Nat.ne_of_lt (Nat.lt_of_lt_of_le (Nat.lt_of_lt_of_le (Nat.lt_of_lt_of_le (Nat.lt_of_lt_of_le (Nat.lt_of_lt_of_le (Nat.lt_of_lt_of_le (Nat.lt_of_lt_of_le (Nat.lt_of_lt_of_le (Nat.lt_of_lt_of_le (Nat.lt_of_lt_of_le B87.lt (Keep.of_wr W89).1) (Keep.of_wr W91).1) (Keep.of_wr W93).1) E94.1) E95.1) (Keep.of_wr W97).1) (Keep.of_wr W99).1) (Keep.of_wr W101).1) Kc102.1) r103_4))))) (r103_8.other W105 (Ne.symm (Nat.ne_of_lt (Nat.lt_of_lt_of_le (Nat.lt_of_lt_of_le (Nat.lt_of_lt_of_le (Nat.lt_of_lt_of_le (Nat.lt_of_lt_of_le (Nat.lt_of_lt_of_le (Nat.lt_of_lt_of_le (Nat.lt_of_lt_of_le (Nat.lt_of_lt_of_le (Nat.lt_of_lt_of_le B87.lt (Keep.of_wr W89).1) (Keep.of_wr W91).1) (Keep.of_wr W93).1) E94.1) E95.1) (Keep.of_wr W97).1) (Keep.of_wr W99).1) (Keep.of_wr W101).1) Kc102.1) r103_6))))) hZ (own_w hw 139 rfl) (own_w hw 66 rfl) (by decide) (by decide)) q109a q109b q109c (g := (mkF m 218 #[.val (.int p1), .val (.int p2), .val (.int p3), .val (.int p4), .val (.int p5), .val (.int (3 : Int32)), .val (.ref b_82), .val (.ref b_84), .val (.ref b_86), .val (.ref b87), .val (.ref b94), .val (.ref vo_103), .val (.ref li_103)] [(.int (0 : Int32)), (.ref li_103), (.ref b_82)])) rfl (by rw [hml]; rfl) (Steps.refl _) (argsL := [(.int (0 : Int32))]) (rest := [(.ref b_82)]) (lenOf pd_21 rfl) rfl (by show 2 * 0 + _ ≤ _; exact Nat.le_of_eq rfl) (hb hby at_218) (fun _ _ => ⟨rfl, eh108, (by decide : 25 + 0 ≤ _), (by decide : 56 + 0 ≤ _)⟩)
    dsimp only [Pt.U, Pt.locs, Pt.cells, Pt.slots] at X109 l109 y109 z109 st109 hQ109
    subst l109 y109 z109
    obtain ⟨rfl, N109q, eh109⟩ := hQ109
    have N109 := Fr.app N108 N109q
    refine own_via st109 ?_
    obtain ⟨cq110, kq110, q110a, q110b, q110c⟩ := isOf hZ eh109 ((((((((((((((r82_1.keep Kc84).keep Kc86).ext E87).wr W89).wr W91).wr W93).ext E94).ext E95).wr W97).wr W99).wr W101).keep Kc102).keep Kc103).wr W105)
    obtain ⟨_, _, ⟨T110, L110, k110, n110⟩, -, X110, ⟨Lc110, hQ110, l110, y110, z110⟩, st110⟩ := X109.virtualBack hx (y := own_y27) (z := own_y27) hown (mvT hZ (own_w hw 140 rfl)) (mvT hZ (own_w hw 141 rfl)) (notFace_of_selects (args := #[]) (mvT hZ (own_w hw 143 rfl))) (mvT hZ (own_w hw 143 rfl)) (mvT hZ (own_w hw 142 rfl)) (by decide) (backOf (W := 0) (rmEq l Z a0 hw [] b_82 h105 n0 (Nat.le_trans Z0 K105.1)) hZ (own_w hw 144 rfl) (own_w hw 6 rfl) (by decide) (by decide)) q110a q110c (g := (mkF m 223 #[.val (.int p1), .val (.int p2), .val (.int p3), .val (.int p4), .val (.int p5), .val (.int (3 : Int32)), .val (.ref b_82), .val (.ref b_84), .val (.ref b_86), .val (.ref b87), .val (.ref b94), .val (.ref vo_103), .val (.ref li_103)] [(.ref b_82), (.ref b_82)])) rfl (by rw [hml]; rfl) (Steps.refl _) (argsL := [(.ref b_82)]) (rest := []) (lenOf pd_22 rfl) rfl (by show 2 * 0 + _ ≤ _; exact Nat.le_of_eq rfl) (hb hby at_223) (fun _ _ => ⟨rfl, eh109, (by decide : 25 + 0 ≤ _), (by decide : 56 + 0 ≤ _)⟩)
    dsimp only [Pt.U, Pt.locs, Pt.cells, Pt.slots] at X110 l110 y110 z110 st110 hQ110
    subst l110 y110 z110
    obtain ⟨rfl, N110q, eh110⟩ := hQ110
    have N110 := Fr.app N109 N110q
    refine own_via st110 ?_
    refine own_go (A := T110.setTop (mkF m 242 #[.val (.int p1), .val (.int p2), .val (.int p3), .val (.int p4), .val (.int p5), .val (.int (3 : Int32)), .val (.ref b_82), .val (.ref b_84), .val (.ref b_86), .val (.ref b87), .val (.ref b94), .val (.ref vo_103), .val (.ref li_103)] [(.int (1 : Int32)), (.ref li_103), (.ref b_84)])) (fun t_ k_ => ?_) ?_
    · show Steps p.tables e below (T110.setTop (mkF m 226 #[.val (.int p1), .val (.int p2), .val (.int p3), .val (.int p4), .val (.int p5), .val (.int (3 : Int32)), .val (.ref b_82), .val (.ref b_84), .val (.ref b_86), .val (.ref b87), .val (.ref b94), .val (.ref vo_103), .val (.ref li_103)] [(.int (1 : Int32))])) t_
      refine XS.ifYes X110.here hx rfl (pc0 := 226) (pc' := 231) rfl (hb hby at_226) rfl ((if0 _ _).trans (feq (by decide : ¬ ((1 : Int32) = (0 : Int32)))).2) (by decide) (by decide) ?_
      show Steps p.tables e below (T110.setTop (mkF m 231 #[.val (.int p1), .val (.int p2), .val (.int p3), .val (.int p4), .val (.int p5), .val (.int (3 : Int32)), .val (.ref b_82), .val (.ref b_84), .val (.ref b_86), .val (.ref b87), .val (.ref b94), .val (.ref vo_103), .val (.ref li_103)] [])) t_
      refine XS.iload X110.here hx rfl (hb hby at_231) rfl ?_
      show Steps p.tables e below (T110.setTop (mkF m 233 #[.val (.int p1), .val (.int p2), .val (.int p3), .val (.int p4), .val (.int p5), .val (.int (3 : Int32)), .val (.ref b_82), .val (.ref b_84), .val (.ref b_86), .val (.ref b87), .val (.ref b94), .val (.ref vo_103), .val (.ref li_103)] [(.int (3 : Int32))])) t_
      refine XS.iconst X110.here hx rfl (hb hby at_233) ?_
      show Steps p.tables e below (T110.setTop (mkF m 234 #[.val (.int p1), .val (.int p2), .val (.int p3), .val (.int p4), .val (.int p5), .val (.int (3 : Int32)), .val (.ref b_82), .val (.ref b_84), .val (.ref b_86), .val (.ref b87), .val (.ref b94), .val (.ref vo_103), .val (.ref li_103)] [(.int (2 : Int32)), (.int (3 : Int32))])) t_
      refine XS.icmpNo X110.here hx rfl (hb hby at_234) rfl (flt (by decide : ¬ ((3 : Int32) < (2 : Int32)))).1 ?_
      show Steps p.tables e below (T110.setTop (mkF m 237 #[.val (.int p1), .val (.int p2), .val (.int p3), .val (.int p4), .val (.int p5), .val (.int (3 : Int32)), .val (.ref b_82), .val (.ref b_84), .val (.ref b_86), .val (.ref b87), .val (.ref b94), .val (.ref vo_103), .val (.ref li_103)] [])) t_
      refine XS.aload X110.here hx rfl (hb hby at_237) rfl rfl ?_
      show Steps p.tables e below (T110.setTop (mkF m 239 #[.val (.int p1), .val (.int p2), .val (.int p3), .val (.int p4), .val (.int p5), .val (.int (3 : Int32)), .val (.ref b_82), .val (.ref b_84), .val (.ref b_86), .val (.ref b87), .val (.ref b94), .val (.ref vo_103), .val (.ref li_103)] [(.ref b_84)])) t_
      refine XS.aload X110.here hx rfl (hb hby at_239) rfl rfl ?_
      show Steps p.tables e below (T110.setTop (mkF m 241 #[.val (.int p1), .val (.int p2), .val (.int p3), .val (.int p4), .val (.int p5), .val (.int (3 : Int32)), .val (.ref b_82), .val (.ref b_84), .val (.ref b_86), .val (.ref b87), .val (.ref b94), .val (.ref vo_103), .val (.ref li_103)] [(.ref li_103), (.ref b_84)])) t_
      refine XS.iconst X110.here hx rfl (hb hby at_241) ?_
      exact k_
    obtain ⟨cq111, kq111, q111a, q111b, q111c⟩ := isOf hZ eh110 (r103_5.wr W105)
    obtain ⟨_, _, ⟨T111, L111, k111, n111⟩, -, X111, ⟨Lc111, hQ111, l111, y111, z111⟩, st111⟩ := X110.interfaceBack hx (xi := own_y29) (y := own_y24) hown (mvT hZ (own_w hw 132 rfl)) (mvT hZ (own_w hw 133 rfl)) (mvT hZ (own_w hw 134 rfl)) (mvT hZ (own_w hw 135 rfl)) (mvT hZ (own_w hw 136 rfl)) (mvT hZ (own_w hw 137 rfl)) (mvT hZ (own_w hw 138 rfl)) (mvT hZ (own_w hw 65 rfl)) (by decide) (backOf (W := 1) (rmNg1 l Z a0 hw [] li_103 es_103 k_103 b_82 b_84 b_86 h105 n0 (Nat.le_trans Z0 K105.1) (r103_7.other W105 (Or.inl (Ne.symm (Nat.ne_of_lt (Nat.lt_of_lt_of_le (Nat.lt_of_lt_of_le (Nat.lt_of_lt_of_le (Nat.lt_of_lt_of_le (Nat.lt_of_lt_of_le (Nat.lt_of_lt_of_le (Nat.lt_of_lt_of_le (Nat.lt_of_lt_of_le (Nat.lt_of_lt_of_le (Nat.lt_of_lt_of_le B87.lt (Keep.of_wr W89).1) (Keep.of_wr W91).1) (Keep.of_wr W93).1) E94.1) E95.1) (Keep.of_wr W97).1) (Keep.of_wr W99).1) (Keep.of_wr W101).1) Kc102.1) r103_4))))) (r103_8.other W105 (Ne.symm (Nat.ne_of_lt (Nat.lt_of_lt_of_le (Nat.lt_of_lt_of_le (Nat.lt_of_lt_of_le (Nat.lt_of_lt_of_le (Nat.lt_of_lt_of_le (Nat.lt_of_lt_of_le (Nat.lt_of_lt_of_le (Nat.lt_of_lt_of_le (Nat.lt_of_lt_of_le (Nat.lt_of_lt_of_le B87.lt (Keep.of_wr W89).1) (Keep.of_wr W91).1) (Keep.of_wr W93).1) E94.1) E95.1) (Keep.of_wr W97).1) (Keep.of_wr W99).1) (Keep.of_wr W101).1) Kc102.1) r103_6))))) hZ (own_w hw 139 rfl) (own_w hw 66 rfl) (by decide) (by decide)) q111a q111b q111c (g := (mkF m 242 #[.val (.int p1), .val (.int p2), .val (.int p3), .val (.int p4), .val (.int p5), .val (.int (3 : Int32)), .val (.ref b_82), .val (.ref b_84), .val (.ref b_86), .val (.ref b87), .val (.ref b94), .val (.ref vo_103), .val (.ref li_103)] [(.int (1 : Int32)), (.ref li_103), (.ref b_84)])) rfl (by rw [hml]; rfl) (Steps.refl _) (argsL := [(.int (1 : Int32))]) (rest := [(.ref b_84)]) (lenOf pd_21 rfl) rfl (by show 2 * 0 + _ ≤ _; exact Nat.le_of_eq rfl) (hb hby at_242) (fun _ _ => ⟨rfl, eh110, (by decide : 25 + 0 ≤ _), (by decide : 56 + 0 ≤ _)⟩)
    dsimp only [Pt.U, Pt.locs, Pt.cells, Pt.slots] at X111 l111 y111 z111 st111 hQ111
    subst l111 y111 z111
    obtain ⟨rfl, N111q, eh111⟩ := hQ111
    have N111 := Fr.app N110 N111q
    refine own_via st111 ?_
    obtain ⟨cq112, kq112, q112a, q112b, q112c⟩ := isOf hZ eh111 (((((((((((((r84_1.keep Kc86).ext E87).wr W89).wr W91).wr W93).ext E94).ext E95).wr W97).wr W99).wr W101).keep Kc102).keep Kc103).wr W105)
    obtain ⟨_, _, ⟨T112, L112, k112, n112⟩, -, X112, ⟨Lc112, hQ112, l112, y112, z112⟩, st112⟩ := X111.virtualBack hx (y := own_y27) (z := own_y27) hown (mvT hZ (own_w hw 140 rfl)) (mvT hZ (own_w hw 141 rfl)) (notFace_of_selects (args := #[]) (mvT hZ (own_w hw 143 rfl))) (mvT hZ (own_w hw 143 rfl)) (mvT hZ (own_w hw 142 rfl)) (by decide) (backOf (W := 0) (rmEq l Z a0 hw [] b_84 h105 n0 (Nat.le_trans Z0 K105.1)) hZ (own_w hw 144 rfl) (own_w hw 6 rfl) (by decide) (by decide)) q112a q112c (g := (mkF m 247 #[.val (.int p1), .val (.int p2), .val (.int p3), .val (.int p4), .val (.int p5), .val (.int (3 : Int32)), .val (.ref b_82), .val (.ref b_84), .val (.ref b_86), .val (.ref b87), .val (.ref b94), .val (.ref vo_103), .val (.ref li_103)] [(.ref b_84), (.ref b_84)])) rfl (by rw [hml]; rfl) (Steps.refl _) (argsL := [(.ref b_84)]) (rest := []) (lenOf pd_22 rfl) rfl (by show 2 * 0 + _ ≤ _; exact Nat.le_of_eq rfl) (hb hby at_247) (fun _ _ => ⟨rfl, eh111, (by decide : 25 + 0 ≤ _), (by decide : 56 + 0 ≤ _)⟩)
    dsimp only [Pt.U, Pt.locs, Pt.cells, Pt.slots] at X112 l112 y112 z112 st112 hQ112
    subst l112 y112 z112
    obtain ⟨rfl, N112q, eh112⟩ := hQ112
    have N112 := Fr.app N111 N112q
    refine own_via st112 ?_
    refine own_go (A := T112.setTop (mkF m 266 #[.val (.int p1), .val (.int p2), .val (.int p3), .val (.int p4), .val (.int p5), .val (.int (3 : Int32)), .val (.ref b_82), .val (.ref b_84), .val (.ref b_86), .val (.ref b87), .val (.ref b94), .val (.ref vo_103), .val (.ref li_103)] [(.int (2 : Int32)), (.ref li_103), (.ref b_86)])) (fun t_ k_ => ?_) ?_
    · show Steps p.tables e below (T112.setTop (mkF m 250 #[.val (.int p1), .val (.int p2), .val (.int p3), .val (.int p4), .val (.int p5), .val (.int (3 : Int32)), .val (.ref b_82), .val (.ref b_84), .val (.ref b_86), .val (.ref b87), .val (.ref b94), .val (.ref vo_103), .val (.ref li_103)] [(.int (1 : Int32))])) t_
      refine XS.ifYes X112.here hx rfl (pc0 := 250) (pc' := 255) rfl (hb hby at_250) rfl ((if0 _ _).trans (feq (by decide : ¬ ((1 : Int32) = (0 : Int32)))).2) (by decide) (by decide) ?_
      show Steps p.tables e below (T112.setTop (mkF m 255 #[.val (.int p1), .val (.int p2), .val (.int p3), .val (.int p4), .val (.int p5), .val (.int (3 : Int32)), .val (.ref b_82), .val (.ref b_84), .val (.ref b_86), .val (.ref b87), .val (.ref b94), .val (.ref vo_103), .val (.ref li_103)] [])) t_
      refine XS.iload X112.here hx rfl (hb hby at_255) rfl ?_
      show Steps p.tables e below (T112.setTop (mkF m 257 #[.val (.int p1), .val (.int p2), .val (.int p3), .val (.int p4), .val (.int p5), .val (.int (3 : Int32)), .val (.ref b_82), .val (.ref b_84), .val (.ref b_86), .val (.ref b87), .val (.ref b94), .val (.ref vo_103), .val (.ref li_103)] [(.int (3 : Int32))])) t_
      refine XS.iconst X112.here hx rfl (hb hby at_257) ?_
      show Steps p.tables e below (T112.setTop (mkF m 258 #[.val (.int p1), .val (.int p2), .val (.int p3), .val (.int p4), .val (.int p5), .val (.int (3 : Int32)), .val (.ref b_82), .val (.ref b_84), .val (.ref b_86), .val (.ref b87), .val (.ref b94), .val (.ref vo_103), .val (.ref li_103)] [(.int (3 : Int32)), (.int (3 : Int32))])) t_
      refine XS.icmpNo X112.here hx rfl (hb hby at_258) rfl (flt (by decide : ¬ ((3 : Int32) < (3 : Int32)))).1 ?_
      show Steps p.tables e below (T112.setTop (mkF m 261 #[.val (.int p1), .val (.int p2), .val (.int p3), .val (.int p4), .val (.int p5), .val (.int (3 : Int32)), .val (.ref b_82), .val (.ref b_84), .val (.ref b_86), .val (.ref b87), .val (.ref b94), .val (.ref vo_103), .val (.ref li_103)] [])) t_
      refine XS.aload X112.here hx rfl (hb hby at_261) rfl rfl ?_
      show Steps p.tables e below (T112.setTop (mkF m 263 #[.val (.int p1), .val (.int p2), .val (.int p3), .val (.int p4), .val (.int p5), .val (.int (3 : Int32)), .val (.ref b_82), .val (.ref b_84), .val (.ref b_86), .val (.ref b87), .val (.ref b94), .val (.ref vo_103), .val (.ref li_103)] [(.ref b_86)])) t_
      refine XS.aload X112.here hx rfl (hb hby at_263) rfl rfl ?_
      show Steps p.tables e below (T112.setTop (mkF m 265 #[.val (.int p1), .val (.int p2), .val (.int p3), .val (.int p4), .val (.int p5), .val (.int (3 : Int32)), .val (.ref b_82), .val (.ref b_84), .val (.ref b_86), .val (.ref b87), .val (.ref b94), .val (.ref vo_103), .val (.ref li_103)] [(.ref li_103), (.ref b_86)])) t_
      refine XS.iconst X112.here hx rfl (hb hby at_265) ?_
      exact k_
    obtain ⟨cq113, kq113, q113a, q113b, q113c⟩ := isOf hZ eh112 (r103_5.wr W105)
    obtain ⟨_, _, ⟨T113, L113, k113, n113⟩, -, X113, ⟨Lc113, hQ113, l113, y113, z113⟩, st113⟩ := X112.interfaceBack hx (xi := own_y29) (y := own_y24) hown (mvT hZ (own_w hw 132 rfl)) (mvT hZ (own_w hw 133 rfl)) (mvT hZ (own_w hw 134 rfl)) (mvT hZ (own_w hw 135 rfl)) (mvT hZ (own_w hw 136 rfl)) (mvT hZ (own_w hw 137 rfl)) (mvT hZ (own_w hw 138 rfl)) (mvT hZ (own_w hw 65 rfl)) (by decide) (backOf (W := 1) (rmNg2 l Z a0 hw [] li_103 es_103 k_103 b_82 b_84 b_86 h105 n0 (Nat.le_trans Z0 K105.1) (r103_7.other W105 (Or.inl (Ne.symm (Nat.ne_of_lt (Nat.lt_of_lt_of_le (Nat.lt_of_lt_of_le (Nat.lt_of_lt_of_le (Nat.lt_of_lt_of_le (Nat.lt_of_lt_of_le (Nat.lt_of_lt_of_le (Nat.lt_of_lt_of_le (Nat.lt_of_lt_of_le (Nat.lt_of_lt_of_le (Nat.lt_of_lt_of_le B87.lt (Keep.of_wr W89).1) (Keep.of_wr W91).1) (Keep.of_wr W93).1) E94.1) E95.1) (Keep.of_wr W97).1) (Keep.of_wr W99).1) (Keep.of_wr W101).1) Kc102.1) r103_4))))) (r103_8.other W105 (Ne.symm (Nat.ne_of_lt (Nat.lt_of_lt_of_le (Nat.lt_of_lt_of_le (Nat.lt_of_lt_of_le (Nat.lt_of_lt_of_le (Nat.lt_of_lt_of_le (Nat.lt_of_lt_of_le (Nat.lt_of_lt_of_le (Nat.lt_of_lt_of_le (Nat.lt_of_lt_of_le (Nat.lt_of_lt_of_le B87.lt (Keep.of_wr W89).1) (Keep.of_wr W91).1) (Keep.of_wr W93).1) E94.1) E95.1) (Keep.of_wr W97).1) (Keep.of_wr W99).1) (Keep.of_wr W101).1) Kc102.1) r103_6))))) hZ (own_w hw 139 rfl) (own_w hw 66 rfl) (by decide) (by decide)) q113a q113b q113c (g := (mkF m 266 #[.val (.int p1), .val (.int p2), .val (.int p3), .val (.int p4), .val (.int p5), .val (.int (3 : Int32)), .val (.ref b_82), .val (.ref b_84), .val (.ref b_86), .val (.ref b87), .val (.ref b94), .val (.ref vo_103), .val (.ref li_103)] [(.int (2 : Int32)), (.ref li_103), (.ref b_86)])) rfl (by rw [hml]; rfl) (Steps.refl _) (argsL := [(.int (2 : Int32))]) (rest := [(.ref b_86)]) (lenOf pd_21 rfl) rfl (by show 2 * 0 + _ ≤ _; exact Nat.le_of_eq rfl) (hb hby at_266) (fun _ _ => ⟨rfl, eh112, (by decide : 25 + 0 ≤ _), (by decide : 56 + 0 ≤ _)⟩)
    dsimp only [Pt.U, Pt.locs, Pt.cells, Pt.slots] at X113 l113 y113 z113 st113 hQ113
    subst l113 y113 z113
    obtain ⟨rfl, N113q, eh113⟩ := hQ113
    have N113 := Fr.app N112 N113q
    refine own_via st113 ?_
    obtain ⟨cq114, kq114, q114a, q114b, q114c⟩ := isOf hZ eh113 ((((((((((((r86_1.ext E87).wr W89).wr W91).wr W93).ext E94).ext E95).wr W97).wr W99).wr W101).keep Kc102).keep Kc103).wr W105)
    obtain ⟨_, _, ⟨T114, L114, k114, n114⟩, -, X114, ⟨Lc114, hQ114, l114, y114, z114⟩, st114⟩ := X113.virtualBack hx (y := own_y27) (z := own_y27) hown (mvT hZ (own_w hw 140 rfl)) (mvT hZ (own_w hw 141 rfl)) (notFace_of_selects (args := #[]) (mvT hZ (own_w hw 143 rfl))) (mvT hZ (own_w hw 143 rfl)) (mvT hZ (own_w hw 142 rfl)) (by decide) (backOf (W := 0) (rmEq l Z a0 hw [] b_86 h105 n0 (Nat.le_trans Z0 K105.1)) hZ (own_w hw 144 rfl) (own_w hw 6 rfl) (by decide) (by decide)) q114a q114c (g := (mkF m 271 #[.val (.int p1), .val (.int p2), .val (.int p3), .val (.int p4), .val (.int p5), .val (.int (3 : Int32)), .val (.ref b_82), .val (.ref b_84), .val (.ref b_86), .val (.ref b87), .val (.ref b94), .val (.ref vo_103), .val (.ref li_103)] [(.ref b_86), (.ref b_86)])) rfl (by rw [hml]; rfl) (Steps.refl _) (argsL := [(.ref b_86)]) (rest := []) (lenOf pd_22 rfl) rfl (by show 2 * 0 + _ ≤ _; exact Nat.le_of_eq rfl) (hb hby at_271) (fun _ _ => ⟨rfl, eh113, (by decide : 25 + 0 ≤ _), (by decide : 56 + 0 ≤ _)⟩)
    dsimp only [Pt.U, Pt.locs, Pt.cells, Pt.slots] at X114 l114 y114 z114 st114 hQ114
    subst l114 y114 z114
    obtain ⟨rfl, N114q, eh114⟩ := hQ114
    have N114 := Fr.app N113 N114q
    refine own_via st114 ?_
    refine own_go (A := T114.setTop (mkF m 280 #[.val (.int p1), .val (.int p2), .val (.int p3), .val (.int p4), .val (.int p5), .val (.int (3 : Int32)), .val (.ref b_82), .val (.ref b_84), .val (.ref b_86), .val (.ref b87), .val (.ref b94), .val (.ref vo_103), .val (.ref li_103)] [(.int (1 : Int32))])) (fun t_ k_ => ?_) ?_
    · show Steps p.tables e below (T114.setTop (mkF m 274 #[.val (.int p1), .val (.int p2), .val (.int p3), .val (.int p4), .val (.int p5), .val (.int (3 : Int32)), .val (.ref b_82), .val (.ref b_84), .val (.ref b_86), .val (.ref b87), .val (.ref b94), .val (.ref vo_103), .val (.ref li_103)] [(.int (1 : Int32))])) t_
      refine XS.ifYes X114.here hx rfl (pc0 := 274) (pc' := 279) rfl (hb hby at_274) rfl ((if0 _ _).trans (feq (by decide : ¬ ((1 : Int32) = (0 : Int32)))).2) (by decide) (by decide) ?_
      show Steps p.tables e below (T114.setTop (mkF m 279 #[.val (.int p1), .val (.int p2), .val (.int p3), .val (.int p4), .val (.int p5), .val (.int (3 : Int32)), .val (.ref b_82), .val (.ref b_84), .val (.ref b_86), .val (.ref b87), .val (.ref b94), .val (.ref vo_103), .val (.ref li_103)] [])) t_
      refine XS.iconst X114.here hx rfl (hb hby at_279) ?_
      exact k_
    obtain ⟨fs115, hr115, hrun115, hended115, hRW115⟩ := X114.leaveW hS (by rw [eh114]; exact hk) (v := some (.int (1 : Int32))) (fun h => by rw [Bd.returns] at h; cases h)
    refine ⟨_, _, ?_, hrun115, hended115, _, _, rfl, ?_, ?_, hRW115.1, hRW115.2.1, hRW115.2.2.1, hRW115.2.2.2.mono (by decide) (by decide)⟩
    · exact retN X114 hx (t := .boolean) Bd.returns (by simp) (hb hby at_280) hr115
    · show Q_rm0 Z p1 p2 p3 p4 p5 cs em dn li0 es0 ka h0 n0 _ T114.heap _
      rw [eh114]
      exact ⟨rfl, N114, K105⟩
    · show CHr Z own_EL s.vm s.heap T114.vm T114.heap
      rw [hh, eh114]
      exact R105.trans (CHv.at X114 hZ hEL R105.1)
theorem own_arr0 {args : Array Value} {s : State} (hf : Fit s) {t : Term} {a : Addr} {ty : FieldType} {dv : Value} (ev : t.eval args s none [] s = some (.ref a)) (h1 : (Jvm.Cond.arrayOf t ty).value args s none s [] = some true) (h2 : (Term.length t).eval args s none [] s = some (.int 0)) : ∃ k, Arv s s.heap a k ty 0 [] dv := by
  obtain ⟨cl, A⟩ := Arr.start ev h1
  have hA := A.fin (State.Warmed39.refl s).alike
  have hs : cl.slots.size < 2 ^ 31 ∧ cl.slots.size.toInt32 = 0 := by
    have h3 := h2
    simp only [Term.eval, ev, hA, Option.bind_eq_bind, Option.bind_some] at h3
    by_cases q : cl.slots.size < 2 ^ 31
    · simp [q] at h3; exact ⟨q, h3⟩
    · simp [q] at h3
  exact ⟨cl.cls, Arv.start hf A hs.1 hs.2 (by decide) rfl trivial⟩
set_option maxRecDepth 65536 in
set_option maxHeartbeats 40000000 in
theorem comes_1 {Post : Tables → Env → Array Value → State → Outcome → State → Prop} (hpost : ∀ tb e args s v u, (limb_1_1.after args s (.returned v) u = true ∧ limb_1_2.after args s (.returned v) u = true ∧ True) → ReturnedEndW s (.returned v) u (Jvm.fieldLocs frame_1_writes args s ++ Jvm.arrayLocs frame_1_arrays args s ++ Jvm.staticLocs frame_1_statics s) 48 1216 → Post tb e args s (.returned v) u) :
    ArmFor flags0 classFile x code maxLocals ret World_1 tables_1 room_1 Calls_1 rest_1 Pre_1 Post := by
  intro l hfl _ _ p e ha hc hk s m args below hf hA hF happ hP
  obtain ⟨hcalls, hrest, hpre⟩ := hP
  obtain ⟨-, -, -, hnamed, -, -, -, hat⟩ := (Spec.applies_iff hf).mp happ
  obtain ⟨hg, hn⟩ := and_e (Cond.before_iff.mp (show (Jvm.Cond.and given_1 narrow_1).before args s = true from hpre))
  obtain ⟨hg_0, hg_1⟩ := and_e hg
  obtain ⟨hg_2, hg_3⟩ := and_e hg_1
  obtain ⟨hg_4, hg_5⟩ := and_e hg_3
  obtain ⟨hg_6, hg_7⟩ := and_e hg_5
  obtain ⟨hg_8, hg_9⟩ := and_e hg_7
  obtain ⟨w0, w1, w2, w3, w4, rfl⟩ : ∃ w0 w1 w2 w3 w4 : Value, args = #[w0, w1, w2, w3, w4] := by
    have hs : args.size = 5 := by simpa [Cond.value, given_1] using hg_0
    obtain ⟨L⟩ := args
    match L, hs with
    | [w0, w1, w2, w3, w4], _ => exact ⟨w0, w1, w2, w3, w4, rfl⟩
  have hw := fun d (hd : d ∈ tables_1) => atoms_spec (ws := Jvm.Cond.code x code maxLocals ret :: tables_1) hat d (List.mem_cons_of_mem _ hd)
  have hfit : Fit s := fun {y c} hc i hi => by
    obtain ⟨ha, rfl⟩ := Array.getElem?_eq_some_iff.mp hc
    have q := List.all_eq_true.mp ((Array.all_eq_true_iff_forall_mem.mp hF) _ (Array.getElem_mem ha)) i (List.mem_range.mpr hi)
    simpa [Array.getElem?_eq_getElem hi] using q
  obtain ⟨i0, ei0⟩ := is_v hg_2
  obtain rfl : w0 = (.int i0) := Option.some.inj ei0
  obtain ⟨i1, ei1⟩ := is_v hg_4
  obtain rfl : w1 = (.int i1) := Option.some.inj ei1
  obtain ⟨i2, ei2⟩ := is_v hg_6
  obtain rfl : w2 = (.int i2) := Option.some.inj ei2
  obtain ⟨i3, ei3⟩ := is_v hg_8
  obtain rfl : w3 = (.int i3) := Option.some.inj ei3
  obtain ⟨i4, ei4⟩ := is_v hg_9
  obtain rfl : w4 = (.int i4) := Option.some.inj ei4
  obtain ⟨hn_0, hn_1⟩ := and_e hn
  obtain ⟨hn_2, hn_3⟩ := and_e hn_1
  obtain ⟨hn_4, hn_5⟩ := and_e hn_3
  obtain ⟨hn_6, hn_7⟩ := and_e hn_5
  obtain ⟨a_DENY, eva_DENY⟩ := exa_v hn_0
  have Sa_DENY : Sta s s.heap "com/example/portcullis/portcullis/authorization/Vote" "DENY" "Lcom/example/portcullis/portcullis/authorization/Vote;" (.ref a_DENY) := Sta.start eva_DENY (Or.inr ⟨(own_w hw 40 rfl), (own_w hw 43 rfl)⟩)
  have Ea_DENY : Exa s s.heap a_DENY "com/example/portcullis/portcullis/authorization/Vote" := Exa.start eva_DENY hn_0
  have Fa_DENY_allowed : Fld s s.heap a_DENY "com/example/portcullis/portcullis/authorization/Vote" "allowed" "Z" (.int (0 : Int32)) := Fld.start ((fld_at eva_DENY).symm.trans (own_eqInt hn_2))
  obtain ⟨hsets, hown0⟩ := atoms_of _ (rest_1_c_eq ▸ (show rest_1_c.before _ s = true from hrest))
  obtain ⟨cs, ecs⟩ := is_v (Cond.before_iff.mp (hsets _ (List.mem_of_getElem? (i := 1) rfl)))
  have Scs : Sta s s.heap "java/lang/String" "COMPACT_STRINGS" "Z" (.int cs) := Sta.start ecs (Or.inl (hsets _ (List.mem_of_getElem? (i := 0) rfl)))
  have hcw := (hsets _ (List.mem_of_getElem? (i := 2) rfl))
  have hcs : ¬ (cs = (0 : Int32)) := gotF (Cond.eq_ints ecs (Term.int_eval (0))) (not_v (Cond.before_iff.mp hcw))
  obtain ⟨sf, esf, rsf⟩ := isR_v (Cond.before_iff.mp (hsets _ (List.mem_of_getElem? (i := 8) rfl)))
  have Ssf : Sta s s.heap "jdk/internal/util/Preconditions" "SIOOBE_FORMATTER" "Ljava/util/function/BiFunction;" sf := Sta.start esf (Or.inl (hsets _ (List.mem_of_getElem? (i := 7) rfl)))
  obtain ⟨em, evem⟩ := exa_v (Cond.before_iff.mp (hsets _ (List.mem_of_getElem? (i := 11) rfl)))
  have Sem : Sta s s.heap "java/util/ImmutableCollections" "EMPTY" "Ljava/lang/Object;" (.ref em) := Sta.start evem (Or.inl (hsets _ (List.mem_of_getElem? (i := 10) rfl)))
  have Eem : Exa s s.heap em "java/lang/Object" := Exa.start evem (Cond.before_iff.mp (hsets _ (List.mem_of_getElem? (i := 11) rfl)))
  obtain ⟨li0, evli⟩ := exa_v hn_4
  have Eli : Exa s s.heap li0 "java/util/ImmutableCollections$ListN" := Exa.start evli hn_4
  have Fli : Fld s s.heap a_DENY "com/example/portcullis/portcullis/authorization/Vote" "reasons" "Ljava/util/List;" (.ref li0) := Fld.start ((fld_at eva_DENY).symm.trans evli)
  obtain ⟨es0, eves⟩ := arr_v hn_6
  have Fes : Fld s s.heap li0 "java/util/ImmutableCollections$ListN" "elements" "[Ljava/lang/Object;" (.ref es0) := Fld.start ((fld_at evli).symm.trans eves)
  obtain ⟨ka, Aes⟩ := own_arr0 (dv := .null) hfit eves hn_6 (own_eqInt hn_7)
  obtain ⟨n, o, h1, h2, h3, _, L, rfl, ⟨rfl, N, -⟩, -, hq⟩ := rm0 l s _ hw tables_1 i0 i1 i2 i3 i4 cs em a_DENY li0 es0 ka s.heap s.heap.size (Nat.le_refl _) (Old.start s) Scs hcs Sem Eem Sa_DENY Ea_DENY Fa_DENY_allowed Fli Eli Fes Aes p e ha hc hk s m _ below hf ((Spec.applies_iff_loose hf).mp happ).1 ⟨rfl, State.Warmed39.refl s, rfl, (CHv.start (own_EW hw) (fun p hp => hcalls.1 p hp) hcw (own_w hw 19 rfl) (own_w hw 5 rfl))⟩ trivial
  refine ⟨n, _, h1, h2, h3, hpost _ _ _ _ _ _ ⟨Cond.after_iff.mpr rfl, Cond.after_iff.mpr (eq_i res_at (Term.int_eval (1)) rfl), trivial⟩ ⟨hq.1, hq.2.1, hq.2.2.1, (hq.2.2.2.sift fun y hy => Or.inr (N y hy)).mono (by decide) (by decide)⟩⟩
theorem main_1_1 : Claimed_1_1 := comes_1 fun _ _ _ _ _ _ h hF => ⟨h.1, hF⟩
theorem main_1_2 : Claimed_1_2 := comes_1 fun _ _ _ _ _ _ h hF => ⟨h.2.1, hF⟩
end Jvm.Pilot.@@N@@
namespace Jvm.Pilot.@@N@@
open Jvm Jvm.ClassFile Sem Op Lib Jvm.Free Jvm.Stand Jvm.Pilot.@@N@@.Jvm.D
/-! MADE BY PROGRAM (witnessworld.py) out of the Statement's table words and the real class files: 34 classes; the members and pool entries that the words name. The judged class is class 1, her method 2. -/
namespace start1
open Jvm.ClassFile
def u (s : String) : CpInfo := .utf8 (stringToUtf16 s)
/-- a pool by its gaps: so many unusable entries, then the entry; so many at the end -/
def gap : Nat → List CpInfo → List CpInfo
  | 0, r => r
  | n + 1, r => .unusable :: gap n r
def poolList (es : List (Nat × CpInfo)) (last : Nat) : List CpInfo := es.foldr (fun e r => gap e.1 (e.2 :: r)) (gap last [])
def pool (es : List (Nat × CpInfo)) (last : Nat) : Array CpInfo := ⟨poolList es last⟩
def fileOf (pool : Array CpInfo) (this : Nat) (attrs : Array Attribute := #[]) (ms : Array MethodInfo := #[]) (fl : Nat := 33) (sup : Nat := 0) (ifs : Array Nat := #[]) (fds : Array FieldInfo := #[]) : ClassFile where
  minorVersion := 0
  majorVersion := 65
  constantPool := pool
  accessFlags := fl
  thisClass := this
  superClass := sup
  interfaces := ifs
  fields := fds
  methods := ms
  attributes := attrs
def plain (name : String) (sup : Option ClassId) : Class where
  name := name
  kind := .ordinary
  loader := none
  accessFlags := 33
  super := sup
  interfaces := #[]
  cf := none
  fields := #[]
  methods := #[]
  instanceTypes := #[]
  staticTypes := #[]
  resolved := #[]
  callSites := []
  init := .initialized
  statics := none
  mirror := none

def pool0 : Array CpInfo := pool [(5, u "<init>"), (0, u "()V"), (1, .class_ 10), (1, u "java/lang/Object")] 113

def k0c0 : Code := { maxStack := 0, maxLocals := 1, code := object_method_1_code, exceptionTable := #[], attributes := #[] }
def k0m0 : Method := { name := "<init>", desc := "()V", sig := { parameters := [], returnType := none }, accessFlags := 1, code := some k0c0 }
/-- java/lang/Object -/
def k0 : Class := { plain "java/lang/Object" none with
  accessFlags := 33
  interfaces := #[]
  cf := some (fileOf pool0 8 #[] #[{ accessFlags := 1, nameIndex := 5, descriptorIndex := 6, attributes := #[] }] 33 0 #[] #[])
  fields := #[]
  methods := #[k0m0]
  instanceTypes := #[]
  staticTypes := #[]
  resolved := Array.replicate 124 none
  statics := none }

def pool1 : Array CpInfo := pool [(2, .class_ 4), (1, u "java/lang/Object"), (0, u "<init>"), (0, u "()V"), (0, .class_ 8), (0, u "java/lang/String"), (0, .methodref 7 10), (0, .nameAndType 5 11), (0, u "([C)V"), (0, .methodref 7 13), (0, .nameAndType 14 15), (0, u "valueOf"), (0, u "(C)Ljava/lang/String;"), (0, .methodref 17 18), (0, .class_ 19), (0, .nameAndType 20 21), (0, u "com/example/portcullis/portcullis/authorization/VoteDenyPinLaw"), (0, u "mk"), (0, u "(II)Ljava/lang/String;"), (0, .methodref 23 24), (0, .class_ 25), (0, .nameAndType 26 27), (0, u "com/example/portcullis/portcullis/authorization/Vote"), (0, u "deny"), (0, u "([Ljava/lang/String;)Lcom/example/portcullis/portcullis/authorization/Vote;"), (0, .methodref 23 29), (0, .nameAndType 30 31), (0, u "isAllowed"), (0, u "()Z"), (0, .methodref 23 33), (0, .nameAndType 34 35), (0, u "reasons"), (0, u "()Ljava/util/List;"), (0, .interfaceMethodref 37 38), (0, .class_ 39), (0, .nameAndType 40 41), (0, u "java/util/List"), (0, u "size"), (0, u "()I"), (0, .interfaceMethodref 37 43), (0, .nameAndType 44 45), (0, u "get"), (0, u "(I)Ljava/lang/Object;"), (0, .methodref 7 47), (0, .nameAndType 48 49), (0, u "equals"), (0, u "(Ljava/lang/Object;)Z"), (3, u "law"), (0, u "(IIIII)Z")] 4

def k1m0 : Method := { name := "<init>", desc := "()V", sig := { parameters := [], returnType := none }, accessFlags := 1, code := none }
def k1c1 : Code := { maxStack := 7, maxLocals := 2, code := method_2_code, exceptionTable := #[], attributes := #[] }
def k1m1 : Method := { name := "mk", desc := "(II)Ljava/lang/String;", sig := { parameters := [.int, .int], returnType := some (.object "java/lang/String") }, accessFlags := 10, code := some k1c1 }
def k1c2 : Code := { maxStack := 6, maxLocals := 13, code := code, exceptionTable := #[], attributes := #[] }
def k1m2 : Method := { name := "law", desc := "(IIIII)Z", sig := { parameters := [.int, .int, .int, .int, .int], returnType := some .boolean }, accessFlags := 9, code := some k1c2 }
/-- com/example/portcullis/portcullis/authorization/VoteDenyPinLaw -/
def k1 : Class := { plain "com/example/portcullis/portcullis/authorization/VoteDenyPinLaw" (some 0) with
  accessFlags := 49
  interfaces := #[]
  cf := some (fileOf pool1 17 #[] #[{ accessFlags := 1, nameIndex := 5, descriptorIndex := 6, attributes := #[] }, { accessFlags := 10, nameIndex := 20, descriptorIndex := 21, attributes := #[] }, { accessFlags := 9, nameIndex := 53, descriptorIndex := 54, attributes := #[] }] 49 2 #[] #[])
  fields := #[]
  methods := #[k1m0, k1m1, k1m2]
  instanceTypes := #[]
  staticTypes := #[]
  resolved := Array.replicate 59 none
  statics := none }

def pool2 : Array CpInfo := pool [(1, .class_ 2), (0, u "java/io/Serializable"), (0, .class_ 4), (0, u "java/lang/Object")] 2

/-- java/io/Serializable -/
def k2 : Class := { plain "java/io/Serializable" (some 0) with
  accessFlags := 1537
  interfaces := #[]
  cf := some (fileOf pool2 1 #[] #[] 1537 3 #[] #[])
  fields := #[]
  methods := #[]
  instanceTypes := #[]
  staticTypes := #[]
  resolved := Array.replicate 7 none
  statics := none }

def pool3 : Array CpInfo := pool [(1, .class_ 2), (0, u "java/lang/Comparable"), (0, .class_ 4), (0, u "java/lang/Object")] 7

/-- java/lang/Comparable -/
def k3 : Class := { plain "java/lang/Comparable" (some 0) with
  accessFlags := 1537
  interfaces := #[]
  cf := some (fileOf pool3 1 #[] #[] 1537 3 #[] #[])
  fields := #[]
  methods := #[]
  instanceTypes := #[]
  staticTypes := #[]
  resolved := Array.replicate 12 none
  statics := none }

def pool4 : Array CpInfo := pool [(2, .class_ 4), (1, u "java/lang/CharSequence"), (42, .class_ 48), (0, u "java/lang/CharSequence$1CodePointIterator"), (10, .class_ 60), (0, u "java/lang/CharSequence$1CharIterator"), (5, .class_ 67), (0, u "java/lang/Object")] 63

/-- java/lang/CharSequence -/
def k4 : Class := { plain "java/lang/CharSequence" (some 0) with
  accessFlags := 1537
  interfaces := #[]
  cf := some (fileOf pool4 2 #[.nestMembers #[47, 59]] #[] 1537 66 #[] #[])
  fields := #[]
  methods := #[]
  instanceTypes := #[]
  staticTypes := #[]
  resolved := Array.replicate 131 none
  statics := none }

def pool5 : Array CpInfo := pool [(1, .class_ 2), (0, u "java/lang/constant/Constable"), (0, .class_ 4), (0, u "java/lang/Object")] 6

/-- java/lang/constant/Constable -/
def k5 : Class := { plain "java/lang/constant/Constable" (some 0) with
  accessFlags := 1537
  interfaces := #[]
  cf := some (fileOf pool5 1 #[] #[] 1537 3 #[] #[])
  fields := #[]
  methods := #[]
  instanceTypes := #[]
  staticTypes := #[]
  resolved := Array.replicate 11 none
  statics := none }

def pool6 : Array CpInfo := pool [(1, .class_ 2), (0, u "java/lang/constant/ConstantDesc"), (0, .class_ 4), (0, u "java/lang/Object")] 32

/-- java/lang/constant/ConstantDesc -/
def k6 : Class := { plain "java/lang/constant/ConstantDesc" (some 0) with
  accessFlags := 1537
  interfaces := #[]
  cf := some (fileOf pool6 1 #[] #[] 1537 3 #[] #[])
  fields := #[]
  methods := #[]
  instanceTypes := #[]
  staticTypes := #[]
  resolved := Array.replicate 37 none
  statics := none }

def pool7 : Array CpInfo := pool [(1, .methodref 2 3), (0, .class_ 4), (0, .nameAndType 5 6), (0, u "java/lang/Object"), (0, u "<init>"), (0, u "()V"), (0, .string 8), (0, u ""), (0, .fieldref 10 11), (0, .class_ 12), (0, .nameAndType 13 14), (0, u "java/lang/String"), (0, u "value"), (0, u "[B"), (0, .fieldref 10 16), (0, .nameAndType 17 18), (0, u "coder"), (0, u "B"), (2, u "hash"), (0, u "I"), (2, u "hashIsZero"), (0, u "Z"), (0, .methodref 10 28), (0, .nameAndType 5 29), (0, u "([CIILjava/lang/Void;)V"), (8, .fieldref 10 39), (0, .nameAndType 40 26), (0, u "COMPACT_STRINGS"), (1, .class_ 44), (1, u "java/lang/StringUTF16"), (0, u "compress"), (1, .methodref 42 48), (0, .nameAndType 49 50), (0, u "coderFromArrayLen"), (0, u "([BI)B"), (2, u "toBytes"), (53, .class_ 109), (1, u "java/lang/StringLatin1"), (67, .methodref 42 178), (0, .nameAndType 45 179), (0, u "([CII)[B"), (29, .methodref 10 210), (0, .nameAndType 5 211), (0, u "([BB)V"), (157, u "(C)Z"), (173, u "equals"), (29, u "(Ljava/lang/Object;)Z"), (1, .class_ 576), (0, u "java/lang/CharSequence"), (22, u "CASE_INSENSITIVE_ORDER"), (0, u "Ljava/util/Comparator;"), (181, u "valueOf"), (0, u "(C)Ljava/lang/String;"), (226, u "([C)V"), (4, .methodref 107 1016), (0, .nameAndType 1017 369), (0, u "canEncode"), (0, .methodref 107 1019), (0, .nameAndType 53 1020), (0, u "(C)[B"), (80, u "serialPersistentFields"), (0, u "[Ljava/io/ObjectStreamField;"), (0, .class_ 1104), (0, u "java/lang/String$CaseInsensitiveComparator"), (1, .class_ 1107), (0, u "java/io/Serializable"), (0, .class_ 1109), (0, u "java/lang/Comparable"), (0, .class_ 1111), (0, u "java/lang/constant/Constable"), (0, .class_ 1113), (0, u "java/lang/constant/ConstantDesc"), (2, u "serialVersionUID"), (0, u "J"), (3, u "REPL"), (0, u "C"), (2, u "LATIN1"), (1, u "UTF16")] 323

def k7m0 : Method := { name := "<init>", desc := "()V", sig := { parameters := [], returnType := none }, accessFlags := 1, code := none }
def k7c1 : Code := { maxStack := 5, maxLocals := 2, code := jdk_42_method_3_code, exceptionTable := #[], attributes := #[] }
def k7m1 : Method := { name := "<init>", desc := "([C)V", sig := { parameters := [(.array .char)], returnType := none }, accessFlags := 1, code := some k7c1 }
def k7c2 : Code := { maxStack := 2, maxLocals := 3, code := jdk_42_method_66_code, exceptionTable := #[], attributes := #[] }
def k7m2 : Method := { name := "equals", desc := "(Ljava/lang/Object;)Z", sig := { parameters := [(.object "java/lang/Object")], returnType := some .boolean }, accessFlags := 1, code := some k7c2 }
def k7c3 : Code := { maxStack := 4, maxLocals := 1, code := jdk_42_method_139_code, exceptionTable := #[], attributes := #[] }
def k7m3 : Method := { name := "valueOf", desc := "(C)Ljava/lang/String;", sig := { parameters := [.char], returnType := some (.object "java/lang/String") }, accessFlags := 9, code := some k7c3 }
def k7c4 : Code := { maxStack := 4, maxLocals := 6, code := jdk_42_method_149_code, exceptionTable := #[], attributes := #[] }
def k7m4 : Method := { name := "<init>", desc := "([CIILjava/lang/Void;)V", sig := { parameters := [(.array .char), .int, .int, (.object "java/lang/Void")], returnType := none }, accessFlags := 2, code := some k7c4 }
def k7c5 : Code := { maxStack := 2, maxLocals := 3, code := jdk_42_method_151_code, exceptionTable := #[], attributes := #[] }
def k7m5 : Method := { name := "<init>", desc := "([BB)V", sig := { parameters := [(.array .byte), .byte], returnType := none }, accessFlags := 0, code := some k7c5 }
/-- java/lang/String -/
def k7 : Class := { plain "java/lang/String" (some 0) with
  accessFlags := 49
  interfaces := #[2, 3, 4, 5, 6]
  cf := some (fileOf pool7 10 #[.nestMembers #[1103]] #[{ accessFlags := 1, nameIndex := 5, descriptorIndex := 6, attributes := #[] }, { accessFlags := 1, nameIndex := 5, descriptorIndex := 1010, attributes := #[] }, { accessFlags := 1, nameIndex := 543, descriptorIndex := 573, attributes := #[] }, { accessFlags := 9, nameIndex := 782, descriptorIndex := 783, attributes := #[] }, { accessFlags := 2, nameIndex := 5, descriptorIndex := 29, attributes := #[] }, { accessFlags := 0, nameIndex := 5, descriptorIndex := 211, attributes := #[] }] 49 2 #[1106, 1108, 575, 1110, 1112] #[{ accessFlags := 18, nameIndex := 13, descriptorIndex := 14, attributes := #[] }, { accessFlags := 18, nameIndex := 17, descriptorIndex := 18, attributes := #[] }, { accessFlags := 2, nameIndex := 21, descriptorIndex := 22, attributes := #[] }, { accessFlags := 2, nameIndex := 25, descriptorIndex := 26, attributes := #[] }, { accessFlags := 26, nameIndex := 1116, descriptorIndex := 1117, attributes := #[] }, { accessFlags := 24, nameIndex := 40, descriptorIndex := 26, attributes := #[] }, { accessFlags := 26, nameIndex := 1101, descriptorIndex := 1102, attributes := #[] }, { accessFlags := 26, nameIndex := 1121, descriptorIndex := 1122, attributes := #[] }, { accessFlags := 25, nameIndex := 599, descriptorIndex := 600, attributes := #[] }, { accessFlags := 24, nameIndex := 1125, descriptorIndex := 18, attributes := #[] }, { accessFlags := 24, nameIndex := 1127, descriptorIndex := 18, attributes := #[] }])
  fields := #[{ name := "value", type := (.array .byte), accessFlags := 18, slot := 0, constantValue := 0 }, { name := "coder", type := .byte, accessFlags := 18, slot := 1, constantValue := 0 }, { name := "hash", type := .int, accessFlags := 2, slot := 2, constantValue := 0 }, { name := "hashIsZero", type := .boolean, accessFlags := 2, slot := 3, constantValue := 0 }, { name := "serialVersionUID", type := .long, accessFlags := 26, slot := 0, constantValue := 0 }, { name := "COMPACT_STRINGS", type := .boolean, accessFlags := 24, slot := 1, constantValue := 0 }, { name := "serialPersistentFields", type := (.array (.object "java/io/ObjectStreamField")), accessFlags := 26, slot := 2, constantValue := 0 }, { name := "REPL", type := .char, accessFlags := 26, slot := 3, constantValue := 0 }, { name := "CASE_INSENSITIVE_ORDER", type := (.object "java/util/Comparator"), accessFlags := 25, slot := 4, constantValue := 0 }, { name := "LATIN1", type := .byte, accessFlags := 24, slot := 5, constantValue := 0 }, { name := "UTF16", type := .byte, accessFlags := 24, slot := 6, constantValue := 0 }]
  methods := #[k7m0, k7m1, k7m2, k7m3, k7m4, k7m5]
  instanceTypes := #[(.array .byte), .byte, .int, .boolean]
  staticTypes := #[.long, .boolean, (.array (.object "java/io/ObjectStreamField")), .char, (.object "java/util/Comparator"), .byte, .byte]
  resolved := Array.replicate 1451 none
  statics := some 0 }

def pool8 : Array CpInfo := pool [(6, .class_ 8), (1, u "java/lang/Object"), (0, u "<init>"), (0, u "()V"), (1, .class_ 14), (1, u "java/lang/StringUTF16"), (31, u "$assertionsDisabled"), (0, u "Z"), (13, u "HI_BYTE_SHIFT"), (0, u "I"), (2, u "LO_BYTE_SHIFT"), (49, .methodref 12 116), (0, .nameAndType 117 118), (0, u "compress"), (0, u "([CI[BII)I"), (3, u "([CII)[B"), (138, u "coderFromArrayLen"), (0, u "([BI)B"), (106, .class_ 371), (1, u "java/lang/StringUTF16$LinesSpliterator"), (58, u "MAX_LENGTH"), (196, .class_ 628), (0, u "java/lang/StringUTF16$CodePointsSpliterator"), (0, .class_ 630), (0, u "java/lang/StringUTF16$CharsSpliterator")] 4

def k8m0 : Method := { name := "<init>", desc := "()V", sig := { parameters := [], returnType := none }, accessFlags := 0, code := none }
def k8c1 : Code := { maxStack := 2, maxLocals := 2, code := jdk_52_method_15_code, exceptionTable := #[], attributes := #[] }
def k8m1 : Method := { name := "coderFromArrayLen", desc := "([BI)B", sig := { parameters := [(.array .byte), .int], returnType := some .byte }, accessFlags := 8, code := some k8c1 }
def k8c2 : Code := { maxStack := 5, maxLocals := 6, code := jdk_52_method_16_code, exceptionTable := #[], attributes := #[] }
def k8m2 : Method := { name := "compress", desc := "([CII)[B", sig := { parameters := [(.array .char), .int, .int], returnType := some (.array .byte) }, accessFlags := 9, code := some k8c2 }
def k8c3 : Code := { maxStack := 3, maxLocals := 7, code := jdk_52_method_21_code, exceptionTable := #[], attributes := #[] }
def k8m3 : Method := { name := "compress", desc := "([CI[BII)I", sig := { parameters := [(.array .char), .int, (.array .byte), .int, .int], returnType := some .int }, accessFlags := 9, code := some k8c3 }
/-- java/lang/StringUTF16 -/
def k8 : Class := { plain "java/lang/StringUTF16" (some 0) with
  accessFlags := 48
  interfaces := #[]
  cf := some (fileOf pool8 12 #[.nestMembers #[627, 629, 369]] #[{ accessFlags := 0, nameIndex := 9, descriptorIndex := 10, attributes := #[] }, { accessFlags := 8, nameIndex := 261, descriptorIndex := 262, attributes := #[] }, { accessFlags := 9, nameIndex := 117, descriptorIndex := 122, attributes := #[] }, { accessFlags := 9, nameIndex := 117, descriptorIndex := 118, attributes := #[] }] 48 6 #[] #[{ accessFlags := 26, nameIndex := 61, descriptorIndex := 62, attributes := #[] }, { accessFlags := 26, nameIndex := 65, descriptorIndex := 62, attributes := #[] }, { accessFlags := 24, nameIndex := 430, descriptorIndex := 62, attributes := #[] }, { accessFlags := 4120, nameIndex := 46, descriptorIndex := 47, attributes := #[] }])
  fields := #[{ name := "HI_BYTE_SHIFT", type := .int, accessFlags := 26, slot := 0, constantValue := 0 }, { name := "LO_BYTE_SHIFT", type := .int, accessFlags := 26, slot := 1, constantValue := 0 }, { name := "MAX_LENGTH", type := .int, accessFlags := 24, slot := 2, constantValue := 0 }, { name := "$assertionsDisabled", type := .boolean, accessFlags := 4120, slot := 3, constantValue := 0 }]
  methods := #[k8m0, k8m1, k8m2, k8m3]
  instanceTypes := #[]
  staticTypes := #[.int, .int, .int, .boolean]
  resolved := Array.replicate 635 none
  statics := none }

def pool9 : Array CpInfo := pool [(1, .methodref 2 3), (0, .class_ 4), (0, .nameAndType 5 6), (0, u "java/lang/Object"), (0, u "<init>"), (0, u "()V"), (0, .fieldref 8 9), (0, .class_ 10), (0, .nameAndType 11 12), (0, u "com/example/portcullis/portcullis/authorization/Vote"), (0, u "allowed"), (0, u "Z"), (0, .fieldref 8 14), (0, .nameAndType 15 16), (0, u "reasons"), (0, u "Ljava/util/List;"), (2, u "ALLOW"), (0, u "Lcom/example/portcullis/portcullis/authorization/Vote;"), (0, .fieldref 8 22), (0, .nameAndType 23 20), (0, u "DENY"), (0, .interfaceMethodref 25 26), (0, .class_ 27), (0, .nameAndType 28 29), (0, u "java/util/List"), (0, u "of"), (0, u "([Ljava/lang/Object;)Ljava/util/List;"), (0, .methodref 8 31), (0, .nameAndType 5 32), (0, u "(ZLjava/util/List;)V"), (2, u "()Ljava/util/List;"), (7, u "deny"), (0, u "([Ljava/lang/String;)Lcom/example/portcullis/portcullis/authorization/Vote;"), (1, u "isAllowed"), (0, u "()Z")] 4

def k9c0 : Code := { maxStack := 2, maxLocals := 3, code := prog_20_method_1_code, exceptionTable := #[], attributes := #[] }
def k9m0 : Method := { name := "<init>", desc := "(ZLjava/util/List;)V", sig := { parameters := [.boolean, (.object "java/util/List")], returnType := none }, accessFlags := 2, code := some k9c0 }
def k9c1 : Code := { maxStack := 4, maxLocals := 1, code := prog_20_method_3_code, exceptionTable := #[], attributes := #[] }
def k9m1 : Method := { name := "deny", desc := "([Ljava/lang/String;)Lcom/example/portcullis/portcullis/authorization/Vote;", sig := { parameters := [(.array (.object "java/lang/String"))], returnType := some (.object "com/example/portcullis/portcullis/authorization/Vote") }, accessFlags := 137, code := some k9c1 }
def k9c2 : Code := { maxStack := 1, maxLocals := 1, code := prog_20_method_4_code, exceptionTable := #[], attributes := #[] }
def k9m2 : Method := { name := "isAllowed", desc := "()Z", sig := { parameters := [], returnType := some .boolean }, accessFlags := 1, code := some k9c2 }
def k9c3 : Code := { maxStack := 1, maxLocals := 1, code := prog_20_method_5_code, exceptionTable := #[], attributes := #[] }
def k9m3 : Method := { name := "reasons", desc := "()Ljava/util/List;", sig := { parameters := [], returnType := some (.object "java/util/List") }, accessFlags := 1, code := some k9c3 }
/-- com/example/portcullis/portcullis/authorization/Vote -/
def k9 : Class := { plain "com/example/portcullis/portcullis/authorization/Vote" (some 0) with
  accessFlags := 49
  interfaces := #[]
  cf := some (fileOf pool9 8 #[] #[{ accessFlags := 2, nameIndex := 5, descriptorIndex := 32, attributes := #[] }, { accessFlags := 137, nameIndex := 43, descriptorIndex := 44, attributes := #[] }, { accessFlags := 1, nameIndex := 46, descriptorIndex := 47, attributes := #[] }, { accessFlags := 1, nameIndex := 15, descriptorIndex := 35, attributes := #[] }] 49 2 #[] #[{ accessFlags := 26, nameIndex := 19, descriptorIndex := 20, attributes := #[] }, { accessFlags := 26, nameIndex := 23, descriptorIndex := 20, attributes := #[] }, { accessFlags := 18, nameIndex := 11, descriptorIndex := 12, attributes := #[] }, { accessFlags := 18, nameIndex := 15, descriptorIndex := 16, attributes := #[] }])
  fields := #[{ name := "ALLOW", type := (.object "com/example/portcullis/portcullis/authorization/Vote"), accessFlags := 26, slot := 0, constantValue := 0 }, { name := "DENY", type := (.object "com/example/portcullis/portcullis/authorization/Vote"), accessFlags := 26, slot := 1, constantValue := 0 }, { name := "allowed", type := .boolean, accessFlags := 18, slot := 0, constantValue := 0 }, { name := "reasons", type := (.object "java/util/List"), accessFlags := 18, slot := 1, constantValue := 0 }]
  methods := #[k9m0, k9m1, k9m2, k9m3]
  instanceTypes := #[.boolean, (.object "java/util/List")]
  staticTypes := #[(.object "com/example/portcullis/portcullis/authorization/Vote"), (.object "com/example/portcullis/portcullis/authorization/Vote")]
  resolved := Array.replicate 52 none
  statics := some 1 }

def pool10 : Array CpInfo := pool [(8, .class_ 10), (1, u "java/lang/Iterable"), (24, .class_ 36), (0, u "java/lang/Object")] 25

/-- java/lang/Iterable -/
def k10 : Class := { plain "java/lang/Iterable" (some 0) with
  accessFlags := 1537
  interfaces := #[]
  cf := some (fileOf pool10 8 #[] #[] 1537 35 #[] #[])
  fields := #[]
  methods := #[]
  instanceTypes := #[]
  staticTypes := #[]
  resolved := Array.replicate 62 none
  statics := none }

def pool11 : Array CpInfo := pool [(10, .class_ 12), (1, u "java/util/Collection"), (47, .class_ 61), (0, u "java/lang/Object"), (0, .class_ 63), (0, u "java/lang/Iterable")] 51

/-- java/util/Collection -/
def k11 : Class := { plain "java/util/Collection" (some 0) with
  accessFlags := 1537
  interfaces := #[10]
  cf := some (fileOf pool11 10 #[] #[] 1537 60 #[62] #[])
  fields := #[]
  methods := #[]
  instanceTypes := #[]
  staticTypes := #[]
  resolved := Array.replicate 115 none
  statics := none }

def pool12 : Array CpInfo := pool [(8, .class_ 10), (1, u "java/util/SequencedCollection"), (15, .class_ 27), (0, u "java/lang/Object"), (0, .class_ 29), (0, u "java/util/Collection")] 27

/-- java/util/SequencedCollection -/
def k12 : Class := { plain "java/util/SequencedCollection" (some 0) with
  accessFlags := 1537
  interfaces := #[11]
  cf := some (fileOf pool12 8 #[] #[] 1537 26 #[28] #[])
  fields := #[]
  methods := #[]
  instanceTypes := #[]
  staticTypes := #[]
  resolved := Array.replicate 57 none
  statics := none }

def pool13 : Array CpInfo := pool [(8, .class_ 10), (1, u "java/util/List"), (20, u "(Ljava/lang/Object;)V"), (16, u "<init>"), (26, u "get"), (0, u "(I)Ljava/lang/Object;"), (2, u "size"), (0, u "()I"), (7, u "of"), (2, .class_ 93), (1, u "java/util/ImmutableCollections"), (2, .class_ 97), (0, u "java/util/ImmutableCollections$List12"), (0, .methodref 96 99), (0, .nameAndType 48 31), (0, .methodref 96 101), (0, .nameAndType 48 102), (0, u "(Ljava/lang/Object;Ljava/lang/Object;)V"), (0, .class_ 104), (0, u "java/lang/Object"), (3, u "([Ljava/lang/Object;)Ljava/util/List;"), (0, .methodref 91 110), (0, .nameAndType 111 108), (0, u "listFromArray"), (8, .class_ 121), (0, u "java/util/SequencedCollection")] 129

def k13m0 : Method := { name := "size", desc := "()I", sig := { parameters := [], returnType := some .int }, accessFlags := 1025, code := none }
def k13m1 : Method := { name := "get", desc := "(I)Ljava/lang/Object;", sig := { parameters := [.int], returnType := some (.object "java/lang/Object") }, accessFlags := 1025, code := none }
def k13c2 : Code := { maxStack := 5, maxLocals := 2, code := jdk_40_method_47_code, exceptionTable := #[], attributes := #[] }
def k13m2 : Method := { name := "of", desc := "([Ljava/lang/Object;)Ljava/util/List;", sig := { parameters := [(.array (.object "java/lang/Object"))], returnType := some (.object "java/util/List") }, accessFlags := 137, code := some k13c2 }
/-- java/util/List -/
def k13 : Class := { plain "java/util/List" (some 0) with
  accessFlags := 1537
  interfaces := #[12]
  cf := some (fileOf pool13 8 #[] #[{ accessFlags := 1025, nameIndex := 79, descriptorIndex := 80, attributes := #[] }, { accessFlags := 1025, nameIndex := 75, descriptorIndex := 76, attributes := #[] }, { accessFlags := 137, nameIndex := 88, descriptorIndex := 108, attributes := #[] }] 1537 103 #[120] #[])
  fields := #[]
  methods := #[k13m0, k13m1, k13m2]
  instanceTypes := #[]
  staticTypes := #[]
  resolved := Array.replicate 251 none
  statics := none }

def pool14 : Array CpInfo := pool [(1, .methodref 2 3), (0, .class_ 4), (0, .nameAndType 5 6), (0, u "java/lang/Object"), (0, u "<init>"), (0, u "()V"), (1, .class_ 10), (1, u "java/util/AbstractCollection"), (66, .class_ 78), (0, u "java/util/Collection")] 81

def k14c0 : Code := { maxStack := 1, maxLocals := 1, code := jdk_22_method_1_code, exceptionTable := #[], attributes := #[] }
def k14m0 : Method := { name := "<init>", desc := "()V", sig := { parameters := [], returnType := none }, accessFlags := 4, code := some k14c0 }
/-- java/util/AbstractCollection -/
def k14 : Class := { plain "java/util/AbstractCollection" (some 0) with
  accessFlags := 1057
  interfaces := #[11]
  cf := some (fileOf pool14 8 #[] #[{ accessFlags := 4, nameIndex := 5, descriptorIndex := 6, attributes := #[] }] 1057 2 #[77] #[])
  fields := #[]
  methods := #[k14m0]
  instanceTypes := #[]
  staticTypes := #[]
  resolved := Array.replicate 160 none
  statics := none }

def pool15 : Array CpInfo := pool [(1, .methodref 2 3), (0, .class_ 4), (0, .nameAndType 5 6), (0, u "java/util/AbstractCollection"), (0, u "<init>"), (0, u "()V"), (1, .class_ 10), (1, u "java/util/ImmutableCollections"), (2, .class_ 14), (0, u "java/util/ImmutableCollections$AbstractImmutableCollection")] 41

def k15c0 : Code := { maxStack := 1, maxLocals := 1, code := jdk_47_method_1_code, exceptionTable := #[], attributes := #[] }
def k15m0 : Method := { name := "<init>", desc := "()V", sig := { parameters := [], returnType := none }, accessFlags := 0, code := some k15c0 }
/-- java/util/ImmutableCollections$AbstractImmutableCollection -/
def k15 : Class := { plain "java/util/ImmutableCollections$AbstractImmutableCollection" (some 14) with
  accessFlags := 1056
  interfaces := #[]
  cf := some (fileOf pool15 13 #[.nestHost 8] #[{ accessFlags := 0, nameIndex := 5, descriptorIndex := 6, attributes := #[] }] 1056 2 #[] #[])
  fields := #[]
  methods := #[k15m0]
  instanceTypes := #[]
  staticTypes := #[]
  resolved := Array.replicate 56 none
  statics := none }

def pool16 : Array CpInfo := pool [(1, .class_ 2), (0, u "java/util/RandomAccess"), (0, .class_ 4), (0, u "java/lang/Object")] 2

/-- java/util/RandomAccess -/
def k16 : Class := { plain "java/util/RandomAccess" (some 0) with
  accessFlags := 1537
  interfaces := #[]
  cf := some (fileOf pool16 1 #[] #[] 1537 3 #[] #[])
  fields := #[]
  methods := #[]
  instanceTypes := #[]
  staticTypes := #[]
  resolved := Array.replicate 7 none
  statics := none }

def pool17 : Array CpInfo := pool [(1, .methodref 2 3), (0, .class_ 4), (0, .nameAndType 5 6), (0, u "java/util/ImmutableCollections$AbstractImmutableCollection"), (0, u "<init>"), (0, u "()V"), (1, .class_ 10), (1, u "java/util/ImmutableCollections"), (3, .class_ 16), (1, u "java/util/ImmutableCollections$AbstractImmutableList"), (60, .class_ 78), (0, u "java/util/List"), (45, .class_ 125), (0, u "java/util/RandomAccess")] 70

def k17c0 : Code := { maxStack := 1, maxLocals := 1, code := jdk_46_method_1_code, exceptionTable := #[], attributes := #[] }
def k17m0 : Method := { name := "<init>", desc := "()V", sig := { parameters := [], returnType := none }, accessFlags := 0, code := some k17c0 }
/-- java/util/ImmutableCollections$AbstractImmutableList -/
def k17 : Class := { plain "java/util/ImmutableCollections$AbstractImmutableList" (some 15) with
  accessFlags := 1056
  interfaces := #[13, 16]
  cf := some (fileOf pool17 14 #[.nestHost 8] #[{ accessFlags := 0, nameIndex := 5, descriptorIndex := 6, attributes := #[] }] 1056 2 #[77, 124] #[])
  fields := #[]
  methods := #[k17m0]
  instanceTypes := #[]
  staticTypes := #[]
  resolved := Array.replicate 196 none
  statics := none }

def pool18 : Array CpInfo := pool [(1, .methodref 2 3), (0, .class_ 4), (0, .nameAndType 5 6), (0, u "java/util/ImmutableCollections$AbstractImmutableList"), (0, u "<init>"), (0, u "()V"), (0, .fieldref 8 9), (0, .class_ 10), (0, .nameAndType 11 12), (0, u "java/util/ImmutableCollections$ListN"), (0, u "elements"), (0, u "[Ljava/lang/Object;"), (0, .fieldref 8 14), (0, .nameAndType 15 16), (0, u "allowNulls"), (0, u "Z"), (42, .class_ 60), (0, u "java/io/Serializable"), (4, u "([Ljava/lang/Object;Z)V"), (11, u "size"), (0, u "()I"), (0, u "get"), (0, u "(I)Ljava/lang/Object;"), (33, .class_ 115), (0, u "java/util/ImmutableCollections")] 3

def k18c0 : Code := { maxStack := 2, maxLocals := 3, code := jdk_45_method_1_code, exceptionTable := #[], attributes := #[] }
def k18m0 : Method := { name := "<init>", desc := "([Ljava/lang/Object;Z)V", sig := { parameters := [(.array (.object "java/lang/Object")), .boolean], returnType := none }, accessFlags := 2, code := some k18c0 }
def k18c1 : Code := { maxStack := 1, maxLocals := 1, code := jdk_45_method_3_code, exceptionTable := #[], attributes := #[] }
def k18m1 : Method := { name := "size", desc := "()I", sig := { parameters := [], returnType := some .int }, accessFlags := 1, code := some k18c1 }
def k18c2 : Code := { maxStack := 2, maxLocals := 2, code := jdk_45_method_4_code, exceptionTable := #[], attributes := #[] }
def k18m2 : Method := { name := "get", desc := "(I)Ljava/lang/Object;", sig := { parameters := [.int], returnType := some (.object "java/lang/Object") }, accessFlags := 1, code := some k18c2 }
/-- java/util/ImmutableCollections$ListN -/
def k18 : Class := { plain "java/util/ImmutableCollections$ListN" (some 17) with
  accessFlags := 48
  interfaces := #[2]
  cf := some (fileOf pool18 8 #[.nestHost 114] #[{ accessFlags := 2, nameIndex := 5, descriptorIndex := 65, attributes := #[] }, { accessFlags := 1, nameIndex := 77, descriptorIndex := 78, attributes := #[] }, { accessFlags := 1, nameIndex := 79, descriptorIndex := 80, attributes := #[] }] 48 2 #[59] #[{ accessFlags := 18, nameIndex := 11, descriptorIndex := 12, attributes := #[] }, { accessFlags := 18, nameIndex := 15, descriptorIndex := 16, attributes := #[] }])
  fields := #[{ name := "elements", type := (.array (.object "java/lang/Object")), accessFlags := 18, slot := 0, constantValue := 0 }, { name := "allowNulls", type := .boolean, accessFlags := 18, slot := 1, constantValue := 0 }]
  methods := #[k18m0, k18m1, k18m2]
  instanceTypes := #[(.array (.object "java/lang/Object")), .boolean]
  staticTypes := #[]
  resolved := Array.replicate 119 none
  statics := none }

def pool19 : Array CpInfo := pool [(4, .class_ 6), (1, u "java/lang/Object"), (0, u "<init>"), (0, u "()V"), (5, .class_ 16), (1, u "java/lang/StringLatin1"), (73, u "canEncode"), (14, u "(C)Z"), (15, u "$assertionsDisabled"), (0, u "Z"), (98, .class_ 223), (1, u "java/lang/StringLatin1$LinesSpliterator"), (156, u "toBytes"), (1, u "(C)[B"), (7, .class_ 391), (0, u "java/lang/StringLatin1$CharsSpliterator")] 3

def k19m0 : Method := { name := "<init>", desc := "()V", sig := { parameters := [], returnType := none }, accessFlags := 0, code := none }
def k19c1 : Code := { maxStack := 2, maxLocals := 1, code := jdk_43_method_3_code, exceptionTable := #[], attributes := #[] }
def k19m1 : Method := { name := "canEncode", desc := "(C)Z", sig := { parameters := [.char], returnType := some .boolean }, accessFlags := 9, code := some k19c1 }
def k19c2 : Code := { maxStack := 4, maxLocals := 1, code := jdk_43_method_46_code, exceptionTable := #[], attributes := #[] }
def k19m2 : Method := { name := "toBytes", desc := "(C)[B", sig := { parameters := [.char], returnType := some (.array .byte) }, accessFlags := 9, code := some k19c2 }
/-- java/lang/StringLatin1 -/
def k19 : Class := { plain "java/lang/StringLatin1" (some 0) with
  accessFlags := 48
  interfaces := #[]
  cf := some (fileOf pool19 14 #[.nestMembers #[390, 221]] #[{ accessFlags := 0, nameIndex := 7, descriptorIndex := 8, attributes := #[] }, { accessFlags := 9, nameIndex := 90, descriptorIndex := 105, attributes := #[] }, { accessFlags := 9, nameIndex := 380, descriptorIndex := 382, attributes := #[] }] 48 4 #[] #[{ accessFlags := 4120, nameIndex := 121, descriptorIndex := 122, attributes := #[] }])
  fields := #[{ name := "$assertionsDisabled", type := .boolean, accessFlags := 4120, slot := 0, constantValue := 0 }]
  methods := #[k19m0, k19m1, k19m2]
  instanceTypes := #[]
  staticTypes := #[.boolean]
  resolved := Array.replicate 395 none
  statics := none }

def pool20 : Array CpInfo := pool [(2, .class_ 4), (1, u "java/lang/Object"), (0, u "<init>"), (0, u "()V"), (3, .class_ 11), (0, u "java/util/ImmutableCollections$List12"), (0, .class_ 13), (0, u "java/util/ImmutableCollections$ListN"), (3, u "Z"), (18, u "([Ljava/lang/Object;)Ljava/util/List;"), (0, .methodref 38 39), (0, .class_ 40), (0, .nameAndType 41 42), (0, u "java/util/Objects"), (0, u "requireNonNull"), (0, u "(Ljava/lang/Object;)Ljava/lang/Object;"), (0, .methodref 12 44), (0, .nameAndType 5 45), (0, u "([Ljava/lang/Object;Z)V"), (1, .class_ 49), (1, u "java/util/ImmutableCollections"), (0, u "$assertionsDisabled"), (5, u "[Ljava/lang/Object;"), (5, u "EMPTY_LIST"), (0, u "Ljava/util/ImmutableCollections$ListN;"), (8, u "EMPTY_LIST_NULLS"), (22, u "SALT32L"), (0, u "J"), (2, u "REVERSE"), (6, u "archivedObjects"), (2, u "EMPTY"), (0, u "Ljava/lang/Object;"), (0, .class_ 112), (0, u "java/util/ImmutableCollections$SetN"), (5, u "EMPTY_SET"), (0, u "Ljava/util/ImmutableCollections$SetN;"), (0, .class_ 121), (0, u "java/util/ImmutableCollections$MapN"), (3, u "EMPTY_MAP"), (0, u "Ljava/util/ImmutableCollections$MapN;"), (4, u "EXPAND_FACTOR"), (0, u "I"), (18, u "listFromArray"), (17, .class_ 170), (0, u "java/util/ImmutableCollections$MapN$MapNIterator"), (0, .class_ 172), (0, u "java/util/ImmutableCollections$MapN$1"), (0, .class_ 174), (0, u "java/util/ImmutableCollections$Map1"), (0, .class_ 176), (0, u "java/util/ImmutableCollections$AbstractImmutableMap"), (0, .class_ 178), (0, u "java/util/ImmutableCollections$SetN$SetNIterator"), (0, .class_ 180), (0, u "java/util/ImmutableCollections$Set12"), (0, .class_ 182), (0, u "java/util/ImmutableCollections$Set12$1"), (0, .class_ 184), (0, u "java/util/ImmutableCollections$AbstractImmutableSet"), (0, .class_ 186), (0, u "java/util/ImmutableCollections$SubList"), (0, .class_ 188), (0, u "java/util/ImmutableCollections$ListItr"), (0, .class_ 190), (0, u "java/util/ImmutableCollections$AbstractImmutableList"), (0, .class_ 192), (0, u "java/util/ImmutableCollections$AbstractImmutableCollection"), (0, .class_ 194), (0, u "java/util/ImmutableCollections$Access"), (0, .class_ 196), (0, u "java/util/ImmutableCollections$Access$1")] 16

def k20m0 : Method := { name := "<init>", desc := "()V", sig := { parameters := [], returnType := none }, accessFlags := 2, code := none }
def k20c1 : Code := { maxStack := 4, maxLocals := 3, code := jdk_56_method_4_code, exceptionTable := #[], attributes := #[] }
def k20m1 : Method := { name := "listFromArray", desc := "([Ljava/lang/Object;)Ljava/util/List;", sig := { parameters := [(.array (.object "java/lang/Object"))], returnType := some (.object "java/util/List") }, accessFlags := 136, code := some k20c1 }
/-- java/util/ImmutableCollections -/
def k20 : Class := { plain "java/util/ImmutableCollections" (some 0) with
  accessFlags := 32
  interfaces := #[]
  cf := some (fileOf pool20 47 #[.nestMembers #[120, 169, 171, 173, 175, 111, 177, 179, 181, 183, 12, 10, 185, 187, 189, 191, 193, 195]] #[{ accessFlags := 2, nameIndex := 5, descriptorIndex := 6, attributes := #[] }, { accessFlags := 136, nameIndex := 151, descriptorIndex := 36, attributes := #[] }] 32 2 #[] #[{ accessFlags := 26, nameIndex := 95, descriptorIndex := 96, attributes := #[] }, { accessFlags := 26, nameIndex := 99, descriptorIndex := 17, attributes := #[] }, { accessFlags := 10, nameIndex := 106, descriptorIndex := 56, attributes := #[] }, { accessFlags := 26, nameIndex := 109, descriptorIndex := 110, attributes := #[] }, { accessFlags := 24, nameIndex := 62, descriptorIndex := 63, attributes := #[] }, { accessFlags := 24, nameIndex := 72, descriptorIndex := 63, attributes := #[] }, { accessFlags := 24, nameIndex := 118, descriptorIndex := 119, attributes := #[] }, { accessFlags := 24, nameIndex := 125, descriptorIndex := 126, attributes := #[] }, { accessFlags := 24, nameIndex := 131, descriptorIndex := 132, attributes := #[] }, { accessFlags := 4120, nameIndex := 50, descriptorIndex := 17, attributes := #[] }])
  fields := #[{ name := "SALT32L", type := .long, accessFlags := 26, slot := 0, constantValue := 0 }, { name := "REVERSE", type := .boolean, accessFlags := 26, slot := 1, constantValue := 0 }, { name := "archivedObjects", type := (.array (.object "java/lang/Object")), accessFlags := 10, slot := 2, constantValue := 0 }, { name := "EMPTY", type := (.object "java/lang/Object"), accessFlags := 26, slot := 3, constantValue := 0 }, { name := "EMPTY_LIST", type := (.object "java/util/ImmutableCollections$ListN"), accessFlags := 24, slot := 4, constantValue := 0 }, { name := "EMPTY_LIST_NULLS", type := (.object "java/util/ImmutableCollections$ListN"), accessFlags := 24, slot := 5, constantValue := 0 }, { name := "EMPTY_SET", type := (.object "java/util/ImmutableCollections$SetN"), accessFlags := 24, slot := 6, constantValue := 0 }, { name := "EMPTY_MAP", type := (.object "java/util/ImmutableCollections$MapN"), accessFlags := 24, slot := 7, constantValue := 0 }, { name := "EXPAND_FACTOR", type := .int, accessFlags := 24, slot := 8, constantValue := 0 }, { name := "$assertionsDisabled", type := .boolean, accessFlags := 4120, slot := 9, constantValue := 0 }]
  methods := #[k20m0, k20m1]
  instanceTypes := #[]
  staticTypes := #[.long, .boolean, (.array (.object "java/lang/Object")), (.object "java/lang/Object"), (.object "java/util/ImmutableCollections$ListN"), (.object "java/util/ImmutableCollections$ListN"), (.object "java/util/ImmutableCollections$SetN"), (.object "java/util/ImmutableCollections$MapN"), .int, .boolean]
  resolved := Array.replicate 213 none
  statics := some 2 }

def pool21 : Array CpInfo := pool [(2, .class_ 4), (1, u "java/lang/Object"), (0, u "<init>"), (0, u "()V"), (35, .class_ 44), (1, u "java/util/Objects"), (0, u "requireNonNull"), (0, u "(Ljava/lang/Object;)Ljava/lang/Object;")] 137

def k21m0 : Method := { name := "<init>", desc := "()V", sig := { parameters := [], returnType := none }, accessFlags := 2, code := none }
def k21c1 : Code := { maxStack := 2, maxLocals := 1, code := jdk_31_method_10_code, exceptionTable := #[], attributes := #[] }
def k21m1 : Method := { name := "requireNonNull", desc := "(Ljava/lang/Object;)Ljava/lang/Object;", sig := { parameters := [(.object "java/lang/Object")], returnType := some (.object "java/lang/Object") }, accessFlags := 9, code := some k21c1 }
/-- java/util/Objects -/
def k21 : Class := { plain "java/util/Objects" (some 0) with
  accessFlags := 49
  interfaces := #[]
  cf := some (fileOf pool21 42 #[] #[{ accessFlags := 2, nameIndex := 5, descriptorIndex := 6, attributes := #[] }, { accessFlags := 9, nameIndex := 45, descriptorIndex := 46, attributes := #[] }] 49 2 #[] #[])
  fields := #[]
  methods := #[k21m0, k21m1]
  instanceTypes := #[]
  staticTypes := #[]
  resolved := Array.replicate 184 none
  statics := none }

def pool22 : Array CpInfo := pool [(1, .methodref 2 3), (0, .class_ 4), (0, .nameAndType 5 6), (0, u "java/util/ImmutableCollections$AbstractImmutableList"), (0, u "<init>"), (0, u "()V"), (0, .methodref 8 9), (0, .class_ 10), (0, .nameAndType 11 12), (0, u "java/util/Objects"), (0, u "requireNonNull"), (0, u "(Ljava/lang/Object;)Ljava/lang/Object;"), (0, .fieldref 14 15), (0, .class_ 16), (0, .nameAndType 17 18), (0, u "java/util/ImmutableCollections$List12"), (0, u "e0"), (0, u "Ljava/lang/Object;"), (0, .fieldref 20 21), (0, .class_ 22), (0, .nameAndType 23 18), (0, u "java/util/ImmutableCollections"), (0, u "EMPTY"), (0, .fieldref 14 25), (0, .nameAndType 26 18), (0, u "e1"), (24, u "size"), (0, u "()I"), (17, .class_ 71), (0, u "java/io/Serializable"), (4, u "(Ljava/lang/Object;)V"), (8, u "(Ljava/lang/Object;Ljava/lang/Object;)V"), (4, u "get"), (0, u "(I)Ljava/lang/Object;")] 33

def k22c0 : Code := { maxStack := 2, maxLocals := 2, code := jdk_44_method_1_code, exceptionTable := #[], attributes := #[] }
def k22m0 : Method := { name := "<init>", desc := "(Ljava/lang/Object;)V", sig := { parameters := [(.object "java/lang/Object")], returnType := none }, accessFlags := 0, code := some k22c0 }
def k22c1 : Code := { maxStack := 2, maxLocals := 3, code := jdk_44_method_2_code, exceptionTable := #[], attributes := #[] }
def k22m1 : Method := { name := "<init>", desc := "(Ljava/lang/Object;Ljava/lang/Object;)V", sig := { parameters := [(.object "java/lang/Object"), (.object "java/lang/Object")], returnType := none }, accessFlags := 0, code := some k22c1 }
def k22c2 : Code := { maxStack := 2, maxLocals := 1, code := jdk_44_method_3_code, exceptionTable := #[], attributes := #[] }
def k22m2 : Method := { name := "size", desc := "()I", sig := { parameters := [], returnType := some .int }, accessFlags := 1, code := some k22c2 }
def k22c3 : Code := { maxStack := 2, maxLocals := 2, code := jdk_44_method_5_code, exceptionTable := #[], attributes := #[] }
def k22m3 : Method := { name := "get", desc := "(I)Ljava/lang/Object;", sig := { parameters := [.int], returnType := some (.object "java/lang/Object") }, accessFlags := 1, code := some k22c3 }
/-- java/util/ImmutableCollections$List12 -/
def k22 : Class := { plain "java/util/ImmutableCollections$List12" (some 17) with
  accessFlags := 48
  interfaces := #[2]
  cf := some (fileOf pool22 14 #[.nestHost 20] #[{ accessFlags := 0, nameIndex := 5, descriptorIndex := 76, attributes := #[] }, { accessFlags := 0, nameIndex := 5, descriptorIndex := 85, attributes := #[] }, { accessFlags := 1, nameIndex := 51, descriptorIndex := 52, attributes := #[] }, { accessFlags := 1, nameIndex := 90, descriptorIndex := 91, attributes := #[] }] 48 2 #[70] #[{ accessFlags := 18, nameIndex := 17, descriptorIndex := 18, attributes := #[] }, { accessFlags := 18, nameIndex := 26, descriptorIndex := 18, attributes := #[] }])
  fields := #[{ name := "e0", type := (.object "java/lang/Object"), accessFlags := 18, slot := 0, constantValue := 0 }, { name := "e1", type := (.object "java/lang/Object"), accessFlags := 18, slot := 1, constantValue := 0 }]
  methods := #[k22m0, k22m1, k22m2, k22m3]
  instanceTypes := #[(.object "java/lang/Object"), (.object "java/lang/Object")]
  staticTypes := #[]
  resolved := Array.replicate 125 none
  statics := none }

def pool23 : Array CpInfo := pool [(2, .class_ 4), (1, u "java/lang/Object"), (0, u "<init>"), (0, u "()V"), (17, .class_ 26), (1, u "jdk/internal/util/Preconditions"), (28, .class_ 56), (0, u "jdk/internal/util/Preconditions$4"), (57, .class_ 115), (0, u "jdk/internal/util/Preconditions$1"), (7, u "SIOOBE_FORMATTER"), (0, u "Ljava/util/function/BiFunction;"), (0, .class_ 126), (0, u "jdk/internal/util/Preconditions$2"), (3, u "AIOOBE_FORMATTER"), (0, .class_ 132), (0, u "jdk/internal/util/Preconditions$3"), (3, u "IOOBE_FORMATTER")] 57

def k23m0 : Method := { name := "<init>", desc := "()V", sig := { parameters := [], returnType := none }, accessFlags := 1, code := none }
/-- jdk/internal/util/Preconditions -/
def k23 : Class := { plain "jdk/internal/util/Preconditions" (some 0) with
  accessFlags := 33
  interfaces := #[]
  cf := some (fileOf pool23 24 #[.nestMembers #[55, 131, 125, 114]] #[{ accessFlags := 1, nameIndex := 5, descriptorIndex := 6, attributes := #[] }] 33 2 #[] #[{ accessFlags := 25, nameIndex := 123, descriptorIndex := 124, attributes := #[] }, { accessFlags := 25, nameIndex := 130, descriptorIndex := 124, attributes := #[] }, { accessFlags := 25, nameIndex := 136, descriptorIndex := 124, attributes := #[] }])
  fields := #[{ name := "SIOOBE_FORMATTER", type := (.object "java/util/function/BiFunction"), accessFlags := 25, slot := 0, constantValue := 0 }, { name := "AIOOBE_FORMATTER", type := (.object "java/util/function/BiFunction"), accessFlags := 25, slot := 1, constantValue := 0 }, { name := "IOOBE_FORMATTER", type := (.object "java/util/function/BiFunction"), accessFlags := 25, slot := 2, constantValue := 0 }]
  methods := #[k23m0]
  instanceTypes := #[]
  staticTypes := #[(.object "java/util/function/BiFunction"), (.object "java/util/function/BiFunction"), (.object "java/util/function/BiFunction")]
  resolved := Array.replicate 194 none
  statics := some 3 }

def pool24 : Array CpInfo := pool [(9, u "<init>"), (6, .class_ 18), (1, u "java/lang/Object"), (0, u "()V"), (1, .class_ 23), (1, u "jdk/internal/util/ArraysSupport"), (0, u "LOG2_ARRAY_LONG_INDEX_SCALE"), (0, u "I"), (2, u "U"), (0, u "Ljdk/internal/misc/Unsafe;"), (8, u "BIG_ENDIAN"), (0, u "Z"), (8, u "LOG2_BYTE_BIT_SIZE"), (4, u "LOG2_ARRAY_INT_INDEX_SCALE"), (54, u "JLA"), (0, u "Ljdk/internal/access/JavaLangAccess;"), (11, u "LOG2_ARRAY_BOOLEAN_INDEX_SCALE"), (9, u "LOG2_ARRAY_BYTE_INDEX_SCALE"), (5, u "LOG2_ARRAY_CHAR_INDEX_SCALE"), (5, u "LOG2_ARRAY_SHORT_INDEX_SCALE"), (18, u "LOG2_ARRAY_FLOAT_INDEX_SCALE"), (24, u "LOG2_ARRAY_DOUBLE_INDEX_SCALE"), (89, u "T_BOOLEAN"), (2, u "T_CHAR"), (1, u "T_FLOAT"), (1, u "T_DOUBLE"), (1, u "T_BYTE"), (1, u "T_SHORT"), (1, u "T_INT"), (1, u "T_LONG"), (1, u "SOFT_MAX_ARRAY_LENGTH")] 83

def k24m0 : Method := { name := "<init>", desc := "()V", sig := { parameters := [], returnType := none }, accessFlags := 2, code := none }
/-- jdk/internal/util/ArraysSupport -/
def k24 : Class := { plain "jdk/internal/util/ArraysSupport" (some 0) with
  accessFlags := 33
  interfaces := #[]
  cf := some (fileOf pool24 21 #[] #[{ accessFlags := 2, nameIndex := 9, descriptorIndex := 19, attributes := #[] }] 33 16 #[] #[{ accessFlags := 24, nameIndex := 28, descriptorIndex := 29, attributes := #[] }, { accessFlags := 26, nameIndex := 38, descriptorIndex := 39, attributes := #[] }, { accessFlags := 25, nameIndex := 121, descriptorIndex := 25, attributes := #[] }, { accessFlags := 25, nameIndex := 131, descriptorIndex := 25, attributes := #[] }, { accessFlags := 25, nameIndex := 137, descriptorIndex := 25, attributes := #[] }, { accessFlags := 25, nameIndex := 143, descriptorIndex := 25, attributes := #[] }, { accessFlags := 25, nameIndex := 53, descriptorIndex := 25, attributes := #[] }, { accessFlags := 25, nameIndex := 24, descriptorIndex := 25, attributes := #[] }, { accessFlags := 25, nameIndex := 162, descriptorIndex := 25, attributes := #[] }, { accessFlags := 25, nameIndex := 187, descriptorIndex := 25, attributes := #[] }, { accessFlags := 26, nameIndex := 48, descriptorIndex := 25, attributes := #[] }, { accessFlags := 25, nameIndex := 277, descriptorIndex := 25, attributes := #[] }, { accessFlags := 25, nameIndex := 280, descriptorIndex := 25, attributes := #[] }, { accessFlags := 25, nameIndex := 282, descriptorIndex := 25, attributes := #[] }, { accessFlags := 25, nameIndex := 284, descriptorIndex := 25, attributes := #[] }, { accessFlags := 25, nameIndex := 286, descriptorIndex := 25, attributes := #[] }, { accessFlags := 25, nameIndex := 288, descriptorIndex := 25, attributes := #[] }, { accessFlags := 25, nameIndex := 290, descriptorIndex := 25, attributes := #[] }, { accessFlags := 25, nameIndex := 292, descriptorIndex := 25, attributes := #[] }, { accessFlags := 26, nameIndex := 108, descriptorIndex := 109, attributes := #[] }, { accessFlags := 25, nameIndex := 294, descriptorIndex := 25, attributes := #[] }])
  fields := #[{ name := "U", type := (.object "jdk/internal/misc/Unsafe"), accessFlags := 24, slot := 0, constantValue := 0 }, { name := "BIG_ENDIAN", type := .boolean, accessFlags := 26, slot := 1, constantValue := 0 }, { name := "LOG2_ARRAY_BOOLEAN_INDEX_SCALE", type := .int, accessFlags := 25, slot := 2, constantValue := 0 }, { name := "LOG2_ARRAY_BYTE_INDEX_SCALE", type := .int, accessFlags := 25, slot := 3, constantValue := 0 }, { name := "LOG2_ARRAY_CHAR_INDEX_SCALE", type := .int, accessFlags := 25, slot := 4, constantValue := 0 }, { name := "LOG2_ARRAY_SHORT_INDEX_SCALE", type := .int, accessFlags := 25, slot := 5, constantValue := 0 }, { name := "LOG2_ARRAY_INT_INDEX_SCALE", type := .int, accessFlags := 25, slot := 6, constantValue := 0 }, { name := "LOG2_ARRAY_LONG_INDEX_SCALE", type := .int, accessFlags := 25, slot := 7, constantValue := 0 }, { name := "LOG2_ARRAY_FLOAT_INDEX_SCALE", type := .int, accessFlags := 25, slot := 8, constantValue := 0 }, { name := "LOG2_ARRAY_DOUBLE_INDEX_SCALE", type := .int, accessFlags := 25, slot := 9, constantValue := 0 }, { name := "LOG2_BYTE_BIT_SIZE", type := .int, accessFlags := 26, slot := 10, constantValue := 0 }, { name := "T_BOOLEAN", type := .int, accessFlags := 25, slot := 11, constantValue := 0 }, { name := "T_CHAR", type := .int, accessFlags := 25, slot := 12, constantValue := 0 }, { name := "T_FLOAT", type := .int, accessFlags := 25, slot := 13, constantValue := 0 }, { name := "T_DOUBLE", type := .int, accessFlags := 25, slot := 14, constantValue := 0 }, { name := "T_BYTE", type := .int, accessFlags := 25, slot := 15, constantValue := 0 }, { name := "T_SHORT", type := .int, accessFlags := 25, slot := 16, constantValue := 0 }, { name := "T_INT", type := .int, accessFlags := 25, slot := 17, constantValue := 0 }, { name := "T_LONG", type := .int, accessFlags := 25, slot := 18, constantValue := 0 }, { name := "JLA", type := (.object "jdk/internal/access/JavaLangAccess"), accessFlags := 26, slot := 19, constantValue := 0 }, { name := "SOFT_MAX_ARRAY_LENGTH", type := .int, accessFlags := 25, slot := 20, constantValue := 0 }]
  methods := #[k24m0]
  instanceTypes := #[]
  staticTypes := #[(.object "jdk/internal/misc/Unsafe"), .boolean, .int, .int, .int, .int, .int, .int, .int, .int, .int, .int, .int, .int, .int, .int, .int, .int, .int, (.object "jdk/internal/access/JavaLangAccess"), .int]
  resolved := Array.replicate 378 none
  statics := none }

def pool25 : Array CpInfo := pool [(1, u "java/lang/Cloneable"), (0, .class_ 1), (0, u "java/lang/Object"), (0, .class_ 3)] 3

/-- java/lang/Cloneable -/
def k25 : Class := { plain "java/lang/Cloneable" (some 0) with
  accessFlags := 1537
  interfaces := #[]
  cf := some (fileOf pool25 2 #[] #[] 1537 4 #[] #[])
  fields := #[]
  methods := #[]
  instanceTypes := #[]
  staticTypes := #[]
  resolved := Array.replicate 8 none
  statics := none }

/-- the primitive byte -/
def k26 : Class := { plain "byte" none with kind := .primitive 'B', accessFlags := 0x411 }
/-- [B -/
def k27 : Class := { plain "[B" (some 0) with kind := .array 26 .byte, interfaces := #[25, 2], accessFlags := 1041 }

/-- the primitive char -/
def k28 : Class := { plain "char" none with kind := .primitive 'C', accessFlags := 0x411 }
/-- [C -/
def k29 : Class := { plain "[C" (some 0) with kind := .array 28 .char, interfaces := #[25, 2], accessFlags := 1041 }

/-- the primitive int -/
def k30 : Class := { plain "int" none with kind := .primitive 'I', accessFlags := 0x411 }
/-- [I -/
def k31 : Class := { plain "[I" (some 0) with kind := .array 30 .int, interfaces := #[25, 2], accessFlags := 1041 }

/-- [Ljava/lang/Object; -/
def k32 : Class := { plain "[Ljava/lang/Object;" (some 0) with kind := .array 0 (.object "java/lang/Object"), interfaces := #[25, 2], accessFlags := 1041 }

/-- [Ljava/lang/String; -/
def k33 : Class := { plain "[Ljava/lang/String;" (some 0) with kind := .array 7 (.object "java/lang/String"), interfaces := #[25, 2], accessFlags := 1041 }

def heap : Heap := #[{ cls := 7, slots := #[.long 0, .int 1, .null, .int 0, .null, .int 0, .int 0], vm := .statics 7 },
  { cls := 9, slots := #[.null, .ref 6], vm := .statics 9 },
  { cls := 20, slots := #[.long 0, .int 0, .null, .ref 7, .ref 8, .null, .null, .null, .int 0, .int 1], vm := .statics 20 },
  { cls := 23, slots := #[.null, .null, .null], vm := .statics 23 },
  { cls := 32, slots := #[], vm := .none },
  { cls := 18, slots := #[.ref 4, .int 0], vm := .none },
  { cls := 9, slots := #[.int 0, .ref 5], vm := .none },
  { cls := 0, slots := #[], vm := .none },
  { cls := 18, slots := #[.null, .int 0], vm := .none }]
def classes : Array Class := #[k0, k1, k2, k3, k4, k5, k6, k7, k8, k9, k10, k11, k12, k13, k14, k15, k16, k17, k18, k19, k20, k21, k22, k23, k24, k25, k26, k27, k28, k29, k30, k31, k32, k33]
def interned : List (Array UInt16 × Addr) := []
def slotsUsed : Nat := 28
def theMethod : MethodId := ⟨1, 2⟩
def args0 : Array Value := #[.int 5, .int 6, .int 7, .int 8, .int 9]
def aboutOver (below : List Frame) : State where
  vm := { classes := classes, interned := interned.toArray }
  heap := heap
  slotsUsed := slotsUsed
  threads := #[{ frames := .invoking theMethod args0 :: below }]
def below0 : List Frame := [.native { method := ⟨0, 0⟩, args := #[] }]
def about1 : State := aboutOver below0
def p0 : Program := .bare "" "" ""
def e0 : Env := launch0.env 0 0 0
theorem w_frames : about1.frames = Frame.invoking theMethod args0 :: below0 := rfl
set_option maxRecDepth 65536 in
theorem w_args : argsFit about1.vm theMethod args0 = true := by decide +kernel
set_option maxRecDepth 65536 in
theorem w_heap : heapFits about1 = true := by decide +kernel
set_option maxRecDepth 65536 in
theorem w_runnable : about1.curStatus? = some .runnable := by decide +kernel
set_option maxRecDepth 65536 in
theorem w_alone : about1.alone = true := by decide +kernel
set_option maxRecDepth 65536 in
theorem w_named : about1.methodNamed? x = some theMethod := by decide +kernel
set_option maxRecDepth 65536 in
theorem w_hears : about1.hears theMethod below0 = true := by decide +kernel
set_option maxRecDepth 65536 in
theorem w_ripe : about1.ripe theMethod args0 below0 = true := by decide +kernel
theorem w_running : about1.status = .running := rfl
set_option maxRecDepth 65536 in
theorem w_room : about1.hasRoom e0.platform room_1 = true :=
  launch0.hasRoom_least _ room_1 (by decide +kernel) (by decide +kernel) (by decide +kernel) (by decide +kernel) (by decide +kernel) (by decide +kernel)
theorem allAtoms_all (ts : List Jvm.Cond) (a : Array Jvm.Value) (st : Jvm.State) : (allAtoms ts).before a st = ts.all (fun c => c.before a st) := by
  induction ts with
  | nil => rfl
  | cons c t ih =>
    show (Jvm.Cond.and c (allAtoms t)).before a st = _
    rw [Jvm.Cond.before_and, ih, List.all_cons]
def words1 : List Jvm.Cond := Jvm.Cond.code x code maxLocals ret :: tables_1
/-- a 'code' word, met by the world's own term for the bytes: nothing is compared byte by byte -/
theorem code_word {y : MethodName} {bytes : ByteArray} {mx : Nat} {rt : Option FieldType} {a : Array Value} {s : State} {m : MethodId} {meth : Method} {c : Code} (h1 : s.methodNamed? y = some m) (h2 : s.vm.method? m = some meth) (h3 : meth.code = some c) (h4 : c.code = bytes)
    (h5 : (c.maxLocals == mx && c.exceptionTable.isEmpty && decide (c.maxStack ≤ mostOperands) && decide (meth.sig.returnType = rt) && !meth.locks && decide (parseMethodDescriptor y.desc = some meth.sig)) = true) : (Jvm.Cond.code y bytes mx rt).before a s = true := by
  simp only [Bool.and_eq_true, beq_iff_eq, Bool.not_eq_true', decide_eq_true_eq] at h5
  obtain ⟨⟨⟨⟨⟨g1, g2⟩, g3⟩, g4⟩, g5⟩, g6⟩ := h5
  simp [Cond.before, Cond.holds, Cond.value, h1, h2, h3, h4, g1, g2, g3, g4, g5, g6]
def isCode : Jvm.Cond → Bool
  | .code _ _ _ _ => true
  | _ => false
theorem all_split {L : List Jvm.Cond} {P : Jvm.Cond → Bool} (h1 : L.all (fun c => isCode c || P c) = true) (h2 : ∀ c ∈ L.filter isCode, P c = true) : L.all P = true := by
  refine List.all_eq_true.mpr fun c hc => ?_
  have h := List.all_eq_true.mp h1 c hc
  rcases Bool.eq_false_or_eq_true (isCode c) with hi | hi
  · exact h2 c (List.mem_filter.mpr ⟨hc, hi⟩)
  · simpa [hi] using h
set_option maxRecDepth 65536 in
theorem w_c0 : (Jvm.Cond.code x code maxLocals ret).before args0 about1 = true := code_word (m := ⟨1, 2⟩) (meth := k1m2) (c := k1c2) (by decide +kernel) rfl rfl rfl (by decide +kernel)
set_option maxRecDepth 65536 in
theorem w_c1 : (Jvm.Cond.code ({ cls := "com/example/portcullis/portcullis/authorization/VoteDenyPinLaw", name := "mk", desc := "(II)Ljava/lang/String;" } : Jvm.MethodName) method_2_code (2 : Nat) (Option.some (Jvm.ClassFile.FieldType.object "java/lang/String"))).before args0 about1 = true := code_word (m := ⟨1, 1⟩) (meth := k1m1) (c := k1c1) (by decide +kernel) rfl rfl rfl (by decide +kernel)
set_option maxRecDepth 65536 in
theorem w_c2 : (Jvm.Cond.code ({ cls := "java/lang/String", name := "<init>", desc := "([C)V" } : Jvm.MethodName) jdk_42_method_3_code (2 : Nat) (Option.none : Option Jvm.ClassFile.FieldType)).before args0 about1 = true := code_word (m := ⟨7, 1⟩) (meth := k7m1) (c := k7c1) (by decide +kernel) rfl rfl rfl (by decide +kernel)
set_option maxRecDepth 65536 in
theorem w_c3 : (Jvm.Cond.code ({ cls := "java/lang/String", name := "<init>", desc := "([CIILjava/lang/Void;)V" } : Jvm.MethodName) jdk_42_method_149_code (6 : Nat) (Option.none : Option Jvm.ClassFile.FieldType)).before args0 about1 = true := code_word (m := ⟨7, 4⟩) (meth := k7m4) (c := k7c4) (by decide +kernel) rfl rfl rfl (by decide +kernel)
set_option maxRecDepth 65536 in
theorem w_c4 : (Jvm.Cond.code ({ cls := "java/lang/Object", name := "<init>", desc := "()V" } : Jvm.MethodName) object_method_1_code (1 : Nat) (Option.none : Option Jvm.ClassFile.FieldType)).before args0 about1 = true := code_word (m := ⟨0, 0⟩) (meth := k0m0) (c := k0c0) (by decide +kernel) rfl rfl rfl (by decide +kernel)
set_option maxRecDepth 65536 in
theorem w_c5 : (Jvm.Cond.code ({ cls := "java/lang/StringUTF16", name := "compress", desc := "([CII)[B" } : Jvm.MethodName) jdk_52_method_16_code (6 : Nat) (Option.some (Jvm.ClassFile.FieldType.array Jvm.ClassFile.FieldType.byte))).before args0 about1 = true := code_word (m := ⟨8, 2⟩) (meth := k8m2) (c := k8c2) (by decide +kernel) rfl rfl rfl (by decide +kernel)
set_option maxRecDepth 65536 in
theorem w_c6 : (Jvm.Cond.code ({ cls := "java/lang/StringUTF16", name := "compress", desc := "([CI[BII)I" } : Jvm.MethodName) jdk_52_method_21_code (7 : Nat) (Option.some Jvm.ClassFile.FieldType.int)).before args0 about1 = true := code_word (m := ⟨8, 3⟩) (meth := k8m3) (c := k8c3) (by decide +kernel) rfl rfl rfl (by decide +kernel)
set_option maxRecDepth 65536 in
theorem w_c7 : (Jvm.Cond.code ({ cls := "java/lang/StringUTF16", name := "coderFromArrayLen", desc := "([BI)B" } : Jvm.MethodName) jdk_52_method_15_code (2 : Nat) (Option.some Jvm.ClassFile.FieldType.byte)).before args0 about1 = true := code_word (m := ⟨8, 1⟩) (meth := k8m1) (c := k8c1) (by decide +kernel) rfl rfl rfl (by decide +kernel)
set_option maxRecDepth 65536 in
theorem w_c8 : (Jvm.Cond.code ({ cls := "com/example/portcullis/portcullis/authorization/Vote", name := "deny", desc := "([Ljava/lang/String;)Lcom/example/portcullis/portcullis/authorization/Vote;" } : Jvm.MethodName) prog_20_method_3_code (1 : Nat) (Option.some (Jvm.ClassFile.FieldType.object "com/example/portcullis/portcullis/authorization/Vote"))).before args0 about1 = true := code_word (m := ⟨9, 1⟩) (meth := k9m1) (c := k9c1) (by decide +kernel) rfl rfl rfl (by decide +kernel)
set_option maxRecDepth 65536 in
theorem w_c9 : (Jvm.Cond.code ({ cls := "com/example/portcullis/portcullis/authorization/Vote", name := "isAllowed", desc := "()Z" } : Jvm.MethodName) prog_20_method_4_code (1 : Nat) (Option.some Jvm.ClassFile.FieldType.boolean)).before args0 about1 = true := code_word (m := ⟨9, 2⟩) (meth := k9m2) (c := k9c2) (by decide +kernel) rfl rfl rfl (by decide +kernel)
set_option maxRecDepth 65536 in
theorem w_c10 : (Jvm.Cond.code ({ cls := "com/example/portcullis/portcullis/authorization/Vote", name := "reasons", desc := "()Ljava/util/List;" } : Jvm.MethodName) prog_20_method_5_code (1 : Nat) (Option.some (Jvm.ClassFile.FieldType.object "java/util/List"))).before args0 about1 = true := code_word (m := ⟨9, 3⟩) (meth := k9m3) (c := k9c3) (by decide +kernel) rfl rfl rfl (by decide +kernel)
set_option maxRecDepth 65536 in
theorem w_c11 : (Jvm.Cond.code ({ cls := "java/util/ImmutableCollections$ListN", name := "size", desc := "()I" } : Jvm.MethodName) jdk_45_method_3_code (1 : Nat) (Option.some Jvm.ClassFile.FieldType.int)).before args0 about1 = true := code_word (m := ⟨18, 1⟩) (meth := k18m1) (c := k18c1) (by decide +kernel) rfl rfl rfl (by decide +kernel)
set_option maxRecDepth 65536 in
theorem w_c12 : (Jvm.Cond.code ({ cls := "java/lang/String", name := "valueOf", desc := "(C)Ljava/lang/String;" } : Jvm.MethodName) jdk_42_method_139_code (1 : Nat) (Option.some (Jvm.ClassFile.FieldType.object "java/lang/String"))).before args0 about1 = true := code_word (m := ⟨7, 3⟩) (meth := k7m3) (c := k7c3) (by decide +kernel) rfl rfl rfl (by decide +kernel)
set_option maxRecDepth 65536 in
theorem w_c13 : (Jvm.Cond.code ({ cls := "java/lang/StringLatin1", name := "canEncode", desc := "(C)Z" } : Jvm.MethodName) jdk_43_method_3_code (1 : Nat) (Option.some Jvm.ClassFile.FieldType.boolean)).before args0 about1 = true := code_word (m := ⟨19, 1⟩) (meth := k19m1) (c := k19c1) (by decide +kernel) rfl rfl rfl (by decide +kernel)
set_option maxRecDepth 65536 in
theorem w_c14 : (Jvm.Cond.code ({ cls := "java/lang/StringLatin1", name := "toBytes", desc := "(C)[B" } : Jvm.MethodName) jdk_43_method_46_code (1 : Nat) (Option.some (Jvm.ClassFile.FieldType.array Jvm.ClassFile.FieldType.byte))).before args0 about1 = true := code_word (m := ⟨19, 2⟩) (meth := k19m2) (c := k19c2) (by decide +kernel) rfl rfl rfl (by decide +kernel)
set_option maxRecDepth 65536 in
theorem w_c15 : (Jvm.Cond.code ({ cls := "java/lang/String", name := "<init>", desc := "([BB)V" } : Jvm.MethodName) jdk_42_method_151_code (3 : Nat) (Option.none : Option Jvm.ClassFile.FieldType)).before args0 about1 = true := code_word (m := ⟨7, 5⟩) (meth := k7m5) (c := k7c5) (by decide +kernel) rfl rfl rfl (by decide +kernel)
set_option maxRecDepth 65536 in
theorem w_c16 : (Jvm.Cond.code ({ cls := "java/util/List", name := "of", desc := "([Ljava/lang/Object;)Ljava/util/List;" } : Jvm.MethodName) jdk_40_method_47_code (2 : Nat) (Option.some (Jvm.ClassFile.FieldType.object "java/util/List"))).before args0 about1 = true := code_word (m := ⟨13, 2⟩) (meth := k13m2) (c := k13c2) (by decide +kernel) rfl rfl rfl (by decide +kernel)
set_option maxRecDepth 65536 in
theorem w_c17 : (Jvm.Cond.code ({ cls := "java/util/ImmutableCollections", name := "listFromArray", desc := "([Ljava/lang/Object;)Ljava/util/List;" } : Jvm.MethodName) jdk_56_method_4_code (3 : Nat) (Option.some (Jvm.ClassFile.FieldType.object "java/util/List"))).before args0 about1 = true := code_word (m := ⟨20, 1⟩) (meth := k20m1) (c := k20c1) (by decide +kernel) rfl rfl rfl (by decide +kernel)
set_option maxRecDepth 65536 in
theorem w_c18 : (Jvm.Cond.code ({ cls := "java/util/Objects", name := "requireNonNull", desc := "(Ljava/lang/Object;)Ljava/lang/Object;" } : Jvm.MethodName) jdk_31_method_10_code (1 : Nat) (Option.some (Jvm.ClassFile.FieldType.object "java/lang/Object"))).before args0 about1 = true := code_word (m := ⟨21, 1⟩) (meth := k21m1) (c := k21c1) (by decide +kernel) rfl rfl rfl (by decide +kernel)
set_option maxRecDepth 65536 in
theorem w_c19 : (Jvm.Cond.code ({ cls := "java/util/ImmutableCollections$ListN", name := "<init>", desc := "([Ljava/lang/Object;Z)V" } : Jvm.MethodName) jdk_45_method_1_code (3 : Nat) (Option.none : Option Jvm.ClassFile.FieldType)).before args0 about1 = true := code_word (m := ⟨18, 0⟩) (meth := k18m0) (c := k18c0) (by decide +kernel) rfl rfl rfl (by decide +kernel)
set_option maxRecDepth 65536 in
theorem w_c20 : (Jvm.Cond.code ({ cls := "java/util/ImmutableCollections$AbstractImmutableList", name := "<init>", desc := "()V" } : Jvm.MethodName) jdk_46_method_1_code (1 : Nat) (Option.none : Option Jvm.ClassFile.FieldType)).before args0 about1 = true := code_word (m := ⟨17, 0⟩) (meth := k17m0) (c := k17c0) (by decide +kernel) rfl rfl rfl (by decide +kernel)
set_option maxRecDepth 65536 in
theorem w_c21 : (Jvm.Cond.code ({ cls := "java/util/ImmutableCollections$AbstractImmutableCollection", name := "<init>", desc := "()V" } : Jvm.MethodName) jdk_47_method_1_code (1 : Nat) (Option.none : Option Jvm.ClassFile.FieldType)).before args0 about1 = true := code_word (m := ⟨15, 0⟩) (meth := k15m0) (c := k15c0) (by decide +kernel) rfl rfl rfl (by decide +kernel)
set_option maxRecDepth 65536 in
theorem w_c22 : (Jvm.Cond.code ({ cls := "java/util/AbstractCollection", name := "<init>", desc := "()V" } : Jvm.MethodName) jdk_22_method_1_code (1 : Nat) (Option.none : Option Jvm.ClassFile.FieldType)).before args0 about1 = true := code_word (m := ⟨14, 0⟩) (meth := k14m0) (c := k14c0) (by decide +kernel) rfl rfl rfl (by decide +kernel)
set_option maxRecDepth 65536 in
theorem w_c23 : (Jvm.Cond.code ({ cls := "com/example/portcullis/portcullis/authorization/Vote", name := "<init>", desc := "(ZLjava/util/List;)V" } : Jvm.MethodName) prog_20_method_1_code (3 : Nat) (Option.none : Option Jvm.ClassFile.FieldType)).before args0 about1 = true := code_word (m := ⟨9, 0⟩) (meth := k9m0) (c := k9c0) (by decide +kernel) rfl rfl rfl (by decide +kernel)
set_option maxRecDepth 65536 in
theorem w_c24 : (Jvm.Cond.code ({ cls := "java/util/ImmutableCollections$ListN", name := "get", desc := "(I)Ljava/lang/Object;" } : Jvm.MethodName) jdk_45_method_4_code (2 : Nat) (Option.some (Jvm.ClassFile.FieldType.object "java/lang/Object"))).before args0 about1 = true := code_word (m := ⟨18, 2⟩) (meth := k18m2) (c := k18c2) (by decide +kernel) rfl rfl rfl (by decide +kernel)
set_option maxRecDepth 65536 in
theorem w_c25 : (Jvm.Cond.code ({ cls := "java/lang/String", name := "equals", desc := "(Ljava/lang/Object;)Z" } : Jvm.MethodName) jdk_42_method_66_code (3 : Nat) (Option.some Jvm.ClassFile.FieldType.boolean)).before args0 about1 = true := code_word (m := ⟨7, 2⟩) (meth := k7m2) (c := k7c2) (by decide +kernel) rfl rfl rfl (by decide +kernel)
set_option maxRecDepth 65536 in
theorem w_c26 : (Jvm.Cond.code ({ cls := "java/util/ImmutableCollections$List12", name := "<init>", desc := "(Ljava/lang/Object;Ljava/lang/Object;)V" } : Jvm.MethodName) jdk_44_method_2_code (3 : Nat) (Option.none : Option Jvm.ClassFile.FieldType)).before args0 about1 = true := code_word (m := ⟨22, 1⟩) (meth := k22m1) (c := k22c1) (by decide +kernel) rfl rfl rfl (by decide +kernel)
set_option maxRecDepth 65536 in
theorem w_c27 : (Jvm.Cond.code ({ cls := "java/util/ImmutableCollections$List12", name := "size", desc := "()I" } : Jvm.MethodName) jdk_44_method_3_code (1 : Nat) (Option.some Jvm.ClassFile.FieldType.int)).before args0 about1 = true := code_word (m := ⟨22, 2⟩) (meth := k22m2) (c := k22c2) (by decide +kernel) rfl rfl rfl (by decide +kernel)
set_option maxRecDepth 65536 in
theorem w_c28 : (Jvm.Cond.code ({ cls := "java/util/ImmutableCollections$List12", name := "get", desc := "(I)Ljava/lang/Object;" } : Jvm.MethodName) jdk_44_method_5_code (2 : Nat) (Option.some (Jvm.ClassFile.FieldType.object "java/lang/Object"))).before args0 about1 = true := code_word (m := ⟨22, 3⟩) (meth := k22m3) (c := k22c3) (by decide +kernel) rfl rfl rfl (by decide +kernel)
set_option maxRecDepth 65536 in
theorem w_c29 : (Jvm.Cond.code ({ cls := "java/util/ImmutableCollections$List12", name := "<init>", desc := "(Ljava/lang/Object;)V" } : Jvm.MethodName) jdk_44_method_1_code (2 : Nat) (Option.none : Option Jvm.ClassFile.FieldType)).before args0 about1 = true := code_word (m := ⟨22, 0⟩) (meth := k22m0) (c := k22c0) (by decide +kernel) rfl rfl rfl (by decide +kernel)
def codes1 : List Jvm.Cond := [Jvm.Cond.code x code maxLocals ret, Jvm.Cond.code ({ cls := "com/example/portcullis/portcullis/authorization/VoteDenyPinLaw", name := "mk", desc := "(II)Ljava/lang/String;" } : Jvm.MethodName) method_2_code (2 : Nat) (Option.some (Jvm.ClassFile.FieldType.object "java/lang/String")), Jvm.Cond.code ({ cls := "java/lang/String", name := "<init>", desc := "([C)V" } : Jvm.MethodName) jdk_42_method_3_code (2 : Nat) (Option.none : Option Jvm.ClassFile.FieldType), Jvm.Cond.code ({ cls := "java/lang/String", name := "<init>", desc := "([CIILjava/lang/Void;)V" } : Jvm.MethodName) jdk_42_method_149_code (6 : Nat) (Option.none : Option Jvm.ClassFile.FieldType), Jvm.Cond.code ({ cls := "java/lang/Object", name := "<init>", desc := "()V" } : Jvm.MethodName) object_method_1_code (1 : Nat) (Option.none : Option Jvm.ClassFile.FieldType), Jvm.Cond.code ({ cls := "java/lang/StringUTF16", name := "compress", desc := "([CII)[B" } : Jvm.MethodName) jdk_52_method_16_code (6 : Nat) (Option.some (Jvm.ClassFile.FieldType.array Jvm.ClassFile.FieldType.byte)), Jvm.Cond.code ({ cls := "java/lang/StringUTF16", name := "compress", desc := "([CI[BII)I" } : Jvm.MethodName) jdk_52_method_21_code (7 : Nat) (Option.some Jvm.ClassFile.FieldType.int), Jvm.Cond.code ({ cls := "java/lang/StringUTF16", name := "coderFromArrayLen", desc := "([BI)B" } : Jvm.MethodName) jdk_52_method_15_code (2 : Nat) (Option.some Jvm.ClassFile.FieldType.byte), Jvm.Cond.code ({ cls := "com/example/portcullis/portcullis/authorization/Vote", name := "deny", desc := "([Ljava/lang/String;)Lcom/example/portcullis/portcullis/authorization/Vote;" } : Jvm.MethodName) prog_20_method_3_code (1 : Nat) (Option.some (Jvm.ClassFile.FieldType.object "com/example/portcullis/portcullis/authorization/Vote")), Jvm.Cond.code ({ cls := "com/example/portcullis/portcullis/authorization/Vote", name := "isAllowed", desc := "()Z" } : Jvm.MethodName) prog_20_method_4_code (1 : Nat) (Option.some Jvm.ClassFile.FieldType.boolean), Jvm.Cond.code ({ cls := "com/example/portcullis/portcullis/authorization/Vote", name := "reasons", desc := "()Ljava/util/List;" } : Jvm.MethodName) prog_20_method_5_code (1 : Nat) (Option.some (Jvm.ClassFile.FieldType.object "java/util/List")), Jvm.Cond.code ({ cls := "java/util/ImmutableCollections$ListN", name := "size", desc := "()I" } : Jvm.MethodName) jdk_45_method_3_code (1 : Nat) (Option.some Jvm.ClassFile.FieldType.int), Jvm.Cond.code ({ cls := "java/lang/String", name := "valueOf", desc := "(C)Ljava/lang/String;" } : Jvm.MethodName) jdk_42_method_139_code (1 : Nat) (Option.some (Jvm.ClassFile.FieldType.object "java/lang/String")), Jvm.Cond.code ({ cls := "java/lang/StringLatin1", name := "canEncode", desc := "(C)Z" } : Jvm.MethodName) jdk_43_method_3_code (1 : Nat) (Option.some Jvm.ClassFile.FieldType.boolean), Jvm.Cond.code ({ cls := "java/lang/StringLatin1", name := "toBytes", desc := "(C)[B" } : Jvm.MethodName) jdk_43_method_46_code (1 : Nat) (Option.some (Jvm.ClassFile.FieldType.array Jvm.ClassFile.FieldType.byte)), Jvm.Cond.code ({ cls := "java/lang/String", name := "<init>", desc := "([BB)V" } : Jvm.MethodName) jdk_42_method_151_code (3 : Nat) (Option.none : Option Jvm.ClassFile.FieldType), Jvm.Cond.code ({ cls := "java/util/List", name := "of", desc := "([Ljava/lang/Object;)Ljava/util/List;" } : Jvm.MethodName) jdk_40_method_47_code (2 : Nat) (Option.some (Jvm.ClassFile.FieldType.object "java/util/List")), Jvm.Cond.code ({ cls := "java/util/ImmutableCollections", name := "listFromArray", desc := "([Ljava/lang/Object;)Ljava/util/List;" } : Jvm.MethodName) jdk_56_method_4_code (3 : Nat) (Option.some (Jvm.ClassFile.FieldType.object "java/util/List")), Jvm.Cond.code ({ cls := "java/util/Objects", name := "requireNonNull", desc := "(Ljava/lang/Object;)Ljava/lang/Object;" } : Jvm.MethodName) jdk_31_method_10_code (1 : Nat) (Option.some (Jvm.ClassFile.FieldType.object "java/lang/Object")), Jvm.Cond.code ({ cls := "java/util/ImmutableCollections$ListN", name := "<init>", desc := "([Ljava/lang/Object;Z)V" } : Jvm.MethodName) jdk_45_method_1_code (3 : Nat) (Option.none : Option Jvm.ClassFile.FieldType), Jvm.Cond.code ({ cls := "java/util/ImmutableCollections$AbstractImmutableList", name := "<init>", desc := "()V" } : Jvm.MethodName) jdk_46_method_1_code (1 : Nat) (Option.none : Option Jvm.ClassFile.FieldType), Jvm.Cond.code ({ cls := "java/util/ImmutableCollections$AbstractImmutableCollection", name := "<init>", desc := "()V" } : Jvm.MethodName) jdk_47_method_1_code (1 : Nat) (Option.none : Option Jvm.ClassFile.FieldType), Jvm.Cond.code ({ cls := "java/util/AbstractCollection", name := "<init>", desc := "()V" } : Jvm.MethodName) jdk_22_method_1_code (1 : Nat) (Option.none : Option Jvm.ClassFile.FieldType), Jvm.Cond.code ({ cls := "com/example/portcullis/portcullis/authorization/Vote", name := "<init>", desc := "(ZLjava/util/List;)V" } : Jvm.MethodName) prog_20_method_1_code (3 : Nat) (Option.none : Option Jvm.ClassFile.FieldType), Jvm.Cond.code ({ cls := "java/util/ImmutableCollections$ListN", name := "get", desc := "(I)Ljava/lang/Object;" } : Jvm.MethodName) jdk_45_method_4_code (2 : Nat) (Option.some (Jvm.ClassFile.FieldType.object "java/lang/Object")), Jvm.Cond.code ({ cls := "java/lang/String", name := "equals", desc := "(Ljava/lang/Object;)Z" } : Jvm.MethodName) jdk_42_method_66_code (3 : Nat) (Option.some Jvm.ClassFile.FieldType.boolean), Jvm.Cond.code ({ cls := "java/util/ImmutableCollections$List12", name := "<init>", desc := "(Ljava/lang/Object;Ljava/lang/Object;)V" } : Jvm.MethodName) jdk_44_method_2_code (3 : Nat) (Option.none : Option Jvm.ClassFile.FieldType), Jvm.Cond.code ({ cls := "java/util/ImmutableCollections$List12", name := "size", desc := "()I" } : Jvm.MethodName) jdk_44_method_3_code (1 : Nat) (Option.some Jvm.ClassFile.FieldType.int), Jvm.Cond.code ({ cls := "java/util/ImmutableCollections$List12", name := "get", desc := "(I)Ljava/lang/Object;" } : Jvm.MethodName) jdk_44_method_5_code (2 : Nat) (Option.some (Jvm.ClassFile.FieldType.object "java/lang/Object")), Jvm.Cond.code ({ cls := "java/util/ImmutableCollections$List12", name := "<init>", desc := "(Ljava/lang/Object;)V" } : Jvm.MethodName) jdk_44_method_1_code (2 : Nat) (Option.none : Option Jvm.ClassFile.FieldType)]
set_option maxRecDepth 65536 in
theorem codes_eq : words1.filter isCode = codes1 := rfl
theorem w_codes : ∀ c ∈ words1.filter isCode, c.before args0 about1 = true := by
  rw [codes_eq]
  intro c hc
  simp only [codes1, List.mem_cons, List.not_mem_nil, or_false] at hc
  rcases hc with rfl | rfl | rfl | rfl | rfl | rfl | rfl | rfl | rfl | rfl | rfl | rfl | rfl | rfl | rfl | rfl | rfl | rfl | rfl | rfl | rfl | rfl | rfl | rfl | rfl | rfl | rfl | rfl | rfl | rfl
  · exact w_c0
  · exact w_c1
  · exact w_c2
  · exact w_c3
  · exact w_c4
  · exact w_c5
  · exact w_c6
  · exact w_c7
  · exact w_c8
  · exact w_c9
  · exact w_c10
  · exact w_c11
  · exact w_c12
  · exact w_c13
  · exact w_c14
  · exact w_c15
  · exact w_c16
  · exact w_c17
  · exact w_c18
  · exact w_c19
  · exact w_c20
  · exact w_c21
  · exact w_c22
  · exact w_c23
  · exact w_c24
  · exact w_c25
  · exact w_c26
  · exact w_c27
  · exact w_c28
  · exact w_c29
set_option maxRecDepth 65536 in
theorem w_t1 : (words1.take 24).all (fun c => isCode c || c.before args0 about1) = true := by decide +kernel
set_option maxRecDepth 65536 in
theorem w_t2 : ((words1.drop 24).take 24).all (fun c => isCode c || c.before args0 about1) = true := by decide +kernel
set_option maxRecDepth 65536 in
theorem w_t3 : (((words1.drop 24).drop 24).take 24).all (fun c => isCode c || c.before args0 about1) = true := by decide +kernel
set_option maxRecDepth 65536 in
theorem w_t4 : ((((words1.drop 24).drop 24).drop 24).take 24).all (fun c => isCode c || c.before args0 about1) = true := by decide +kernel
set_option maxRecDepth 65536 in
theorem w_t5 : (((((words1.drop 24).drop 24).drop 24).drop 24).take 24).all (fun c => isCode c || c.before args0 about1) = true := by decide +kernel
set_option maxRecDepth 65536 in
theorem w_t6 : ((((((words1.drop 24).drop 24).drop 24).drop 24).drop 24).take 24).all (fun c => isCode c || c.before args0 about1) = true := by decide +kernel
set_option maxRecDepth 65536 in
theorem w_t7 : (((((((words1.drop 24).drop 24).drop 24).drop 24).drop 24).drop 24).take 24).all (fun c => isCode c || c.before args0 about1) = true := by decide +kernel
set_option maxRecDepth 65536 in
theorem w_t8 : (((((((words1.drop 24).drop 24).drop 24).drop 24).drop 24).drop 24).drop 24).all (fun c => isCode c || c.before args0 about1) = true := by decide +kernel
theorem w_tables : (allAtoms (Jvm.Cond.code x code maxLocals ret :: tables_1)).before args0 about1 = true := by
  rw [allAtoms_all]
  show words1.all (fun c => c.before args0 about1) = true
  refine all_split ?_ w_codes
  rw [← List.take_append_drop 24 words1, List.all_append, w_t1, ← List.take_append_drop 24 (words1.drop 24), List.all_append, w_t2, ← List.take_append_drop 24 ((words1.drop 24).drop 24), List.all_append, w_t3, ← List.take_append_drop 24 (((words1.drop 24).drop 24).drop 24), List.all_append, w_t4, ← List.take_append_drop 24 ((((words1.drop 24).drop 24).drop 24).drop 24), List.all_append, w_t5, ← List.take_append_drop 24 (((((words1.drop 24).drop 24).drop 24).drop 24).drop 24), List.all_append, w_t6, ← List.take_append_drop 24 ((((((words1.drop 24).drop 24).drop 24).drop 24).drop 24).drop 24), List.all_append, w_t7, w_t8]
  rfl
set_option maxRecDepth 65536 in
theorem w_rest : rest_1_c.before args0 about1 = true := by decide +kernel
set_option maxRecDepth 65536 in
theorem w_case : (Jvm.Cond.and given_1 narrow_1).before args0 about1 = true := by decide +kernel
set_option maxRecDepth 65536 in
theorem w_consts : constsHeld consts_1 about1 := Jvm.Lit.constsHeldB_iff.mp (by decide +kernel)
theorem w_applies : (headSpec (Jvm.Cond.code x code maxLocals ret :: tables_1) room_1).applies x e0.platform about1 = true :=
  (Spec.applies_iff w_frames).mpr ⟨w_running, w_runnable, w_alone, w_named, w_hears, w_ripe, w_room, w_tables⟩
theorem atStart : AtStart classFile x code maxLocals ret World_1 tables_1 room_1 Calls_1 rest_1 Pre_1 launch0 p0 e0 about1 theMethod args0 below0 :=
  ⟨lists_1, trivial, launch0.admits_env _ _ _, launch0.least_env, fairChoices_fair.cas, fairChoices_fair.clock, w_frames, w_args, w_heap, w_applies, ⟨w_consts, trivial⟩, w_rest, w_case⟩
end start1
theorem witness_1 : WitnessClaimed_1 := ⟨start1.p0, start1.e0, start1.about1, start1.theMethod, start1.args0, start1.below0, start1.atStart⟩
end Jvm.Pilot.@@N@@
