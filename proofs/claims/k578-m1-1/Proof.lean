import JvmDerived
import JvmDerived.Pilot.@@N@@Statement
import JvmDerived.Pilot.@@N@@Code
set_option linter.unusedVariables false
set_option linter.unusedSimpArgs false
namespace Jvm.Pilot.@@N@@
open Jvm Jvm.ClassFile Sem Op Lib Jvm.Free Jvm.Stand Jvm.LawKit Jvm.RoadKit Bundle Jvm.Pilot.@@N@@.Jvm.D
theorem own_retI {p : Program} {l : Launch} {e : Env} {R : Room} {s : State} {m : MethodId} {args : Array Value} {below : List Frame} {meth : Method} {c : Code} {T : State} {locs : List Loc} {cells slots : Nat} (X : Stand p l e R s m args below meth c T locs cells slots) (hx : p.tables.exec = Jvm.exec) {pc : Nat} {Ls : Array Slot} {z : Int32} {rest : List Value} (hret : meth.sig.returnType = some .int) (hd : decode c.code pc = .ok (.ireturn, 1)) {fs : List Frame}
    (hl : ∀ (f : JFrame) (acts : List Action), f.method = m → f.locked = none → f.entered = [] → (doReturn e (T.setTop f) acts (some (.int z))).1 = T.setFrames fs) : Steps p.tables e below (T.setTop (mkF m pc Ls (.int z :: rest))) (T.setFrames fs) :=
  retOut X hx hret rfl (Or.inl ⟨rfl, Or.inl rfl, z, rfl⟩) hd hl
theorem own_retJ {p : Program} {l : Launch} {e : Env} {R : Room} {s : State} {m : MethodId} {args : Array Value} {below : List Frame} {meth : Method} {c : Code} {T : State} {locs : List Loc} {cells slots : Nat} (X : Stand p l e R s m args below meth c T locs cells slots) (hx : p.tables.exec = Jvm.exec) {pc : Nat} {Ls : Array Slot} {z : Int64} {rest : List Value} (hret : meth.sig.returnType = some .long) (hd : decode c.code pc = .ok (.lreturn, 1)) {fs : List Frame}
    (hl : ∀ (f : JFrame) (acts : List Action), f.method = m → f.locked = none → f.entered = [] → (doReturn e (T.setTop f) acts (some (.long z))).1 = T.setFrames fs) : Steps p.tables e below (T.setTop (mkF m pc Ls (.long z :: rest))) (T.setFrames fs) :=
  retOut X hx hret rfl (Or.inr (Or.inl ⟨rfl, rfl, z, rfl⟩)) hd hl
theorem own_retA {p : Program} {l : Launch} {e : Env} {R : Room} {s : State} {m : MethodId} {args : Array Value} {below : List Frame} {meth : Method} {c : Code} {T : State} {locs : List Loc} {cells slots : Nat} (X : Stand p l e R s m args below meth c T locs cells slots) (hx : p.tables.exec = Jvm.exec) {pc : Nat} {Ls : Array Slot} {w : Value} {rest : List Value} {t : FieldType} (hret : meth.sig.returnType = some t) (ht : t.isReference = true) (hn : narrow t w = w) (hw : w.isRef = true) (hd : decode c.code pc = .ok (.areturn, 1)) {fs : List Frame}
    (hl : ∀ (f : JFrame) (acts : List Action), f.method = m → f.locked = none → f.entered = [] → (doReturn e (T.setTop f) acts (some w)).1 = T.setFrames fs) : Steps p.tables e below (T.setTop (mkF m pc Ls (w :: rest))) (T.setFrames fs) :=
  retOut X hx hret hn (Or.inr (Or.inr (Or.inr (Or.inr ⟨rfl, ht, hw⟩)))) hd hl
theorem own_go {tb : Tables} {e : Env} {below : List Frame} {A B : State} {R : State → Outcome → Prop} (st : ∀ t, Steps tb e below A t → Steps tb e below B t) (h : ∃ U o, Steps tb e below A U ∧ R U o) : ∃ U o, Steps tb e below B U ∧ R U o := by
  obtain ⟨U, o, h1, h2⟩ := h
  exact ⟨U, o, st U h1, h2⟩
theorem own_via {tb : Tables} {e : Env} {below : List Frame} {A B : State} {R : State → Outcome → Prop} (st : Steps tb e below B A) (h : ∃ U o, Steps tb e below A U ∧ R U o) : ∃ U o, Steps tb e below B U ∧ R U o := by
  obtain ⟨U, o, h1, h2⟩ := h
  exact ⟨U, o, st.trans h1, h2⟩
theorem own_eqInt {t : Term} {k : Int32} {args : Array Value} {s : State} (h : (Jvm.Cond.eq t (.int k)).value args s none s [] = some true) : t.eval args s none [] s = some (.int k) := by
  cases ha : t.eval args s none [] s with
  | none => simp [Cond.value, ha] at h
  | some x => cases x <;> simp_all [Cond.value, Term.eval, Value.isRef]
theorem own_selP {s : State} {args : Array Value} {y : MethodName} {n : Nat} (hinst : (Jvm.Cond.instanceMethod y).before args s = true) (hp : (Jvm.Cond.privateMethod y).before args s = true) (hi : (Jvm.Cond.instantiable y.cls n).before args s = true) (hy : y.cls ≠ "java/lang/invoke/MethodHandle" ∧ y.cls ≠ "java/lang/invoke/VarHandle") : (Jvm.Cond.selects y.cls y y).before args s = true := by
  obtain ⟨c, k, h1, h2, -, h4, -, -⟩ := Cond.instantiable_spec hi
  simp only [Bool.or_eq_false_iff] at h4
  exact selects_self_of_private h1 h2 h4.1 (Cond.privateMethod_at hp) hinst hy
theorem own_mvMN {Z s : State} {a0 args : Array Value} {own host : String} {y : MethodName} {index : Nat} (hZ : Z.Warmed39 s.vm) (w : (Jvm.Cond.methodLinkNest own index y host).before a0 Z = true) : (Jvm.Cond.methodLinkNest own index y host).before args s = true := (Cond.methodLinkNest_wide hZ w :)
theorem own_stoV {Z : State} {h : Heap} {a y : Addr} {k : ClassId} {ty : FieldType} {n : Int32} {vs : List Value} {d : Value} {C : String} (F : Arv Z h a k ty n vs d) (O : Ovr Z k C) (I : Ins Z h y C true) : Sto Z h a (.ref y) := by
  obtain ⟨c, A, q, -⟩ := F
  exact Sto.ofV A q O I
theorem own_cat1 {v : Value} (h : v.isRef = true) : v.category = 1 := by cases v <;> simp_all [Value.isRef, Value.category]
theorem own_nref {t : FieldType} {v : Value} (h : v.isRef = true) : narrow t v = v := by cases v <;> simp_all [Value.isRef, narrow]
theorem own_narb (x : Int32) : nar .byte x.toInt8.toInt32 = x.toInt8.toInt32 := by simp [nar]
theorem own_w {Z : State} {a0 : Array Value} (hw : ∀ d ∈ tables_1, d.before a0 Z = true) (i : Nat) {d : Jvm.Cond} (h : tables_1[i]? = some d) : d.before a0 Z = true := hw _ (List.mem_of_getElem? h)
theorem own_bT {P : Prop} [Decidable P] (h : P) : (if P then (1 : Int32) else 0) = 1 := if_pos h
theorem own_bF {P : Prop} [Decidable P] (h : ¬ P) : (if P then (1 : Int32) else 0) = 0 := if_neg h
theorem own_narB {P : Prop} [Decidable P] : nar .boolean (if P then (1 : Int32) else 0) = (if P then (1 : Int32) else 0) := by split <;> rfl
theorem own_newI {p : Program} {l : Launch} {e : Env} {R : Room} {s : State} {m : MethodId} {args : Array Value} {below : List Frame} {meth : Method} {c : Code} {T : State} {locs : List Loc} {cells slots : Nat} {Z : State} {a0 : Array Value} {h : Heap}
    (X : Stand p l e R s m args below meth c T locs cells slots) (hx : p.tables.exec = Jvm.exec) (hZ : Z.Warmed39 s.vm) (w : (Cond.arrayClass .int).before a0 Z = true) (eT : T.heap = h) {g : JFrame} (hg : g.method = m) (hd : decode c.code g.pc = .ok (.newarray .int, 2)) {n : Int32} {rest : List Value} (hs : g.stack = .int n :: rest)
    (hn : ¬ n < 0) {cap : Nat} (hcap : n.toNatClampNeg ≤ cap) (hb : cap * 8 ≤ 536870912) (hc : cells + 1 ≤ R.cells) (hl : slots + cap ≤ R.slots) :
    ∃ T' h' k, Stand p l e R s m args below meth c T' locs (cells + 1) (slots + cap) ∧ T'.heap = h' ∧ Ext h h' ∧ Arr Z h' h.size (newA k .int n) .int ∧ Z.vm.findClass "[I" = some k ∧
      ∀ target, Steps p.tables e below (T'.setTop { g with pc := g.pc + 2, stack := .ref h.size :: rest }) target → Steps p.tables e below (T.setTop g) target := by
  subst eT
  obtain ⟨k, kk, co, f1, -, -, X', st⟩ := X.newarrayPrim hx (atype := .int) (mvA hZ w) hg hd hs hn (Nat.le_trans (Nat.mul_le_mul hcap (show componentBytes .int ≤ 8 by decide)) hb) hc (by omega)
  obtain ⟨k2, kA, comp, g1, g2, g3⟩ := Cond.arrayClass_spec w
  have f2 : Z.vm.findClass "[I" = some k := by rw [hZ.alike.findClass] at f1; exact f1
  have g4 : Z.vm.findClass "[I" = some k2 := g1
  obtain rfl : k2 = k := Option.some.inj (g4.symm.trans f2)
  refine ⟨_, _, k2, X'.more (Nat.le_refl _) (by omega), rfl, ⟨?_, fun a cl ha => ?_⟩, ⟨?_, ⟨?_, kA, g2, comp, g3⟩, ?_⟩, f2, st⟩
  · show T.heap.size ≤ (T.heap.push _).size; rw [Array.size_push]; omega
  · show (T.heap.push _)[a]? = some cl
    rw [Array.getElem?_push]; rw [if_neg (Nat.ne_of_lt (Array.getElem?_eq_some_iff.mp ha).1)]; exact ha
  · show (T.heap.push _)[T.heap.size]? = _
    rw [Array.getElem?_push_size]; rfl
  · intro q hq; cases hq
  · intro hq; cases hq
open Jvm.Free.XT in
theorem own_rtab {Z s : State} {a0 args : Array Value} (hZ : Z.Warmed39 s.vm) (hw : ∀ d ∈ tables_1, d.before a0 Z = true) : Jvm.Free.JA.Range0I.tab.before args s = true := by
  refine unparts (mvT hZ (own_w hw 139 rfl)) (fun w hm => ?_)
  simp only [Jvm.Free.JA.Range0I.site, staticW, acW, List.cons_append, List.nil_append, List.mem_cons, List.not_mem_nil, or_false] at hm
  rcases hm with rfl | rfl | rfl | rfl | rfl | rfl | rfl | rfl | rfl | rfl | rfl | rfl
  · exact mvT hZ (own_w hw 47 rfl)
  · exact unparts (mvT hZ (own_w hw 142 rfl)) (fun w hm => by
        simp only [Jvm.Free.JA.CheckLength.site, List.mem_cons, List.not_mem_nil, or_false] at hm; subst hm; exact mvT hZ (own_w hw 47 rfl))
  · exact mvA hZ (own_w hw 40 rfl)
  · exact unparts (mvT hZ (own_w hw 145 rfl)) (fun w hm => by
        simp only [Jvm.Free.JP.Math_min_II.site, List.mem_cons, List.not_mem_nil, or_false] at hm; subst hm; exact mvT hZ (own_w hw 86 rfl))
  · exact mvT hZ (own_w hw 140 rfl)
  · exact mvT hZ (own_w hw 141 rfl)
  · exact mvT hZ (own_w hw 143 rfl)
  · exact mvT hZ (own_w hw 144 rfl)
  · exact mvT hZ (own_w hw 146 rfl)
  · exact mvT hZ (own_w hw 149 rfl)
  · exact mvT hZ (own_w hw 147 rfl)
  · exact mvT hZ (own_w hw 148 rfl)
open Jvm.Free.XT in
theorem own_ctab {Z s : State} {a0 args : Array Value} (hZ : Z.Warmed39 s.vm) (hw : ∀ d ∈ tables_1, d.before a0 Z = true) : Jvm.Free.JA.CopyOfRangeI.tab.before args s = true := by
  refine unparts (mvT hZ (own_w hw 136 rfl)) (fun w hm => ?_)
  simp only [Jvm.Free.JA.CopyOfRangeI.site, staticW, Jvm.Free.XT.cloneW, List.cons_append, List.nil_append, List.mem_cons, List.not_mem_nil, or_false] at hm
  rcases hm with rfl | rfl | rfl | rfl | rfl | rfl | rfl | rfl | rfl | rfl | rfl | rfl
  · exact mvT hZ (own_w hw 47 rfl)
  · exact mvT hZ (own_w hw 157 rfl)
  · exact mvT hZ (own_w hw 158 rfl)
  · exact own_rtab hZ hw
  · exact mvT hZ (own_w hw 150 rfl)
  · exact mvT hZ (own_w hw 151 rfl)
  · exact mvT hZ (own_w hw 155 rfl)
  · exact mvT hZ (own_w hw 153 rfl)
  · exact mvT hZ (own_w hw 154 rfl)
  · exact mvT hZ (own_w hw 156 rfl)
  · exact mvT hZ (own_w hw 137 rfl)
  · exact mvT hZ (own_w hw 138 rfl)
theorem own_bk {x : Int32} (h : ¬ x < 0) : Int32.ofNat x.toNatClampNeg = x ∧ x.toInt = x.toNatClampNeg := by
  have h0 : (0 : Int32).toInt = 0 := rfl
  rw [Int32.lt_iff_toInt_lt, h0] at h
  have e : x.toInt = x.toNatClampNeg := by rw [Int32.toNatClampNeg]; omega
  refine ⟨Int32.toInt_inj.mp ?_, e⟩
  have := x.toInt_lt
  rw [Int32.toInt_ofNat_of_lt (by omega)]; omega
theorem own_cor {p : Program} {l : Launch} {e : Env} {R : Room} {s : State} {m : MethodId} {args : Array Value} {below : List Frame} {meth : Method} {c : Code} {T : State} {locs : List Loc} {cells slots : Nat} {Z : State} {a0 : Array Value} {h : Heap}
    (X : Stand p l e R s m args below meth c T locs cells slots) (hx : p.tables.exec = Jvm.exec) (hZ : Z.Warmed39 s.vm) (hw : ∀ d ∈ tables_1, d.before a0 Z = true) (hown : s.vm.findClass "com/example/kneiphof/kneiphof/Assignment" = some m.cls) (eT : T.heap = h)
    {d : Addr} {k : ClassId} {z : Int32} {vs : List Value} {dv : Value} (A : Arv Z h d k .int z vs dv) (hk : Z.vm.findClass "[I" = some k) {lo hi : Int32} (h1 : ¬ lo < 0) (h2 : lo.toInt ≤ hi.toInt) (h3 : hi.toInt ≤ z.toInt) (h4 : hi.toInt ≤ lo.toInt + 4)
    {g : JFrame} (hg : g.method = m) (hsize : g.locals.size = c.maxLocals) {rest : List Value} (hs : g.stack = .int hi :: .int lo :: .ref d :: rest) (hd : decode c.code g.pc = .ok (.invokestatic 65, 3)) {W : Nat} (hW : 2 * g.monitorRoom + (rest.map fun v => v.category).sum ≤ W)
    (hf : 3 ≤ R.frames) (hlo : W + 70 ≤ R.locals) (hc : cells + 1 ≤ R.cells) (hl : slots + 4 ≤ R.slots) :
    ∃ T' h', Stand p l e R s m args below meth c T' locs (cells + 1) (slots + 4) ∧ T'.heap = h' ∧ Keep h h' [] ∧
      ∀ target, Steps p.tables e below (T'.setTop { g with pc := g.pc + 3, stack := .ref h.size :: rest }) target → Steps p.tables e below (T.setTop g) target := by
  subst eT
  obtain ⟨cl, Ar, q1, S, M, H, G⟩ := A
  have hhi : ¬ hi < 0 := by
    have h0 : (0 : Int32).toInt = 0 := rfl
    have q := h1; rw [Int32.lt_iff_toInt_lt, h0] at q ⊢; omega
  have b1 := own_bk h1; have b2 := own_bk hhi; have b3 := own_bk M
  have hzl := z.toInt_lt
  have hAr : ∀ vm, s.WarmedH vm → Jvm.Free.XT.Arr .int d cl (T.setVm vm) := fun vm hv => ⟨Ar.1, State.isArrayOf_alike (wtrans hZ hv).alike Ar.2.1, Ar.2.2, by rw [S]; omega⟩
  have hTy : Jvm.Free.XT.Typed .int cl := fun i v hi' => by
    have hlt := (Array.getElem?_eq_some_iff.mp hi').1
    have e := H i hlt; rw [hi'] at e; rw [Option.some.inj e]; exact G i hlt
  obtain ⟨v, vm₁, ⟨U', L', C', S'⟩, -, X', ⟨⟨hv, -, -, -, -, -, -, hK⟩, e1, e2, e3⟩, st⟩ := Jvm.LawKit.callS X hx (y := Jvm.Free.JA.CopyOfRangeI.yN) hown (mvT hZ (own_w hw 134 rfl)) (mvT hZ (own_w hw 135 rfl)) (mvT hZ (own_w hw 47 rfl)) (mvT hZ (own_w hw 136 rfl)) (by decide)
    (Jvm.Free.JA.CopyOfRangeI.pays d cl lo.toNatClampNeg hi.toNatClampNeg (own_ctab hZ hw) hf hlo) hg hsize (argsL := [.ref d, .int lo, .int hi]) (rest := rest) (fun sig hsig => by
      have : parseMethodDescriptor "([III)[I" = some ⟨[.array .int, .int, .int], some (.array .int)⟩ := by decide +kernel
      cases this.symm.trans hsig; rfl) hs hW hd (fun vm hv => ⟨hc, by show slots + _ ≤ _; omega, by rw [b1.1, b2.1], hAr vm hv, by have f : (T.setVm vm).vm.findClass "[I" = Z.vm.findClass "[I" := (wtrans (U := T.setVm vm) hZ hv).alike.findClass _ _; rw [q1]; exact f.trans hk, hTy, by omega, by rw [S]; omega, by omega, by omega⟩)
  dsimp only [Pt.U, Pt.locs, Pt.cells, Pt.slots] at X' hv hK e1 e2 e3 st
  subst hv e1 e2 e3
  rw [List.append_nil] at X'
  refine ⟨U', _, X'.more (Nat.le_refl _) (by omega), rfl, ⟨?_, fun x cx q _ => hK x cx q, fun x cx q => ⟨cx, hK x cx q, rfl, rfl, rfl⟩⟩, st⟩
  by_cases hz : T.heap.size = 0
  · rw [hz]; exact Nat.zero_le _
  · have hlt : T.heap.size - 1 < T.heap.size := by omega
    have := (Array.getElem?_eq_some_iff.mp (hK (T.heap.size - 1) _ (Array.getElem?_eq_getElem hlt))).1
    omega
theorem own_i0 : ((0 : Int32).toInt) = 0 := rfl
theorem own_n0 {x : Int32} (h : 0 ≤ x.toInt) : ¬ (x < 0) := by rw [Int32.lt_iff_toInt_lt, own_i0]; omega
theorem own_nn {x : Int32} (h : ¬ (x < (0 : Int32))) : 0 ≤ x.toInt := by rw [Int32.lt_iff_toInt_lt, own_i0] at h; omega
theorem own_tn {x : Int32} (h : 0 ≤ x.toInt) : x.toInt = x.toNatClampNeg := (own_bk (own_n0 h)).2
theorem own_lt {x y : Int32} (h : x.toInt < y.toInt) : x < y := Int32.lt_iff_toInt_lt.mpr h
theorem own_inc {x y : Int32} (h0 : 0 ≤ x.toInt) (h : x < y) : (x + (1 : Int32)).toInt = x.toInt + 1 := by
  rw [Int32.lt_iff_toInt_lt] at h
  have h1 := c_iadd x 1; have h2 := rng32 (x + 1); have h3 := rng32 y; rw [show ((1 : Int32).toInt) = 1 from rfl] at h1; omega
theorem own_gs (vs : List Value) (k : Nat) (v : Value) (j : Nat) (d : Value) (hk : k < vs.length) : (vs.set k v).getD j d = if j = k then v else vs.getD j d := by
  rw [List.getD_eq_getElem?_getD, List.getElem?_set, List.getD_eq_getElem?_getD]
  by_cases h : k = j
  · subst h; simp [hk]
  · rw [if_neg h, if_neg (fun q => h q.symm)]
def own_pre (vs : List Value) (b : Int) : Prop := ∀ j : Nat, (j : Int) < b → ∃ w : Int32, vs.getD j (.int (0 : Int32)) = .int w ∧ w.toInt = j
theorem d6_0 : decode jdk_65_method_103_code 0 = .ok (.iconst 0, 1) := by decide +kernel
theorem d6_1 : decode jdk_65_method_103_code 1 = .ok (.istore_n 2, 1) := by decide +kernel
theorem d6_2 : decode jdk_65_method_103_code 2 = .ok (.aload_n 0, 1) := by decide +kernel
theorem d6_3 : decode jdk_65_method_103_code 3 = .ok (.arraylength, 1) := by decide +kernel
theorem d6_4 : decode jdk_65_method_103_code 4 = .ok (.istore_n 3, 1) := by decide +kernel
def Q_rmFill (Z : State) (dd : Addr) (fv : Int32) (k : ClassId) (n : Int32) (vs : List Value) (h0 : Heap) (n0 : Nat) (v_ : Option Value) (h_ : Heap) (L_ : List Loc) : Prop := ∃ vr : List Value, v_ = none ∧ Fr n0 L_ ∧ Keep h0 h_ [dd] ∧ Arv Z h_ dd k .int n vr (.int (0 : Int32)) ∧ (vr.length = (n).toNatClampNeg)
theorem d6_5 : decode jdk_65_method_103_code 5 = .ok (.iload_n 2, 1) := by decide +kernel
theorem d6_6 : decode jdk_65_method_103_code 6 = .ok (.iload_n 3, 1) := by decide +kernel
theorem d6_7 : decode jdk_65_method_103_code 7 = .ok (.if_icmp .ge 13, 3) := by decide +kernel
theorem d6_20 : decode jdk_65_method_103_code 20 = .ok (.return_, 1) := by decide +kernel
theorem d6_10 : decode jdk_65_method_103_code 10 = .ok (.aload_n 0, 1) := by decide +kernel
theorem d6_11 : decode jdk_65_method_103_code 11 = .ok (.iload_n 2, 1) := by decide +kernel
theorem d6_12 : decode jdk_65_method_103_code 12 = .ok (.iload_n 1, 1) := by decide +kernel
theorem d6_13 : decode jdk_65_method_103_code 13 = .ok (.iastore, 1) := by decide +kernel
theorem d6_14 : decode jdk_65_method_103_code 14 = .ok (.iinc 2 1, 3) := by decide +kernel
theorem d6_17 : decode jdk_65_method_103_code 17 = .ok (.goto (-12), 3) := by decide +kernel
set_option maxRecDepth 65536 in
set_option maxHeartbeats 40000000 in
theorem own_fill (l : Launch) (Z : State) (a0 : Array Value) (hw : ∀ d ∈ tables_1, d.before a0 Z = true) (dd : Addr) (fv : Int32) (k : ClassId) (n : Int32) (vs : List Value) (h0 : Heap) (n0 : Nat) (Z0 : n0 ≤ h0.size) {p : Program} {e : Env} {s : State} {m : MethodId} {below : List Frame} {meth : Method} {c : Code} (hx : p.tables.exec = Jvm.exec) (hZ : Z.Warmed39 s.vm) (hby : c.code = jdk_65_method_103_code) (hml : c.maxLocals = 4) (hown : s.vm.findClass "java/util/Arrays" = some m.cls) (hret : meth.sig.returnType = none) (hlk : meth.locks = false) (hh : s.heap = h0) (k_ : Nat) :
    ∀ (Tc : State) (Hc : Heap) (locsc : List Loc) (i : Int32) (vl : List Value) (Xc : Stand p l e ({ frames := 0, cells := 0, slots := 0, locals := 0 } : Room) s m #[(.ref dd), (.int fv)] below meth c Tc locsc 0 0) (ec : Tc.heap = Hc) (Nc : Fr n0 locsc) (Kc0 : Keep h0 Hc [dd]) (zc0 : Arv Z Hc dd k .int n vl (.int (0 : Int32))) (gc1 : n0 ≤ dd) (hlen : vs.length = (n).toNatClampNeg) (hn : 0 ≤ n.toInt) (hms : i.toInt + (k_ : Int) = n.toInt) (hi0 : 0 ≤ i.toInt) (hvl : vl.length = (n).toNatClampNeg),
    ∃ U_ o_, Steps p.tables e below (Tc.setTop (mkF m 5 #[.val (.ref dd), .val (.int fv), .val (.int i), .val (.int n)] [])) U_ ∧ U_.status = .running ∧ Ended U_ below o_ ∧ (∃ v_ L_, o_ = .returned v_ ∧ Q_rmFill Z dd fv k n vs h0 n0 v_ U_.heap L_ ∧ FrameEnd s o_ U_ L_ ({ frames := 0, cells := 0, slots := 0, locals := 0 } : Room).cells ({ frames := 0, cells := 0, slots := 0, locals := 0 } : Room).slots) := by
  induction k_ with
  | zero =>
    intro Tc Hc locsc i vl Xc ec Nc Kc0 zc0 gc1 hlen hn hms hi0 hvl
    have hge : ¬ (i < n) := by rw [Int32.lt_iff_toInt_lt]; omega
    refine own_go (A := Tc.setTop (mkF m 20 #[.val (.ref dd), .val (.int fv), .val (.int i), .val (.int n)] [])) (fun t_ k_ => ?_) ?_
    · show Steps p.tables e below (Tc.setTop (mkF m 5 #[.val (.ref dd), .val (.int fv), .val (.int i), .val (.int n)] [])) t_
      refine XS.iloadN Xc.here hx rfl (hb hby d6_5) rfl ?_
      refine XS.iloadN Xc.here hx rfl (hb hby d6_6) rfl ?_
      refine XS.icmpYes Xc.here hx rfl (pc0 := 7) (pc' := 20) rfl (hb hby d6_7) rfl (flt hge).2.1 (by decide) (by decide) ?_
      exact k_
    obtain ⟨fs2, hr2, hrun2, hended2, hW2, hsame2⟩ := Xc.leave (v := none) (fun _ => rfl)
    refine ⟨_, _, ?_, hrun2, hended2, _, _, rfl, ?_, ⟨_, rfl⟩, hW2, hsame2.mono (by decide) (by decide)⟩
    · exact Xc.returnOut hx hret (hb hby d6_20) hr2
    · show Q_rmFill Z dd fv k n vs h0 n0 _ Tc.heap _
      rw [ec]
      exact ⟨vl, rfl, Nc, Kc0, zc0, hvl⟩
  | succ k_ ih =>
    intro Tc Hc locsc i vl Xc ec Nc Kc0 zc0 gc1 hlen hn hms hi0 hvl
    have hlt : i < n := own_lt (by omega)
    refine own_go (A := Tc.setTop (mkF m 13 #[.val (.ref dd), .val (.int fv), .val (.int i), .val (.int n)] [(.int fv), (.int i), (.ref dd)])) (fun t_ k_ => ?_) ?_
    · show Steps p.tables e below (Tc.setTop (mkF m 5 #[.val (.ref dd), .val (.int fv), .val (.int i), .val (.int n)] [])) t_
      refine XS.iloadN Xc.here hx rfl (hb hby d6_5) rfl ?_
      refine XS.iloadN Xc.here hx rfl (hb hby d6_6) rfl ?_
      refine XS.icmpNo Xc.here hx rfl (hb hby d6_7) rfl (tlt hlt).2.1 ?_
      refine XS.aloadN Xc.here hx rfl (hb hby d6_10) rfl rfl ?_
      show Steps p.tables e below (Tc.setTop (mkF m 11 #[.val (.ref dd), .val (.int fv), .val (.int i), .val (.int n)] [(.ref dd)])) t_
      refine XS.iloadN Xc.here hx rfl (hb hby d6_11) rfl ?_
      refine XS.iloadN Xc.here hx rfl (hb hby d6_12) rfl ?_
      exact k_
    obtain ⟨cl3, Ar3, q3, S3, M3, H3, G3⟩ := id zc0
    have hin3 : ¬ (i < 0 ∨ cl3.slots.size ≤ (i).toNatClampNeg) := inb_of S3 ⟨own_n0 hi0, hlt⟩
    obtain ⟨T4, h4, X4, e4, W4, st4⟩ := stI Xc hx hZ ec Ar3 (j := i) hin3 (g := (mkF m 13 #[.val (.ref dd), .val (.int fv), .val (.int i), .val (.int n)] [(.int fv), (.int i), (.ref dd)])) rfl rfl (hb hby d6_13)
    obtain ⟨vs4, hvs4⟩ : ∃ z_ : List Value, z_ = (vl.set (i).toNatClampNeg (.int fv)) := ⟨_, rfl⟩
    have B4 : Arv Z h4 dd k .int n vs4 (.int (0 : Int32)) := hvs4 ▸ Arv.set Ar3 q3 S3 M3 H3 G3 rfl W4 _ rfl (by rw [hvl]; have q1 := own_tn hi0; have q2 := own_tn hn; have q3 := Int32.lt_iff_toInt_lt.mp hlt; omega)
    refine own_go st4 ?_
    have K4 : Keep h0 h4 [dd] := Kc0.wr W4 (Or.inl (List.mem_of_getElem? (i := 0) rfl))
    have N4 := Fr.snoc X4 Nc gc1
    refine own_go (A := T4.setTop (mkF m 5 #[.val (.ref dd), .val (.int fv), .val (.int (i + (1 : Int32))), .val (.int n)] [])) (fun t_ k_ => ?_) ?_
    · show Steps p.tables e below (T4.setTop (mkF m 14 #[.val (.ref dd), .val (.int fv), .val (.int i), .val (.int n)] [])) t_
      refine XS.iinc X4.here hx rfl (hb hby d6_14) rfl (l' := #[.val (.ref dd), .val (.int fv), .val (.int (i + (1 : Int32))), .val (.int n)]) rfl ?_
      refine XS.goto X4.here hx rfl (pc0 := 17) (pc' := 5) rfl (hb hby d6_17) (by decide) (by decide) ?_
      exact k_
    exact ih T4 h4 _ (i + (1 : Int32)) vs4 X4 e4 N4 K4 B4 gc1 hlen hn (by rw [own_inc hi0 hlt]; omega) (by rw [own_inc hi0 hlt]; omega) (by rw [hvs4, List.length_set]; exact hvl)
abbrev own_y0 : MethodName := ⟨"java/util/Arrays", "fill", "([II)V"⟩
theorem ef_rmFill (m : MethodId) (dd : Addr) (fv : Int32) : entryFrame m #[(.ref dd), (.int fv)] 4 = mkF m 0 #[.val (.ref dd), .val (.int fv), .unset, .unset] [] := by first | (simp [entryFrame, mkF, argsToLocals, Value.category]; done) | rfl
theorem pn_0 : plainName "java/util/Arrays" = true := by first | (simp [plainName, overriddenIn]; done) | decide +kernel
set_option maxRecDepth 65536 in
set_option maxHeartbeats 40000000 in
theorem rmFill (l : Launch) (Z : State) (a0 : Array Value) (hw : ∀ d ∈ tables_1, d.before a0 Z = true) (ws : List Jvm.Cond) (dd : Addr) (fv : Int32) (k : ClassId) (n : Int32) (vs : List Value) (h0 : Heap) (n0 : Nat) (Z0 : n0 ≤ h0.size) (u0 : Arv Z h0 dd k .int n vs (.int (0 : Int32))) (u1 : n0 ≤ dd) (hlen : vs.length = (n).toNatClampNeg) (hn : 0 ≤ n.toInt) :
    MetFree l own_y0 (head1 (Jvm.Cond.code own_y0 jdk_65_method_103_code 4 none :: ws) ({ frames := 0, cells := 0, slots := 0, locals := 0 } : Room)) (fun a_ U_ => a_ = #[(.ref dd), (.int fv)] ∧ Z.Warmed39 U_.vm ∧ U_.heap = h0) (fun _ _ _ _ _ => True) (fun _ U_ o_ U2_ => ∃ v_ L_, o_ = .returned v_ ∧ Q_rmFill Z dd fv k n vs h0 n0 v_ U2_.heap L_ ∧ FrameEnd U_ o_ U2_ L_ ({ frames := 0, cells := 0, slots := 0, locals := 0 } : Room).cells ({ frames := 0, cells := 0, slots := 0, locals := 0 } : Room).slots) := by
  refine MetFree.of_bodySF (plainFor_of_name pn_0) hisR ?_
  intro p e s m args below meth c s₁ Bd hml0 hP hK
  obtain ⟨rfl, hZ, hh⟩ := hP
  have hx := Bd.exec
  have hby := Bd.bytes
  have hml : c.maxLocals = 4 := hml0
  have hown : s.vm.findClass "java/util/Arrays" = some m.cls := findClass_of_methodNamed Bd.named
  have hnm := (name_of_methodNamed Bd.named Bd.method).1
  have X0 : Stand p l e ({ frames := 0, cells := 0, slots := 0, locals := 0 } : Room) s m #[(.ref dd), (.int fv)] below meth c s₁ [] 0 0 := Stand.of_body Bd
  have e0 : s₁.heap = h0 := by rw [← hh, Bd.state]; rfl
  have N0 := Fr.nil n0
  refine own_go (A := s₁.setTop (mkF m 0 #[.val (.ref dd), .val (.int fv), .unset, .unset] [])) (fun t_ k_ => castTop (ef_rmFill m dd fv) k_) ?_
  obtain ⟨cl1, Ar1, q1, S1, M1, H1, G1⟩ := id u0
  refine own_go (A := s₁.setTop (mkF m 5 #[.val (.ref dd), .val (.int fv), .val (.int (0 : Int32)), .val (.int n)] [])) (fun t_ k_ => ?_) ?_
  · show Steps p.tables e below (s₁.setTop (mkF m 0 #[.val (.ref dd), .val (.int fv), .unset, .unset] [])) t_
    refine XS.iconst X0.here hx rfl (hb hby d6_0) ?_
    refine XS.istoreN X0.here hx rfl (hb hby d6_1) rfl (l' := #[.val (.ref dd), .val (.int fv), .val (.int (0 : Int32)), .unset]) rfl ?_
    refine XS.aloadN X0.here hx rfl (hb hby d6_2) rfl rfl ?_
    refine X0.arraylength hx (by rw [e0]; exact Ar1.1) (State.isArrayOf_alike hZ.alike Ar1.2.1) (g := (mkF m 3 #[.val (.ref dd), .val (.int fv), .val (.int (0 : Int32)), .unset] [(.ref dd)])) rfl rfl (hb hby d6_3) _ ?_
    rw [len_of S1 M1]
    show Steps p.tables e below (s₁.setTop (mkF m 4 #[.val (.ref dd), .val (.int fv), .val (.int (0 : Int32)), .unset] [(.int n)])) t_
    refine XS.istoreN X0.here hx rfl (hb hby d6_4) rfl (l' := #[.val (.ref dd), .val (.int fv), .val (.int (0 : Int32)), .val (.int n)]) rfl ?_
    exact k_
  exact own_fill l Z a0 hw dd fv k n vs h0 n0 Z0 hx hZ hby hml hown Bd.returns (BodyLoose.notSynchronized Bd) hh (n.toInt).toNat s₁ h0 _ (0 : Int32) vs X0 e0 N0 (Keep.refl h0 [dd]) u0 u1 hlen hn (by show (0 : Int) + _ = _; omega) (Int.le_refl 0) hlen
theorem d5_0 : decode jdk_22_method_1_code 0 = .ok (.aload_n 0, 1) := by decide +kernel
theorem d5_1 : decode jdk_22_method_1_code 1 = .ok (.invokespecial 1, 3) := by decide +kernel
theorem d5_4 : decode jdk_22_method_1_code 4 = .ok (.return_, 1) := by decide +kernel
abbrev own_y1 : MethodName := ⟨"java/util/AbstractCollection", "<init>", "()V"⟩
theorem ef_rmABC (m : MethodId) (a : Addr) : entryFrame m #[(.ref a)] 1 = mkF m 0 #[.val (.ref a)] [] := by first | (simp [entryFrame, mkF, argsToLocals, Value.category]; done) | rfl
def Q_rmABC (Z : State) (a : Addr) (h0 : Heap) (n0 : Nat) (v_ : Option Value) (h_ : Heap) (L_ : List Loc) : Prop := v_ = none ∧ Fr n0 L_ ∧ h_ = h0
theorem pn_1 : plainName "java/util/AbstractCollection" = true := by first | (simp [plainName, overriddenIn]; done) | decide +kernel
set_option maxRecDepth 65536 in
set_option maxHeartbeats 40000000 in
theorem rmABC (l : Launch) (Z : State) (a0 : Array Value) (hw : ∀ d ∈ tables_1, d.before a0 Z = true) (ws : List Jvm.Cond) (a : Addr) (h0 : Heap) (n0 : Nat) (Z0 : n0 ≤ h0.size)  :
    MetFree l own_y1 (head1 (Jvm.Cond.code own_y1 jdk_22_method_1_code 1 none :: ws) ({ frames := 1, cells := 0, slots := 0, locals := 12 } : Room)) (fun a_ U_ => a_ = #[(.ref a)] ∧ Z.Warmed39 U_.vm ∧ U_.heap = h0) (fun _ _ _ _ _ => True) (fun _ U_ o_ U2_ => ∃ v_ L_, o_ = .returned v_ ∧ Q_rmABC Z a h0 n0 v_ U2_.heap L_ ∧ FrameEnd U_ o_ U2_ L_ ({ frames := 1, cells := 0, slots := 0, locals := 12 } : Room).cells ({ frames := 1, cells := 0, slots := 0, locals := 12 } : Room).slots) := by
  refine MetFree.of_bodySF (plainFor_of_name pn_1) hisR ?_
  intro p e s m args below meth c s₁ Bd hml0 hP hK
  obtain ⟨rfl, hZ, hh⟩ := hP
  have hx := Bd.exec
  have hby := Bd.bytes
  have hml : c.maxLocals = 1 := hml0
  have hown : s.vm.findClass "java/util/AbstractCollection" = some m.cls := findClass_of_methodNamed Bd.named
  have hnm := (name_of_methodNamed Bd.named Bd.method).1
  have X0 : Stand p l e ({ frames := 1, cells := 0, slots := 0, locals := 12 } : Room) s m #[(.ref a)] below meth c s₁ [] 0 0 := Stand.of_body Bd
  have e0 : s₁.heap = h0 := by rw [← hh, Bd.state]; rfl
  have N0 := Fr.nil n0
  refine own_go (A := s₁.setTop (mkF m 0 #[.val (.ref a)] [])) (fun t_ k_ => castTop (ef_rmABC m a) k_) ?_
  refine own_go (A := s₁.setTop (mkF m 1 #[.val (.ref a)] [(.ref a)])) (fun t_ k_ => ?_) ?_
  · show Steps p.tables e below (s₁.setTop (mkF m 0 #[.val (.ref a)] [])) t_
    refine XS.aloadN X0.here hx rfl (hb hby d5_0) rfl rfl ?_
    exact k_
  obtain ⟨T1, X1, e1, st1⟩ := initO X0 hx hZ hown (own_w hw 28 rfl) (own_w hw 8 rfl) (own_w hw 9 rfl) e0 (g := (mkF m 1 #[.val (.ref a)] [(.ref a)])) rfl (by rw [hml]; rfl) rfl (hb hby d5_1) (by decide) (W := 0) (by show 2 * 0 + _ ≤ _; exact Nat.le_of_eq rfl) (by decide)
  refine own_go st1 ?_
  obtain ⟨fs2, hr2, hrun2, hended2, hW2, hsame2⟩ := X1.leave (v := none) (fun _ => rfl)
  refine ⟨_, _, ?_, hrun2, hended2, _, _, rfl, ?_, ⟨_, rfl⟩, hW2, hsame2.mono (by decide) (by decide)⟩
  · exact X1.returnOut hx Bd.returns (hb hby d5_4) hr2
  · show Q_rmABC Z a h0 n0 _ T1.heap _
    rw [e1]
    exact ⟨rfl, N0, rfl⟩
theorem d4_0 : decode jdk_39_method_1_code 0 = .ok (.aload_n 0, 1) := by decide +kernel
theorem pd_0 : parseMethodDescriptor "()V" = some ⟨[], none⟩ := by decide +kernel
theorem d4_1 : decode jdk_39_method_1_code 1 = .ok (.invokespecial 1, 3) := by decide +kernel
theorem d4_4 : decode jdk_39_method_1_code 4 = .ok (.aload_n 0, 1) := by decide +kernel
theorem d4_5 : decode jdk_39_method_1_code 5 = .ok (.iconst 0, 1) := by decide +kernel
theorem d4_6 : decode jdk_39_method_1_code 6 = .ok (.putfield 7, 3) := by decide +kernel
theorem d4_9 : decode jdk_39_method_1_code 9 = .ok (.return_, 1) := by decide +kernel
abbrev own_y2 : MethodName := ⟨"java/util/AbstractList", "<init>", "()V"⟩
theorem ef_rmABL (m : MethodId) (a : Addr) : entryFrame m #[(.ref a)] 1 = mkF m 0 #[.val (.ref a)] [] := by first | (simp [entryFrame, mkF, argsToLocals, Value.category]; done) | rfl
def Q_rmABL (Z : State) (a : Addr) (h0 : Heap) (n0 : Nat) (v_ : Option Value) (h_ : Heap) (L_ : List Loc) : Prop := v_ = none ∧ Fr n0 L_ ∧ Keep h0 h_ [a] ∧ Fld Z h_ a "java/util/ArrayList" "elementData" "[Ljava/lang/Object;" .null ∧ Fld Z h_ a "java/util/ArrayList" "size" "I" (.int (0 : Int32)) ∧ Fld Z h_ a "java/util/AbstractList" "modCount" "I" (.int (0 : Int32))
theorem pn_2 : plainName "java/util/AbstractList" = true := by first | (simp [plainName, overriddenIn]; done) | decide +kernel
set_option maxRecDepth 65536 in
set_option maxHeartbeats 40000000 in
theorem rmABL (l : Launch) (Z : State) (a0 : Array Value) (hw : ∀ d ∈ tables_1, d.before a0 Z = true) (ws : List Jvm.Cond) (a : Addr) (h0 : Heap) (n0 : Nat) (Z0 : n0 ≤ h0.size) (u0 : Exa Z h0 a "java/util/ArrayList") (u1 : Fld Z h0 a "java/util/ArrayList" "elementData" "[Ljava/lang/Object;" .null) (u2 : Fld Z h0 a "java/util/ArrayList" "size" "I" (.int (0 : Int32))) (u3 : Fld Z h0 a "java/util/AbstractList" "modCount" "I" (.int (0 : Int32))) (u4 : n0 ≤ a) :
    MetFree l own_y2 (head1 (Jvm.Cond.code own_y2 jdk_39_method_1_code 1 none :: ws) ({ frames := 2, cells := 0, slots := 0, locals := 24 } : Room)) (fun a_ U_ => a_ = #[(.ref a)] ∧ Z.Warmed39 U_.vm ∧ U_.heap = h0) (fun _ _ _ _ _ => True) (fun _ U_ o_ U2_ => ∃ v_ L_, o_ = .returned v_ ∧ Q_rmABL Z a h0 n0 v_ U2_.heap L_ ∧ FrameEnd U_ o_ U2_ L_ ({ frames := 2, cells := 0, slots := 0, locals := 24 } : Room).cells ({ frames := 2, cells := 0, slots := 0, locals := 24 } : Room).slots) := by
  refine MetFree.of_bodySF (plainFor_of_name pn_2) hisR ?_
  intro p e s m args below meth c s₁ Bd hml0 hP hK
  obtain ⟨rfl, hZ, hh⟩ := hP
  have hx := Bd.exec
  have hby := Bd.bytes
  have hml : c.maxLocals = 1 := hml0
  have hown : s.vm.findClass "java/util/AbstractList" = some m.cls := findClass_of_methodNamed Bd.named
  have hnm := (name_of_methodNamed Bd.named Bd.method).1
  have X0 : Stand p l e ({ frames := 2, cells := 0, slots := 0, locals := 24 } : Room) s m #[(.ref a)] below meth c s₁ [] 0 0 := Stand.of_body Bd
  have e0 : s₁.heap = h0 := by rw [← hh, Bd.state]; rfl
  have N0 := Fr.nil n0
  refine own_go (A := s₁.setTop (mkF m 0 #[.val (.ref a)] [])) (fun t_ k_ => castTop (ef_rmABL m a) k_) ?_
  refine own_go (A := s₁.setTop (mkF m 1 #[.val (.ref a)] [(.ref a)])) (fun t_ k_ => ?_) ?_
  · show Steps p.tables e below (s₁.setTop (mkF m 0 #[.val (.ref a)] [])) t_
    refine XS.aloadN X0.here hx rfl (hb hby d4_0) rfl rfl ?_
    exact k_
  obtain ⟨_, _, ⟨T1, L1, k1, n1⟩, -, X1, ⟨Lc1, hQ1, l1, y1, z1⟩, st1⟩ := X0.specialBack hx (y := own_y1) rfl hown (mvT hZ (own_w hw 22 rfl)) (mvT hZ (own_w hw 23 rfl)) (mvT hZ (own_w hw 27 rfl)) (by decide) (backOf (W := 0) (rmABC l Z a0 hw [] a h0 n0 Z0) hZ (own_w hw 27 rfl) (own_w hw 26 rfl) (by decide) (by decide)) (g := (mkF m 1 #[.val (.ref a)] [(.ref a)])) rfl (by rw [hml]; rfl) (Steps.refl _) (a := a) (argsL := []) (rest := []) (lenOf pd_0 rfl) rfl (by show 2 * 0 + _ ≤ _; exact Nat.le_of_eq rfl) (hb hby d4_1) (fun _ _ => ⟨rfl, e0, (by decide : 0 + 0 ≤ _), (by decide : 0 + 0 ≤ _)⟩)
  dsimp only [Pt.U, Pt.locs, Pt.cells, Pt.slots] at X1 l1 y1 z1 st1 hQ1
  subst l1 y1 z1
  obtain ⟨rfl, N1q, eh1⟩ := hQ1
  have N1 := Fr.app N0 N1q
  refine own_via st1 ?_
  refine own_go (A := T1.setTop (mkF m 6 #[.val (.ref a)] [(.int (0 : Int32)), (.ref a)])) (fun t_ k_ => ?_) ?_
  · show Steps p.tables e below (T1.setTop (mkF m 4 #[.val (.ref a)] [])) t_
    refine XS.aloadN X1.here hx rfl (hb hby d4_4) rfl rfl ?_
    refine XS.iconst X1.here hx rfl (hb hby d4_5) ?_
    exact k_
  obtain ⟨T2, h2, X2, e2, W2, st2⟩ := putF X1 hx hZ hown (host := "") (Or.inl (own_w hw 29 rfl)) Via.refl eh1 u3 u0 (Or.inl (own_w hw 30 rfl)) (own_w hw 11 rfl) (ty := .int) (by decide) rfl rfl (g := (mkF m 6 #[.val (.ref a)] [(.int (0 : Int32)), (.ref a)])) rfl rfl (hb hby d4_6)
  have Fw2 : Fld Z h2 a "java/util/AbstractList" "modCount" "I" (.int (0 : Int32)) := u3.same W2
  refine own_go st2 ?_
  have K2 : Keep h0 h2 [a] := (Keep.refl h0 [a]).wr W2 (Or.inl (List.mem_of_getElem? (i := 0) rfl))
  have N2 := Fr.snoc X2 N1 u4
  obtain ⟨fs3, hr3, hrun3, hended3, hW3, hsame3⟩ := X2.leave (v := none) (fun _ => rfl)
  refine ⟨_, _, ?_, hrun3, hended3, _, _, rfl, ?_, ⟨_, rfl⟩, hW3, hsame3.mono (by decide) (by decide)⟩
  · exact X2.returnOut hx Bd.returns (hb hby d4_9) hr3
  · show Q_rmABL Z a h0 n0 _ T2.heap _
    rw [e2]
    exact ⟨rfl, N2, K2, (u1.other W2 (Or.inr (slot_ne (Or.inl (own_w hw 33 rfl)) (Or.inl (own_w hw 30 rfl)) (by decide) (t := (.array (.object "java/lang/Object"))) (t' := .int) (by decide) (by decide)))), (u2.other W2 (Or.inr (slot_ne (Or.inl (own_w hw 68 rfl)) (Or.inl (own_w hw 30 rfl)) (by decide) (t := .int) (t' := .int) (by decide) (by decide)))), Fw2⟩
theorem d3_0 : decode jdk_38_method_2_code 0 = .ok (.aload_n 0, 1) := by decide +kernel
theorem d3_1 : decode jdk_38_method_2_code 1 = .ok (.invokespecial 1, 3) := by decide +kernel
theorem d3_4 : decode jdk_38_method_2_code 4 = .ok (.aload_n 0, 1) := by decide +kernel
theorem d3_5 : decode jdk_38_method_2_code 5 = .ok (.getstatic 39, 3) := by decide +kernel
theorem d3_8 : decode jdk_38_method_2_code 8 = .ok (.putfield 9, 3) := by decide +kernel
theorem d3_11 : decode jdk_38_method_2_code 11 = .ok (.return_, 1) := by decide +kernel
abbrev own_y3 : MethodName := ⟨"java/util/ArrayList", "<init>", "()V"⟩
theorem ef_rmALI (m : MethodId) (a : Addr) : entryFrame m #[(.ref a)] 1 = mkF m 0 #[.val (.ref a)] [] := by first | (simp [entryFrame, mkF, argsToLocals, Value.category]; done) | rfl
def Q_rmALI (Z : State) (a : Addr) (dc : Addr) (h0 : Heap) (n0 : Nat) (v_ : Option Value) (h_ : Heap) (L_ : List Loc) : Prop := v_ = none ∧ Fr n0 L_ ∧ Keep h0 h_ [a] ∧ Fld Z h_ a "java/util/ArrayList" "elementData" "[Ljava/lang/Object;" (.ref dc) ∧ Fld Z h_ a "java/util/ArrayList" "size" "I" (.int (0 : Int32)) ∧ Fld Z h_ a "java/util/AbstractList" "modCount" "I" (.int (0 : Int32))
theorem pn_3 : plainName "java/util/ArrayList" = true := by first | (simp [plainName, overriddenIn]; done) | decide +kernel
set_option maxRecDepth 65536 in
set_option maxHeartbeats 40000000 in
theorem rmALI (l : Launch) (Z : State) (a0 : Array Value) (hw : ∀ d ∈ tables_1, d.before a0 Z = true) (ws : List Jvm.Cond) (a : Addr) (dc : Addr) (h0 : Heap) (n0 : Nat) (Z0 : n0 ≤ h0.size) (O0 : Old Z n0 h0) (u1 : Sta Z Z.heap "java/util/ArrayList" "DEFAULTCAPACITY_EMPTY_ELEMENTDATA" "[Ljava/lang/Object;" (.ref dc)) (u2 : Exa Z h0 a "java/util/ArrayList") (u3 : Fld Z h0 a "java/util/ArrayList" "elementData" "[Ljava/lang/Object;" .null) (u4 : Fld Z h0 a "java/util/ArrayList" "size" "I" (.int (0 : Int32))) (u5 : Fld Z h0 a "java/util/AbstractList" "modCount" "I" (.int (0 : Int32))) (u6 : n0 ≤ a) :
    MetFree l own_y3 (head1 (Jvm.Cond.code own_y3 jdk_38_method_2_code 1 none :: ws) ({ frames := 3, cells := 0, slots := 0, locals := 36 } : Room)) (fun a_ U_ => a_ = #[(.ref a)] ∧ Z.Warmed39 U_.vm ∧ U_.heap = h0) (fun _ _ _ _ _ => True) (fun _ U_ o_ U2_ => ∃ v_ L_, o_ = .returned v_ ∧ Q_rmALI Z a dc h0 n0 v_ U2_.heap L_ ∧ FrameEnd U_ o_ U2_ L_ ({ frames := 3, cells := 0, slots := 0, locals := 36 } : Room).cells ({ frames := 3, cells := 0, slots := 0, locals := 36 } : Room).slots) := by
  refine MetFree.of_bodySF (plainFor_of_name pn_3) hisR ?_
  intro p e s m args below meth c s₁ Bd hml0 hP hK
  obtain ⟨rfl, hZ, hh⟩ := hP
  have hx := Bd.exec
  have hby := Bd.bytes
  have hml : c.maxLocals = 1 := hml0
  have hown : s.vm.findClass "java/util/ArrayList" = some m.cls := findClass_of_methodNamed Bd.named
  have hnm := (name_of_methodNamed Bd.named Bd.method).1
  have X0 : Stand p l e ({ frames := 3, cells := 0, slots := 0, locals := 36 } : Room) s m #[(.ref a)] below meth c s₁ [] 0 0 := Stand.of_body Bd
  have e0 : s₁.heap = h0 := by rw [← hh, Bd.state]; rfl
  have N0 := Fr.nil n0
  refine own_go (A := s₁.setTop (mkF m 0 #[.val (.ref a)] [])) (fun t_ k_ => castTop (ef_rmALI m a) k_) ?_
  refine own_go (A := s₁.setTop (mkF m 1 #[.val (.ref a)] [(.ref a)])) (fun t_ k_ => ?_) ?_
  · show Steps p.tables e below (s₁.setTop (mkF m 0 #[.val (.ref a)] [])) t_
    refine XS.aloadN X0.here hx rfl (hb hby d3_0) rfl rfl ?_
    exact k_
  obtain ⟨_, _, ⟨T1, L1, k1, n1⟩, -, X1, ⟨Lc1, hQ1, l1, y1, z1⟩, st1⟩ := X0.specialBack hx (y := own_y2) rfl hown (mvT hZ (own_w hw 16 rfl)) (mvT hZ (own_w hw 17 rfl)) (mvT hZ (own_w hw 21 rfl)) (by decide) (backOf (W := 0) (rmABL l Z a0 hw [] a h0 n0 Z0 u2 u3 u4 u5 u6) hZ (own_w hw 21 rfl) (own_w hw 20 rfl) (by decide) (by decide)) (g := (mkF m 1 #[.val (.ref a)] [(.ref a)])) rfl (by rw [hml]; rfl) (Steps.refl _) (a := a) (argsL := []) (rest := []) (lenOf pd_0 rfl) rfl (by show 2 * 0 + _ ≤ _; exact Nat.le_of_eq rfl) (hb hby d3_1) (fun _ _ => ⟨rfl, e0, (by decide : 0 + 0 ≤ _), (by decide : 0 + 0 ≤ _)⟩)
  dsimp only [Pt.U, Pt.locs, Pt.cells, Pt.slots] at X1 l1 y1 z1 st1 hQ1
  subst l1 y1 z1
  obtain ⟨rfl, N1q, Kc1, r1_0, r1_1, r1_2⟩ := hQ1
  have N1 := Fr.app N0 N1q
  refine own_via st1 ?_
  have K1 : Keep h0 T1.heap [a] := (Keep.refl h0 [a]).trans Kc1 (allS (P := fun x => x ∈ _ ∨ _ ≤ x) (Or.inl (List.mem_of_getElem? (i := 0) rfl)) all0)
  have O1 := O0.keep Kc1 (allS (P := fun x => n0 ≤ x) u6 all0)
  refine own_go (A := T1.setTop (mkF m 5 #[.val (.ref a)] [(.ref a)])) (fun t_ k_ => ?_) ?_
  · show Steps p.tables e below (T1.setTop (mkF m 4 #[.val (.ref a)] [])) t_
    refine XS.aloadN X1.here hx rfl (hb hby d3_4) rfl rfl ?_
    exact k_
  obtain ⟨T2, X2, e2, st2⟩ := getS2 X1 hx hZ hown (host := "") (Or.inl (own_w hw 31 rfl)) Via.refl rfl (u1.ext O1.2) (g := (mkF m 5 #[.val (.ref a)] [(.ref a)])) rfl (hb hby d3_5)
  refine own_go st2 ?_
  obtain ⟨T3, h3, X3, e3, W3, st3⟩ := putF X2 hx hZ hown (host := "") (Or.inl (own_w hw 32 rfl)) Via.refl e2 r1_0 (u2.keep Kc1) (Or.inl (own_w hw 33 rfl)) (own_w hw 11 rfl) (ty := (.array (.object "java/lang/Object"))) (by decide) rfl rfl (g := (mkF m 8 #[.val (.ref a)] [(.ref dc), (.ref a)])) rfl rfl (hb hby d3_8)
  have Fw3 : Fld Z h3 a "java/util/ArrayList" "elementData" "[Ljava/lang/Object;" (.ref dc) := r1_0.same W3
  refine own_go st3 ?_
  have K3 : Keep h0 h3 [a] := K1.wr W3 (Or.inl (List.mem_of_getElem? (i := 0) rfl))
  have O3 := O1.wr W3 u6
  have N3 := Fr.snoc X3 N1 u6
  obtain ⟨fs4, hr4, hrun4, hended4, hW4, hsame4⟩ := X3.leave (v := none) (fun _ => rfl)
  refine ⟨_, _, ?_, hrun4, hended4, _, _, rfl, ?_, ⟨_, rfl⟩, hW4, hsame4.mono (by decide) (by decide)⟩
  · exact X3.returnOut hx Bd.returns (hb hby d3_11) hr4
  · show Q_rmALI Z a dc h0 n0 _ T3.heap _
    rw [e3]
    exact ⟨rfl, N3, K3, Fw3, (r1_1.other W3 (Or.inr (slot_ne (Or.inl (own_w hw 68 rfl)) (Or.inl (own_w hw 33 rfl)) (by decide) (t := .int) (t' := (.array (.object "java/lang/Object"))) (by decide) (by decide)))), (r1_2.other W3 (Or.inr (slot_ne (Or.inl (own_w hw 30 rfl)) (Or.inl (own_w hw 33 rfl)) (by decide) (t := .int) (t' := (.array (.object "java/lang/Object"))) (by decide) (by decide))))⟩
theorem d12_0 : decode jdk_29_method_65_code 0 = .ok (.iload_n 0, 1) := by decide +kernel
theorem d12_1 : decode jdk_29_method_65_code 1 = .ok (.iload_n 1, 1) := by decide +kernel
theorem d12_2 : decode jdk_29_method_65_code 2 = .ok (.if_icmp .lt 7, 3) := by decide +kernel
theorem d12_5 : decode jdk_29_method_65_code 5 = .ok (.iload_n 0, 1) := by decide +kernel
theorem d12_6 : decode jdk_29_method_65_code 6 = .ok (.goto 4, 3) := by decide +kernel
theorem d12_10 : decode jdk_29_method_65_code 10 = .ok (.ireturn, 1) := by decide +kernel
abbrev own_y4 : MethodName := ⟨"java/lang/Math", "max", "(II)I"⟩
theorem ef_rmMax10 (m : MethodId)  : entryFrame m #[(.int (10 : Int32)), (.int (1 : Int32))] 2 = mkF m 0 #[.val (.int (10 : Int32)), .val (.int (1 : Int32))] [] := by first | (simp [entryFrame, mkF, argsToLocals, Value.category]; done) | rfl
def Q_rmMax10 (Z : State)  (h0 : Heap) (n0 : Nat) (v_ : Option Value) (h_ : Heap) (L_ : List Loc) : Prop := v_ = some (.int (10 : Int32)) ∧ Fr n0 L_ ∧ h_ = h0
set_option maxRecDepth 65536 in
set_option maxHeartbeats 40000000 in
theorem rmMax10 (l : Launch) (Z : State) (a0 : Array Value) (hw : ∀ d ∈ tables_1, d.before a0 Z = true) (ws : List Jvm.Cond)  (h0 : Heap) (n0 : Nat) (Z0 : n0 ≤ h0.size)  :
    MetFree l own_y4 (head1 (Jvm.Cond.code own_y4 jdk_29_method_65_code 2 (some .int) :: ws) ({ frames := 0, cells := 0, slots := 0, locals := 0 } : Room)) (fun a_ U_ => a_ = #[(.int (10 : Int32)), (.int (1 : Int32))] ∧ Z.Warmed39 U_.vm ∧ U_.heap = h0) (fun _ _ _ _ _ => True) (fun _ U_ o_ U2_ => ∃ v_ L_, o_ = .returned v_ ∧ Q_rmMax10 Z  h0 n0 v_ U2_.heap L_ ∧ FrameEnd U_ o_ U2_ L_ ({ frames := 0, cells := 0, slots := 0, locals := 0 } : Room).cells ({ frames := 0, cells := 0, slots := 0, locals := 0 } : Room).slots) := by
  refine MetFree.of_bodySF (Jvm.Free.JP.mathPlain rfl (by decide +kernel)) hisR ?_
  intro p e s m args below meth c s₁ Bd hml0 hP hK
  obtain ⟨rfl, hZ, hh⟩ := hP
  have hx := Bd.exec
  have hby := Bd.bytes
  have hml : c.maxLocals = 2 := hml0
  have hown : s.vm.findClass "java/lang/Math" = some m.cls := findClass_of_methodNamed Bd.named
  have hnm := (name_of_methodNamed Bd.named Bd.method).1
  have X0 : Stand p l e ({ frames := 0, cells := 0, slots := 0, locals := 0 } : Room) s m #[(.int (10 : Int32)), (.int (1 : Int32))] below meth c s₁ [] 0 0 := Stand.of_body Bd
  have e0 : s₁.heap = h0 := by rw [← hh, Bd.state]; rfl
  have N0 := Fr.nil n0
  refine own_go (A := s₁.setTop (mkF m 0 #[.val (.int (10 : Int32)), .val (.int (1 : Int32))] [])) (fun t_ k_ => castTop (ef_rmMax10 m ) k_) ?_
  refine own_go (A := s₁.setTop (mkF m 10 #[.val (.int (10 : Int32)), .val (.int (1 : Int32))] [(.int (10 : Int32))])) (fun t_ k_ => ?_) ?_
  · show Steps p.tables e below (s₁.setTop (mkF m 0 #[.val (.int (10 : Int32)), .val (.int (1 : Int32))] [])) t_
    refine XS.iloadN X0.here hx rfl (hb hby d12_0) rfl ?_
    refine XS.iloadN X0.here hx rfl (hb hby d12_1) rfl ?_
    refine XS.icmpNo X0.here hx rfl (hb hby d12_2) rfl (flt (by decide : ¬ ((10 : Int32) < (1 : Int32)))).1 ?_
    refine XS.iloadN X0.here hx rfl (hb hby d12_5) rfl ?_
    show Steps p.tables e below (s₁.setTop (mkF m 6 #[.val (.int (10 : Int32)), .val (.int (1 : Int32))] [(.int (10 : Int32))])) t_
    refine XS.goto X0.here hx rfl (pc0 := 6) (pc' := 10) rfl (hb hby d12_6) (by decide) (by decide) ?_
    exact k_
  obtain ⟨fs1, hr1, hrun1, hended1, hW1, hsame1⟩ := X0.leave (v := some (.int (10 : Int32))) (fun h => by rw [Bd.returns] at h; cases h)
  refine ⟨_, _, ?_, hrun1, hended1, _, _, rfl, ?_, ⟨_, rfl⟩, hW1, hsame1.mono (by decide) (by decide)⟩
  · exact own_retI X0 hx Bd.returns (hb hby d12_10) hr1
  · show Q_rmMax10 Z  h0 n0 _ s₁.heap _
    rw [e0]
    exact ⟨rfl, N0, rfl⟩
theorem d11_0 : decode jdk_38_method_6_code 0 = .ok (.aload_n 0, 1) := by decide +kernel
theorem d11_1 : decode jdk_38_method_6_code 1 = .ok (.getfield 9, 3) := by decide +kernel
theorem d11_4 : decode jdk_38_method_6_code 4 = .ok (.arraylength, 1) := by decide +kernel
theorem d11_5 : decode jdk_38_method_6_code 5 = .ok (.istore_n 2, 1) := by decide +kernel
theorem d11_6 : decode jdk_38_method_6_code 6 = .ok (.iload_n 2, 1) := by decide +kernel
theorem d11_7 : decode jdk_38_method_6_code 7 = .ok (.ifCond .gt 13, 3) := by decide +kernel
theorem d11_10 : decode jdk_38_method_6_code 10 = .ok (.aload_n 0, 1) := by decide +kernel
theorem d11_11 : decode jdk_38_method_6_code 11 = .ok (.getfield 9, 3) := by decide +kernel
theorem d11_14 : decode jdk_38_method_6_code 14 = .ok (.getstatic 39, 3) := by decide +kernel
theorem d11_17 : decode jdk_38_method_6_code 17 = .ok (.if_acmp .eq 28, 3) := by decide +kernel
theorem d11_45 : decode jdk_38_method_6_code 45 = .ok (.aload_n 0, 1) := by decide +kernel
theorem d11_46 : decode jdk_38_method_6_code 46 = .ok (.bipush 10, 2) := by decide +kernel
theorem d11_48 : decode jdk_38_method_6_code 48 = .ok (.iload_n 1, 1) := by decide +kernel
theorem pd_1 : parseMethodDescriptor "(II)I" = some ⟨[.int, .int], some .int⟩ := by decide +kernel
theorem d11_49 : decode jdk_38_method_6_code 49 = .ok (.invokestatic 79, 3) := by decide +kernel
theorem d11_52 : decode jdk_38_method_6_code 52 = .ok (.anewarray 7, 3) := by decide +kernel
theorem d11_55 : decode jdk_38_method_6_code 55 = .ok (.dup_x1, 1) := by decide +kernel
theorem d11_56 : decode jdk_38_method_6_code 56 = .ok (.putfield 9, 3) := by decide +kernel
theorem d11_59 : decode jdk_38_method_6_code 59 = .ok (.areturn, 1) := by decide +kernel
abbrev own_y5 : MethodName := ⟨"java/util/ArrayList", "grow", "(I)[Ljava/lang/Object;"⟩
theorem ef_rmGrowI (m : MethodId) (a : Addr) : entryFrame m #[(.ref a), (.int (1 : Int32))] 4 = mkF m 0 #[.val (.ref a), .val (.int (1 : Int32)), .unset, .unset] [] := by first | (simp [entryFrame, mkF, argsToLocals, Value.category]; done) | rfl
def Q_rmGrowI (Z : State) (a : Addr) (dc : Addr) (kd : ClassId) (mc : Int32) (h0 : Heap) (n0 : Nat) (v_ : Option Value) (h_ : Heap) (L_ : List Loc) : Prop := ∃ ed : Addr, ∃ k : ClassId, v_ = some (.ref ed) ∧ Fr n0 L_ ∧ Keep h0 h_ [a] ∧ h0.size ≤ ed ∧ Arv Z h_ ed k (.object "java/lang/Object") (10 : Int32) [.null, .null, .null, .null, .null, .null, .null, .null, .null, .null] .null ∧ Ovr Z k "java/lang/Object" ∧ Fld Z h_ a "java/util/ArrayList" "elementData" "[Ljava/lang/Object;" (.ref ed) ∧ Fld Z h_ a "java/util/ArrayList" "size" "I" (.int (0 : Int32)) ∧ Fld Z h_ a "java/util/AbstractList" "modCount" "I" (.int mc)
set_option maxRecDepth 65536 in
set_option maxHeartbeats 40000000 in
theorem rmGrowI (l : Launch) (Z : State) (a0 : Array Value) (hw : ∀ d ∈ tables_1, d.before a0 Z = true) (ws : List Jvm.Cond) (a : Addr) (dc : Addr) (kd : ClassId) (mc : Int32) (h0 : Heap) (n0 : Nat) (Z0 : n0 ≤ h0.size) (O0 : Old Z n0 h0) (u1 : Sta Z Z.heap "java/util/ArrayList" "DEFAULTCAPACITY_EMPTY_ELEMENTDATA" "[Ljava/lang/Object;" (.ref dc)) (u2 : Exa Z h0 a "java/util/ArrayList") (u3 : Fld Z h0 a "java/util/ArrayList" "elementData" "[Ljava/lang/Object;" (.ref dc)) (u4 : Fld Z h0 a "java/util/ArrayList" "size" "I" (.int (0 : Int32))) (u5 : Fld Z h0 a "java/util/AbstractList" "modCount" "I" (.int mc)) (u6 : Arv Z Z.heap dc kd (.object "java/lang/Object") (0 : Int32) [] .null) (u7 : n0 ≤ a) :
    MetFree l own_y5 (head1 (Jvm.Cond.code own_y5 jdk_38_method_6_code 4 (some (.array (.object "java/lang/Object"))) :: ws) ({ frames := 1, cells := 1, slots := 10, locals := 14 } : Room)) (fun a_ U_ => a_ = #[(.ref a), (.int (1 : Int32))] ∧ Z.Warmed39 U_.vm ∧ U_.heap = h0) (fun _ _ _ _ _ => True) (fun _ U_ o_ U2_ => ∃ v_ L_, o_ = .returned v_ ∧ Q_rmGrowI Z a dc kd mc h0 n0 v_ U2_.heap L_ ∧ FrameEnd U_ o_ U2_ L_ ({ frames := 1, cells := 1, slots := 10, locals := 14 } : Room).cells ({ frames := 1, cells := 1, slots := 10, locals := 14 } : Room).slots) := by
  refine MetFree.of_bodySF (plainFor_of_name pn_3) hisR ?_
  intro p e s m args below meth c s₁ Bd hml0 hP hK
  obtain ⟨rfl, hZ, hh⟩ := hP
  have hx := Bd.exec
  have hby := Bd.bytes
  have hml : c.maxLocals = 4 := hml0
  have hown : s.vm.findClass "java/util/ArrayList" = some m.cls := findClass_of_methodNamed Bd.named
  have hnm := (name_of_methodNamed Bd.named Bd.method).1
  have X0 : Stand p l e ({ frames := 1, cells := 1, slots := 10, locals := 14 } : Room) s m #[(.ref a), (.int (1 : Int32))] below meth c s₁ [] 0 0 := Stand.of_body Bd
  have e0 : s₁.heap = h0 := by rw [← hh, Bd.state]; rfl
  have N0 := Fr.nil n0
  refine own_go (A := s₁.setTop (mkF m 0 #[.val (.ref a), .val (.int (1 : Int32)), .unset, .unset] [])) (fun t_ k_ => castTop (ef_rmGrowI m a) k_) ?_
  refine own_go (A := s₁.setTop (mkF m 1 #[.val (.ref a), .val (.int (1 : Int32)), .unset, .unset] [(.ref a)])) (fun t_ k_ => ?_) ?_
  · show Steps p.tables e below (s₁.setTop (mkF m 0 #[.val (.ref a), .val (.int (1 : Int32)), .unset, .unset] [])) t_
    refine XS.aloadN X0.here hx rfl (hb hby d11_0) rfl rfl ?_
    exact k_
  obtain ⟨T1, X1, e1, st1⟩ := getF X0 hx hZ hown (host := "") (Or.inl (own_w hw 32 rfl)) Via.refl e0 u3 (g := (mkF m 1 #[.val (.ref a), .val (.int (1 : Int32)), .unset, .unset] [(.ref a)])) rfl rfl (hb hby d11_1)
  refine own_go st1 ?_
  obtain ⟨cl2, Ar2, q2, S2, M2, H2, G2⟩ := id (u6.ext O0.2)
  refine own_go (A := T1.setTop (mkF m 11 #[.val (.ref a), .val (.int (1 : Int32)), .val (.int (0 : Int32)), .unset] [(.ref a)])) (fun t_ k_ => ?_) ?_
  · show Steps p.tables e below (T1.setTop (mkF m 4 #[.val (.ref a), .val (.int (1 : Int32)), .unset, .unset] [(.ref dc)])) t_
    refine X1.arraylength hx (by rw [e1]; exact Ar2.1) (State.isArrayOf_alike hZ.alike Ar2.2.1) (g := (mkF m 4 #[.val (.ref a), .val (.int (1 : Int32)), .unset, .unset] [(.ref dc)])) rfl rfl (hb hby d11_4) _ ?_
    rw [len_of S2 M2]
    refine XS.istoreN X1.here hx rfl (hb hby d11_5) rfl (l' := #[.val (.ref a), .val (.int (1 : Int32)), .val (.int (0 : Int32)), .unset]) rfl ?_
    refine XS.iloadN X1.here hx rfl (hb hby d11_6) rfl ?_
    refine XS.ifNo X1.here hx rfl (hb hby d11_7) rfl ((if0 _ _).trans (flt (by decide : ¬ ((0 : Int32) < (0 : Int32)))).2.2.1) ?_
    show Steps p.tables e below (T1.setTop (mkF m 10 #[.val (.ref a), .val (.int (1 : Int32)), .val (.int (0 : Int32)), .unset] [])) t_
    refine XS.aloadN X1.here hx rfl (hb hby d11_10) rfl rfl ?_
    exact k_
  obtain ⟨T3, X3, e3, st3⟩ := getF X1 hx hZ hown (host := "") (Or.inl (own_w hw 32 rfl)) Via.refl e1 u3 (g := (mkF m 11 #[.val (.ref a), .val (.int (1 : Int32)), .val (.int (0 : Int32)), .unset] [(.ref a)])) rfl rfl (hb hby d11_11)
  refine own_go st3 ?_
  obtain ⟨T4, X4, e4, st4⟩ := getS2 X3 hx hZ hown (host := "") (Or.inl (own_w hw 31 rfl)) Via.refl e3 (u1.ext O0.2) (g := (mkF m 14 #[.val (.ref a), .val (.int (1 : Int32)), .val (.int (0 : Int32)), .unset] [(.ref dc)])) rfl (hb hby d11_14)
  refine own_go st4 ?_
  refine own_go (A := T4.setTop (mkF m 49 #[.val (.ref a), .val (.int (1 : Int32)), .val (.int (0 : Int32)), .unset] [(.int (1 : Int32)), (.int (10 : Int32)), (.ref a)])) (fun t_ k_ => ?_) ?_
  · show Steps p.tables e below (T4.setTop (mkF m 17 #[.val (.ref a), .val (.int (1 : Int32)), .val (.int (0 : Int32)), .unset] [(.ref dc), (.ref dc)])) t_
    refine Jvm.RoadKit.acmp (g := (mkF m 17 #[.val (.ref a), .val (.int (1 : Int32)), .val (.int (0 : Int32)), .unset] [(.ref dc), (.ref dc)])) X4 hx rfl rfl rfl (pc0 := 17) (pc' := 45) (same := true) rfl (hb hby d11_17) rfl (decide_eq_true rfl) (by decide) (by decide) ?_
    refine XS.aloadN X4.here hx rfl (hb hby d11_45) rfl rfl ?_
    refine XS.bipush X4.here hx rfl (hb hby d11_46) ?_
    refine XS.iloadN X4.here hx rfl (hb hby d11_48) rfl ?_
    exact k_
  obtain ⟨_, _, ⟨T5, L5, k5, n5⟩, -, X5, ⟨Lc5, hQ5, l5, y5, z5⟩, st5⟩ := Jvm.LawKit.callS X4 hx (y := own_y4) hown (mvT hZ (own_w hw 84 rfl)) (mvT hZ (own_w hw 85 rfl)) (mvT hZ (own_w hw 86 rfl)) (mvT hZ (own_w hw 87 rfl)) (by decide) (backOf (W := 1) (rmMax10 l Z a0 hw [] h0 n0 Z0) hZ (own_w hw 87 rfl) (own_w hw 86 rfl) (by decide) (by decide)) (g := (mkF m 49 #[.val (.ref a), .val (.int (1 : Int32)), .val (.int (0 : Int32)), .unset] [(.int (1 : Int32)), (.int (10 : Int32)), (.ref a)])) rfl (by rw [hml]; rfl) (argsL := [(.int (10 : Int32)), (.int (1 : Int32))]) (rest := [(.ref a)]) (lenOf pd_1 rfl) rfl (by show 2 * 0 + _ ≤ _; exact Nat.le_of_eq rfl) (hb hby d11_49) (fun _ _ => ⟨rfl, e4, (by decide : 0 + 0 ≤ _), (by decide : 0 + 0 ≤ _)⟩)
  dsimp only [Pt.U, Pt.locs, Pt.cells, Pt.slots] at X5 l5 y5 z5 st5 hQ5
  subst l5 y5 z5
  obtain ⟨rfl, N5q, eh5⟩ := hQ5
  have N5 := Fr.app N0 N5q
  refine own_go st5 ?_
  obtain ⟨T6, h6, k6, X6, e6, E6, A6, V6, st6⟩ := newR X5 hx hZ hown (own_w hw 88 rfl) (own_w hw 89 rfl) eh5 (g := (mkF m 52 #[.val (.ref a), .val (.int (1 : Int32)), .val (.int (0 : Int32)), .unset] [(.int (10 : Int32)), (.ref a)])) rfl (hb hby d11_52) rfl (by decide) (cap := 10) (by decide) (by decide) (by decide) (by decide)
  obtain ⟨b6, g6⟩ : ∃ z, z = h0.size := ⟨_, rfl⟩
  rw [← g6] at A6 st6
  refine own_go st6 ?_
  have K6 : Keep h0 h6 [a] := (Keep.refl h0 [a]).ext E6
  have O6 := O0.ext E6
  have B6 : Arv Z h6 b6 k6 (.object "java/lang/Object") (10 : Int32) [.null, .null, .null, .null, .null, .null, .null, .null, .null, .null] .null := (Arv.new A6 (by decide)).pad (pad_rep [] .null 10)
  refine own_go (A := T6.setTop (mkF m 56 #[.val (.ref a), .val (.int (1 : Int32)), .val (.int (0 : Int32)), .unset] [(.ref b6), (.ref a), (.ref b6)])) (fun t_ k_ => ?_) ?_
  · show Steps p.tables e below (T6.setTop (mkF m 55 #[.val (.ref a), .val (.int (1 : Int32)), .val (.int (0 : Int32)), .unset] [(.ref b6), (.ref a)])) t_
    refine XS.dupX1 X6.here hx rfl (hb hby d11_55) rfl rfl rfl ?_
    exact k_
  obtain ⟨T7, h7, X7, e7, W7, st7⟩ := putF X6 hx hZ hown (host := "") (Or.inl (own_w hw 32 rfl)) Via.refl e6 (u3.ext E6) (u2.ext E6) (Or.inl (own_w hw 33 rfl)) (own_w hw 11 rfl) (ty := (.array (.object "java/lang/Object"))) (by decide) rfl rfl (g := (mkF m 56 #[.val (.ref a), .val (.int (1 : Int32)), .val (.int (0 : Int32)), .unset] [(.ref b6), (.ref a), (.ref b6)])) rfl rfl (hb hby d11_56)
  have Fw7 : Fld Z h7 a "java/util/ArrayList" "elementData" "[Ljava/lang/Object;" (.ref b6) := (u3.ext E6).same W7
  refine own_go st7 ?_
  have K7 : Keep h0 h7 [a] := K6.wr W7 (Or.inl (List.mem_of_getElem? (i := 0) rfl))
  have O7 := O6.wr W7 u7
  have N7 := Fr.snoc X7 N5 u7
  obtain ⟨fs8, hr8, hrun8, hended8, hW8, hsame8⟩ := X7.leave (v := some (.ref b6)) (fun h => by rw [Bd.returns] at h; cases h)
  refine ⟨_, _, ?_, hrun8, hended8, _, _, rfl, ?_, ⟨_, rfl⟩, hW8, hsame8.mono (by decide) (by decide)⟩
  · exact own_retA X7 hx Bd.returns rfl rfl rfl (hb hby d11_59) hr8
  · show Q_rmGrowI Z a dc kd mc h0 n0 _ T7.heap _
    rw [e7]
    exact ⟨b6, k6, rfl, N7, K7, (Nat.le_of_eq g6.symm), (B6.other W7 (Ne.symm (Nat.ne_of_lt (Nat.lt_of_lt_of_le u2.lt (Nat.le_of_eq g6.symm))))), V6, Fw7, ((u4.ext E6).other W7 (Or.inr (slot_ne (Or.inl (own_w hw 68 rfl)) (Or.inl (own_w hw 33 rfl)) (by decide) (t := .int) (t' := (.array (.object "java/lang/Object"))) (by decide) (by decide)))), ((u5.ext E6).other W7 (Or.inr (slot_ne (Or.inl (own_w hw 30 rfl)) (Or.inl (own_w hw 33 rfl)) (by decide) (t := .int) (t' := (.array (.object "java/lang/Object"))) (by decide) (by decide))))⟩
theorem d10_0 : decode jdk_38_method_7_code 0 = .ok (.aload_n 0, 1) := by decide +kernel
theorem d10_1 : decode jdk_38_method_7_code 1 = .ok (.aload_n 0, 1) := by decide +kernel
theorem d10_2 : decode jdk_38_method_7_code 2 = .ok (.getfield 48, 3) := by decide +kernel
theorem d10_5 : decode jdk_38_method_7_code 5 = .ok (.iconst 1, 1) := by decide +kernel
theorem d10_6 : decode jdk_38_method_7_code 6 = .ok (.iadd, 1) := by decide +kernel
theorem pd_2 : parseMethodDescriptor "(I)[Ljava/lang/Object;" = some ⟨[.int], some (.array (.object "java/lang/Object"))⟩ := by decide +kernel
theorem d10_7 : decode jdk_38_method_7_code 7 = .ok (.invokevirtual 69, 3) := by decide +kernel
theorem d10_10 : decode jdk_38_method_7_code 10 = .ok (.areturn, 1) := by decide +kernel
abbrev own_y6 : MethodName := ⟨"java/util/ArrayList", "grow", "()[Ljava/lang/Object;"⟩
theorem ef_rmGrow (m : MethodId) (a : Addr) : entryFrame m #[(.ref a)] 1 = mkF m 0 #[.val (.ref a)] [] := by first | (simp [entryFrame, mkF, argsToLocals, Value.category]; done) | rfl
def Q_rmGrow (Z : State) (a : Addr) (dc : Addr) (kd : ClassId) (mc : Int32) (h0 : Heap) (n0 : Nat) (v_ : Option Value) (h_ : Heap) (L_ : List Loc) : Prop := ∃ ed : Addr, ∃ k : ClassId, v_ = some (.ref ed) ∧ Fr n0 L_ ∧ Keep h0 h_ [a] ∧ h0.size ≤ ed ∧ Arv Z h_ ed k (.object "java/lang/Object") (10 : Int32) [.null, .null, .null, .null, .null, .null, .null, .null, .null, .null] .null ∧ Ovr Z k "java/lang/Object" ∧ Fld Z h_ a "java/util/ArrayList" "elementData" "[Ljava/lang/Object;" (.ref ed) ∧ Fld Z h_ a "java/util/ArrayList" "size" "I" (.int (0 : Int32)) ∧ Fld Z h_ a "java/util/AbstractList" "modCount" "I" (.int mc)
set_option maxRecDepth 65536 in
set_option maxHeartbeats 40000000 in
theorem rmGrow (l : Launch) (Z : State) (a0 : Array Value) (hw : ∀ d ∈ tables_1, d.before a0 Z = true) (ws : List Jvm.Cond) (a : Addr) (dc : Addr) (kd : ClassId) (mc : Int32) (h0 : Heap) (n0 : Nat) (Z0 : n0 ≤ h0.size) (O0 : Old Z n0 h0) (u1 : Sta Z Z.heap "java/util/ArrayList" "DEFAULTCAPACITY_EMPTY_ELEMENTDATA" "[Ljava/lang/Object;" (.ref dc)) (u2 : Exa Z h0 a "java/util/ArrayList") (u3 : Fld Z h0 a "java/util/ArrayList" "elementData" "[Ljava/lang/Object;" (.ref dc)) (u4 : Fld Z h0 a "java/util/ArrayList" "size" "I" (.int (0 : Int32))) (u5 : Fld Z h0 a "java/util/AbstractList" "modCount" "I" (.int mc)) (u6 : Arv Z Z.heap dc kd (.object "java/lang/Object") (0 : Int32) [] .null) (u7 : n0 ≤ a) :
    MetFree l own_y6 (head1 (Jvm.Cond.code own_y6 jdk_38_method_7_code 1 (some (.array (.object "java/lang/Object"))) :: ws) ({ frames := 2, cells := 1, slots := 10, locals := 29 } : Room)) (fun a_ U_ => a_ = #[(.ref a)] ∧ Z.Warmed39 U_.vm ∧ U_.heap = h0) (fun _ _ _ _ _ => True) (fun _ U_ o_ U2_ => ∃ v_ L_, o_ = .returned v_ ∧ Q_rmGrow Z a dc kd mc h0 n0 v_ U2_.heap L_ ∧ FrameEnd U_ o_ U2_ L_ ({ frames := 2, cells := 1, slots := 10, locals := 29 } : Room).cells ({ frames := 2, cells := 1, slots := 10, locals := 29 } : Room).slots) := by
  refine MetFree.of_bodySF (plainFor_of_name pn_3) hisR ?_
  intro p e s m args below meth c s₁ Bd hml0 hP hK
  obtain ⟨rfl, hZ, hh⟩ := hP
  have hx := Bd.exec
  have hby := Bd.bytes
  have hml : c.maxLocals = 1 := hml0
  have hown : s.vm.findClass "java/util/ArrayList" = some m.cls := findClass_of_methodNamed Bd.named
  have hnm := (name_of_methodNamed Bd.named Bd.method).1
  have X0 : Stand p l e ({ frames := 2, cells := 1, slots := 10, locals := 29 } : Room) s m #[(.ref a)] below meth c s₁ [] 0 0 := Stand.of_body Bd
  have e0 : s₁.heap = h0 := by rw [← hh, Bd.state]; rfl
  have N0 := Fr.nil n0
  refine own_go (A := s₁.setTop (mkF m 0 #[.val (.ref a)] [])) (fun t_ k_ => castTop (ef_rmGrow m a) k_) ?_
  refine own_go (A := s₁.setTop (mkF m 2 #[.val (.ref a)] [(.ref a), (.ref a)])) (fun t_ k_ => ?_) ?_
  · show Steps p.tables e below (s₁.setTop (mkF m 0 #[.val (.ref a)] [])) t_
    refine XS.aloadN X0.here hx rfl (hb hby d10_0) rfl rfl ?_
    refine XS.aloadN X0.here hx rfl (hb hby d10_1) rfl rfl ?_
    exact k_
  obtain ⟨T1, X1, e1, st1⟩ := getF X0 hx hZ hown (host := "") (Or.inl (own_w hw 67 rfl)) Via.refl e0 u4 (g := (mkF m 2 #[.val (.ref a)] [(.ref a), (.ref a)])) rfl rfl (hb hby d10_2)
  refine own_go st1 ?_
  refine own_go (A := T1.setTop (mkF m 7 #[.val (.ref a)] [(.int (1 : Int32)), (.ref a)])) (fun t_ k_ => ?_) ?_
  · show Steps p.tables e below (T1.setTop (mkF m 5 #[.val (.ref a)] [(.int (0 : Int32)), (.ref a)])) t_
    refine XS.iconst X1.here hx rfl (hb hby d10_5) ?_
    refine XS.iadd X1.here hx rfl (hb hby d10_6) rfl ?_
    exact k_
  obtain ⟨cq2, q2, q2'⟩ := u2.cell
  obtain ⟨_, _, ⟨T2, L2, k2, n2⟩, -, X2, ⟨Lc2, hQ2, l2, y2, z2⟩, st2⟩ := X1.privateBack hx (y := own_y5) hown (mvT hZ (own_w hw 79 rfl)) (mvT hZ (own_w hw 80 rfl)) (mvT hZ (own_w hw 82 rfl)) (Cond.privateMethod_at (mvP hZ (own_w hw 81 rfl) (args := #[]))) (mvT hZ (own_w hw 83 rfl)) (by decide) (backOf (W := 0) (rmGrowI l Z a0 hw [] a dc kd mc h0 n0 Z0 O0 u1 u2 u3 u4 u5 u6 u7) hZ (own_w hw 83 rfl) (own_w hw 12 rfl) (by decide) (by decide)) (g := (mkF m 7 #[.val (.ref a)] [(.int (1 : Int32)), (.ref a)])) rfl (by rw [hml]; rfl) (Steps.refl _) (a := a) (by rw [e1]; exact q2) q2' (argsL := [(.int (1 : Int32))]) (rest := []) (lenOf pd_2 rfl) rfl (by show 2 * 0 + _ ≤ _; exact Nat.le_of_eq rfl) (hb hby d10_7) (fun _ _ => ⟨rfl, e1, (by decide : 0 + 1 ≤ _), (by decide : 0 + 10 ≤ _)⟩)
  dsimp only [Pt.U, Pt.locs, Pt.cells, Pt.slots] at X2 l2 y2 z2 st2 hQ2
  subst l2 y2 z2
  obtain ⟨ed_2, k_2, rfl, N2q, Kc2, r2_0, r2_1, r2_2, r2_3, r2_4, r2_5⟩ := hQ2
  have N2 := Fr.app N0 N2q
  refine own_via st2 ?_
  have K2 : Keep h0 T2.heap [a] := (Keep.refl h0 [a]).trans Kc2 (allS (P := fun x => x ∈ _ ∨ _ ≤ x) (Or.inl (List.mem_of_getElem? (i := 0) rfl)) all0)
  have O2 := O0.keep Kc2 (allS (P := fun x => n0 ≤ x) u7 all0)
  obtain ⟨fs3, hr3, hrun3, hended3, hW3, hsame3⟩ := X2.leave (v := some (.ref ed_2)) (fun h => by rw [Bd.returns] at h; cases h)
  refine ⟨_, _, ?_, hrun3, hended3, _, _, rfl, ?_, ⟨_, rfl⟩, hW3, hsame3.mono (by decide) (by decide)⟩
  · exact own_retA X2 hx Bd.returns rfl rfl rfl (hb hby d10_10) hr3
  · show Q_rmGrow Z a dc kd mc h0 n0 _ T2.heap _
    exact ⟨ed_2, k_2, rfl, N2, K2, r2_0, r2_1, r2_2, r2_3, r2_4, r2_5⟩
theorem d9_0 : decode jdk_38_method_24_code 0 = .ok (.iload_n 3, 1) := by decide +kernel
theorem d9_1 : decode jdk_38_method_24_code 1 = .ok (.aload_n 2, 1) := by decide +kernel
theorem d9_2 : decode jdk_38_method_24_code 2 = .ok (.arraylength, 1) := by decide +kernel
theorem d9_3 : decode jdk_38_method_24_code 3 = .ok (.if_icmp .ne 8, 3) := by decide +kernel
theorem d9_6 : decode jdk_38_method_24_code 6 = .ok (.aload_n 0, 1) := by decide +kernel
theorem pd_3 : parseMethodDescriptor "()[Ljava/lang/Object;" = some ⟨[], some (.array (.object "java/lang/Object"))⟩ := by decide +kernel
theorem d9_7 : decode jdk_38_method_24_code 7 = .ok (.invokevirtual 129, 3) := by decide +kernel
theorem d9_10 : decode jdk_38_method_24_code 10 = .ok (.astore_n 2, 1) := by decide +kernel
theorem d9_11 : decode jdk_38_method_24_code 11 = .ok (.aload_n 2, 1) := by decide +kernel
theorem d9_12 : decode jdk_38_method_24_code 12 = .ok (.iload_n 3, 1) := by decide +kernel
theorem d9_13 : decode jdk_38_method_24_code 13 = .ok (.aload_n 1, 1) := by decide +kernel
theorem d9_14 : decode jdk_38_method_24_code 14 = .ok (.aastore, 1) := by decide +kernel
theorem d9_15 : decode jdk_38_method_24_code 15 = .ok (.aload_n 0, 1) := by decide +kernel
theorem d9_16 : decode jdk_38_method_24_code 16 = .ok (.iload_n 3, 1) := by decide +kernel
theorem d9_17 : decode jdk_38_method_24_code 17 = .ok (.iconst 1, 1) := by decide +kernel
theorem d9_18 : decode jdk_38_method_24_code 18 = .ok (.iadd, 1) := by decide +kernel
theorem d9_19 : decode jdk_38_method_24_code 19 = .ok (.putfield 48, 3) := by decide +kernel
theorem d9_22 : decode jdk_38_method_24_code 22 = .ok (.return_, 1) := by decide +kernel
abbrev own_y7 : MethodName := ⟨"java/util/ArrayList", "add", "(Ljava/lang/Object;[Ljava/lang/Object;I)V"⟩
theorem ef_rmAddP0 (m : MethodId) (a : Addr) (xx : Addr) (dc : Addr) : entryFrame m #[(.ref a), (.ref xx), (.ref dc), (.int (0 : Int32))] 4 = mkF m 0 #[.val (.ref a), .val (.ref xx), .val (.ref dc), .val (.int (0 : Int32))] [] := by first | (simp [entryFrame, mkF, argsToLocals, Value.category]; done) | rfl
def Q_rmAddP0 (Z : State) (a : Addr) (xx : Addr) (dc : Addr) (kd : ClassId) (mc : Int32) (h0 : Heap) (n0 : Nat) (v_ : Option Value) (h_ : Heap) (L_ : List Loc) : Prop := ∃ ed : Addr, ∃ k : ClassId, v_ = none ∧ Fr n0 L_ ∧ Keep h0 h_ [a] ∧ h0.size ≤ ed ∧ Arv Z h_ ed k (.object "java/lang/Object") (10 : Int32) [(.ref xx), .null, .null, .null, .null, .null, .null, .null, .null, .null] .null ∧ Ovr Z k "java/lang/Object" ∧ Fld Z h_ a "java/util/ArrayList" "elementData" "[Ljava/lang/Object;" (.ref ed) ∧ Fld Z h_ a "java/util/ArrayList" "size" "I" (.int (1 : Int32)) ∧ Fld Z h_ a "java/util/AbstractList" "modCount" "I" (.int mc)
set_option maxRecDepth 65536 in
set_option maxHeartbeats 40000000 in
theorem rmAddP0 (l : Launch) (Z : State) (a0 : Array Value) (hw : ∀ d ∈ tables_1, d.before a0 Z = true) (ws : List Jvm.Cond) (a : Addr) (xx : Addr) (dc : Addr) (kd : ClassId) (mc : Int32) (h0 : Heap) (n0 : Nat) (Z0 : n0 ≤ h0.size) (O0 : Old Z n0 h0) (u1 : Sta Z Z.heap "java/util/ArrayList" "DEFAULTCAPACITY_EMPTY_ELEMENTDATA" "[Ljava/lang/Object;" (.ref dc)) (u2 : Exa Z h0 a "java/util/ArrayList") (u3 : Fld Z h0 a "java/util/ArrayList" "elementData" "[Ljava/lang/Object;" (.ref dc)) (u4 : Fld Z h0 a "java/util/ArrayList" "size" "I" (.int (0 : Int32))) (u5 : Fld Z h0 a "java/util/AbstractList" "modCount" "I" (.int mc)) (u6 : Arv Z Z.heap dc kd (.object "java/lang/Object") (0 : Int32) [] .null) (u7 : n0 ≤ a) (u8 : Exa Z h0 xx "java/lang/Integer") :
    MetFree l own_y7 (head1 (Jvm.Cond.code own_y7 jdk_38_method_24_code 4 none :: ws) ({ frames := 3, cells := 1, slots := 10, locals := 41 } : Room)) (fun a_ U_ => a_ = #[(.ref a), (.ref xx), (.ref dc), (.int (0 : Int32))] ∧ Z.Warmed39 U_.vm ∧ U_.heap = h0) (fun _ _ _ _ _ => True) (fun _ U_ o_ U2_ => ∃ v_ L_, o_ = .returned v_ ∧ Q_rmAddP0 Z a xx dc kd mc h0 n0 v_ U2_.heap L_ ∧ FrameEnd U_ o_ U2_ L_ ({ frames := 3, cells := 1, slots := 10, locals := 41 } : Room).cells ({ frames := 3, cells := 1, slots := 10, locals := 41 } : Room).slots) := by
  refine MetFree.of_bodySF (plainFor_of_name pn_3) hisR ?_
  intro p e s m args below meth c s₁ Bd hml0 hP hK
  obtain ⟨rfl, hZ, hh⟩ := hP
  have hx := Bd.exec
  have hby := Bd.bytes
  have hml : c.maxLocals = 4 := hml0
  have hown : s.vm.findClass "java/util/ArrayList" = some m.cls := findClass_of_methodNamed Bd.named
  have hnm := (name_of_methodNamed Bd.named Bd.method).1
  have X0 : Stand p l e ({ frames := 3, cells := 1, slots := 10, locals := 41 } : Room) s m #[(.ref a), (.ref xx), (.ref dc), (.int (0 : Int32))] below meth c s₁ [] 0 0 := Stand.of_body Bd
  have e0 : s₁.heap = h0 := by rw [← hh, Bd.state]; rfl
  have N0 := Fr.nil n0
  refine own_go (A := s₁.setTop (mkF m 0 #[.val (.ref a), .val (.ref xx), .val (.ref dc), .val (.int (0 : Int32))] [])) (fun t_ k_ => castTop (ef_rmAddP0 m a xx dc) k_) ?_
  obtain ⟨cl1, Ar1, q1, S1, M1, H1, G1⟩ := id (u6.ext O0.2)
  refine own_go (A := s₁.setTop (mkF m 7 #[.val (.ref a), .val (.ref xx), .val (.ref dc), .val (.int (0 : Int32))] [(.ref a)])) (fun t_ k_ => ?_) ?_
  · show Steps p.tables e below (s₁.setTop (mkF m 0 #[.val (.ref a), .val (.ref xx), .val (.ref dc), .val (.int (0 : Int32))] [])) t_
    refine XS.iloadN X0.here hx rfl (hb hby d9_0) rfl ?_
    refine XS.aloadN X0.here hx rfl (hb hby d9_1) rfl rfl ?_
    refine X0.arraylength hx (by rw [e0]; exact Ar1.1) (State.isArrayOf_alike hZ.alike Ar1.2.1) (g := (mkF m 2 #[.val (.ref a), .val (.ref xx), .val (.ref dc), .val (.int (0 : Int32))] [(.ref dc), (.int (0 : Int32))])) rfl rfl (hb hby d9_2) _ ?_
    rw [len_of S1 M1]
    refine XS.icmpNo X0.here hx rfl (hb hby d9_3) rfl (teq (by decide : (0 : Int32) = (0 : Int32))).2 ?_
    show Steps p.tables e below (s₁.setTop (mkF m 6 #[.val (.ref a), .val (.ref xx), .val (.ref dc), .val (.int (0 : Int32))] [])) t_
    refine XS.aloadN X0.here hx rfl (hb hby d9_6) rfl rfl ?_
    exact k_
  obtain ⟨cq2, q2, q2'⟩ := u2.cell
  obtain ⟨_, _, ⟨T2, L2, k2, n2⟩, -, X2, ⟨Lc2, hQ2, l2, y2, z2⟩, st2⟩ := X0.privateBack hx (y := own_y6) hown (mvT hZ (own_w hw 74 rfl)) (mvT hZ (own_w hw 75 rfl)) (mvT hZ (own_w hw 77 rfl)) (Cond.privateMethod_at (mvP hZ (own_w hw 76 rfl) (args := #[]))) (mvT hZ (own_w hw 78 rfl)) (by decide) (backOf (W := 0) (rmGrow l Z a0 hw [] a dc kd mc h0 n0 Z0 O0 u1 u2 u3 u4 u5 u6 u7) hZ (own_w hw 78 rfl) (own_w hw 12 rfl) (by decide) (by decide)) (g := (mkF m 7 #[.val (.ref a), .val (.ref xx), .val (.ref dc), .val (.int (0 : Int32))] [(.ref a)])) rfl (by rw [hml]; rfl) (Steps.refl _) (a := a) (by rw [e0]; exact q2) q2' (argsL := []) (rest := []) (lenOf pd_3 rfl) rfl (by show 2 * 0 + _ ≤ _; exact Nat.le_of_eq rfl) (hb hby d9_7) (fun _ _ => ⟨rfl, e0, (by decide : 0 + 1 ≤ _), (by decide : 0 + 10 ≤ _)⟩)
  dsimp only [Pt.U, Pt.locs, Pt.cells, Pt.slots] at X2 l2 y2 z2 st2 hQ2
  subst l2 y2 z2
  obtain ⟨ed_2, k_2, rfl, N2q, Kc2, r2_0, r2_1, r2_2, r2_3, r2_4, r2_5⟩ := hQ2
  have N2 := Fr.app N0 N2q
  refine own_via st2 ?_
  have K2 : Keep h0 T2.heap [a] := (Keep.refl h0 [a]).trans Kc2 (allS (P := fun x => x ∈ _ ∨ _ ≤ x) (Or.inl (List.mem_of_getElem? (i := 0) rfl)) all0)
  have O2 := O0.keep Kc2 (allS (P := fun x => n0 ≤ x) u7 all0)
  refine own_go (A := T2.setTop (mkF m 14 #[.val (.ref a), .val (.ref xx), .val (.ref ed_2), .val (.int (0 : Int32))] [(.ref xx), (.int (0 : Int32)), (.ref ed_2)])) (fun t_ k_ => ?_) ?_
  · show Steps p.tables e below (T2.setTop (mkF m 10 #[.val (.ref a), .val (.ref xx), .val (.ref dc), .val (.int (0 : Int32))] [(.ref ed_2)])) t_
    refine XS.astoreN X2.here hx rfl (hb hby d9_10) rfl rfl (l' := #[.val (.ref a), .val (.ref xx), .val (.ref ed_2), .val (.int (0 : Int32))]) rfl ?_
    refine XS.aloadN X2.here hx rfl (hb hby d9_11) rfl rfl ?_
    refine XS.iloadN X2.here hx rfl (hb hby d9_12) rfl ?_
    refine XS.aloadN X2.here hx rfl (hb hby d9_13) rfl rfl ?_
    exact k_
  obtain ⟨cl3, Ar3, q3, S3, M3, H3, G3⟩ := id r2_1
  have hin3 : ¬ ((0 : Int32) < 0 ∨ cl3.slots.size ≤ ((0 : Int32)).toNatClampNeg) := inb_of S3 ⟨by decide, by decide⟩
  obtain ⟨T4, h4, X4, e4, W4, st4⟩ := stR X2 hx hZ rfl Ar3 (j := (0 : Int32)) hin3 rfl (Sto.ofV Ar3 q3 r2_2 (Ins.of_exa (u8.keep Kc2) (own_w hw 90 rfl))) (g := (mkF m 14 #[.val (.ref a), .val (.ref xx), .val (.ref ed_2), .val (.int (0 : Int32))] [(.ref xx), (.int (0 : Int32)), (.ref ed_2)])) rfl rfl (hb hby d9_14)
  have B4 : Arv Z h4 ed_2 k_2 (.object "java/lang/Object") (10 : Int32) [(.ref xx), .null, .null, .null, .null, .null, .null, .null, .null, .null] .null := Arv.set Ar3 q3 S3 M3 H3 G3 rfl W4 0 rfl (Nat.le_of_ble_eq_true rfl)
  refine own_go st4 ?_
  have K4 : Keep h0 h4 [a] := K2.wr W4 (Or.inr r2_0)
  have O4 := O2.wr W4 (Nat.le_trans Z0 r2_0)
  have N4 := Fr.snoc X4 N2 (Nat.le_trans Z0 r2_0)
  refine own_go (A := T4.setTop (mkF m 19 #[.val (.ref a), .val (.ref xx), .val (.ref ed_2), .val (.int (0 : Int32))] [(.int (1 : Int32)), (.ref a)])) (fun t_ k_ => ?_) ?_
  · show Steps p.tables e below (T4.setTop (mkF m 15 #[.val (.ref a), .val (.ref xx), .val (.ref ed_2), .val (.int (0 : Int32))] [])) t_
    refine XS.aloadN X4.here hx rfl (hb hby d9_15) rfl rfl ?_
    refine XS.iloadN X4.here hx rfl (hb hby d9_16) rfl ?_
    refine XS.iconst X4.here hx rfl (hb hby d9_17) ?_
    refine XS.iadd X4.here hx rfl (hb hby d9_18) rfl ?_
    exact k_
  obtain ⟨T5, h5, X5, e5, W5, st5⟩ := putF X4 hx hZ hown (host := "") (Or.inl (own_w hw 67 rfl)) Via.refl e4 (r2_4.other W4 (Or.inl (Nat.ne_of_lt (Nat.lt_of_lt_of_le u2.lt r2_0)))) ((u2.keep Kc2).wr W4) (Or.inl (own_w hw 68 rfl)) (own_w hw 11 rfl) (ty := .int) (by decide) rfl rfl (g := (mkF m 19 #[.val (.ref a), .val (.ref xx), .val (.ref ed_2), .val (.int (0 : Int32))] [(.int (1 : Int32)), (.ref a)])) rfl rfl (hb hby d9_19)
  have Fw5 : Fld Z h5 a "java/util/ArrayList" "size" "I" (.int (1 : Int32)) := (r2_4.other W4 (Or.inl (Nat.ne_of_lt (Nat.lt_of_lt_of_le u2.lt r2_0)))).same W5
  refine own_go st5 ?_
  have K5 : Keep h0 h5 [a] := K4.wr W5 (Or.inl (List.mem_of_getElem? (i := 0) rfl))
  have O5 := O4.wr W5 u7
  have N5 := Fr.snoc X5 N4 u7
  obtain ⟨fs6, hr6, hrun6, hended6, hW6, hsame6⟩ := X5.leave (v := none) (fun _ => rfl)
  refine ⟨_, _, ?_, hrun6, hended6, _, _, rfl, ?_, ⟨_, rfl⟩, hW6, hsame6.mono (by decide) (by decide)⟩
  · exact X5.returnOut hx Bd.returns (hb hby d9_22) hr6
  · show Q_rmAddP0 Z a xx dc kd mc h0 n0 _ T5.heap _
    rw [e5]
    exact ⟨ed_2, k_2, rfl, N5, K5, r2_0, (B4.other W5 (Ne.symm (Nat.ne_of_lt (Nat.lt_of_lt_of_le u2.lt r2_0)))), r2_2, ((r2_3.other W4 (Or.inl (Nat.ne_of_lt (Nat.lt_of_lt_of_le u2.lt r2_0)))).other W5 (Or.inr (slot_ne (Or.inl (own_w hw 33 rfl)) (Or.inl (own_w hw 68 rfl)) (by decide) (t := (.array (.object "java/lang/Object"))) (t' := .int) (by decide) (by decide)))), Fw5, ((r2_5.other W4 (Or.inl (Nat.ne_of_lt (Nat.lt_of_lt_of_le u2.lt r2_0)))).other W5 (Or.inr (slot_ne (Or.inl (own_w hw 30 rfl)) (Or.inl (own_w hw 68 rfl)) (by decide) (t := .int) (t' := .int) (by decide) (by decide))))⟩
theorem d8_0 : decode jdk_38_method_25_code 0 = .ok (.aload_n 0, 1) := by decide +kernel
theorem d8_1 : decode jdk_38_method_25_code 1 = .ok (.dup, 1) := by decide +kernel
theorem d8_2 : decode jdk_38_method_25_code 2 = .ok (.getfield 63, 3) := by decide +kernel
theorem d8_5 : decode jdk_38_method_25_code 5 = .ok (.iconst 1, 1) := by decide +kernel
theorem d8_6 : decode jdk_38_method_25_code 6 = .ok (.iadd, 1) := by decide +kernel
theorem d8_7 : decode jdk_38_method_25_code 7 = .ok (.putfield 63, 3) := by decide +kernel
theorem d8_10 : decode jdk_38_method_25_code 10 = .ok (.aload_n 0, 1) := by decide +kernel
theorem d8_11 : decode jdk_38_method_25_code 11 = .ok (.aload_n 1, 1) := by decide +kernel
theorem d8_12 : decode jdk_38_method_25_code 12 = .ok (.aload_n 0, 1) := by decide +kernel
theorem d8_13 : decode jdk_38_method_25_code 13 = .ok (.getfield 9, 3) := by decide +kernel
theorem d8_16 : decode jdk_38_method_25_code 16 = .ok (.aload_n 0, 1) := by decide +kernel
theorem d8_17 : decode jdk_38_method_25_code 17 = .ok (.getfield 48, 3) := by decide +kernel
theorem pd_4 : parseMethodDescriptor "(Ljava/lang/Object;[Ljava/lang/Object;I)V" = some ⟨[(.object "java/lang/Object"), (.array (.object "java/lang/Object")), .int], none⟩ := by decide +kernel
theorem d8_20 : decode jdk_38_method_25_code 20 = .ok (.invokevirtual 131, 3) := by decide +kernel
theorem d8_23 : decode jdk_38_method_25_code 23 = .ok (.iconst 1, 1) := by decide +kernel
theorem d8_24 : decode jdk_38_method_25_code 24 = .ok (.ireturn, 1) := by decide +kernel
abbrev own_y8 : MethodName := ⟨"java/util/ArrayList", "add", "(Ljava/lang/Object;)Z"⟩
theorem ef_rmAdd0 (m : MethodId) (a : Addr) (xx : Addr) : entryFrame m #[(.ref a), (.ref xx)] 2 = mkF m 0 #[.val (.ref a), .val (.ref xx)] [] := by first | (simp [entryFrame, mkF, argsToLocals, Value.category]; done) | rfl
def Q_rmAdd0 (Z : State) (a : Addr) (xx : Addr) (dc : Addr) (kd : ClassId) (mc : Int32) (h0 : Heap) (n0 : Nat) (v_ : Option Value) (h_ : Heap) (L_ : List Loc) : Prop := ∃ ed : Addr, ∃ k : ClassId, v_ = some (.int (1 : Int32)) ∧ Fr n0 L_ ∧ Keep h0 h_ [a] ∧ h0.size ≤ ed ∧ Arv Z h_ ed k (.object "java/lang/Object") (10 : Int32) [(.ref xx), .null, .null, .null, .null, .null, .null, .null, .null, .null] .null ∧ Ovr Z k "java/lang/Object" ∧ Fld Z h_ a "java/util/ArrayList" "elementData" "[Ljava/lang/Object;" (.ref ed) ∧ Fld Z h_ a "java/util/ArrayList" "size" "I" (.int (1 : Int32)) ∧ Fld Z h_ a "java/util/AbstractList" "modCount" "I" (.int (mc + (1 : Int32)))
set_option maxRecDepth 65536 in
set_option maxHeartbeats 40000000 in
theorem rmAdd0 (l : Launch) (Z : State) (a0 : Array Value) (hw : ∀ d ∈ tables_1, d.before a0 Z = true) (ws : List Jvm.Cond) (a : Addr) (xx : Addr) (dc : Addr) (kd : ClassId) (mc : Int32) (h0 : Heap) (n0 : Nat) (Z0 : n0 ≤ h0.size) (O0 : Old Z n0 h0) (u1 : Sta Z Z.heap "java/util/ArrayList" "DEFAULTCAPACITY_EMPTY_ELEMENTDATA" "[Ljava/lang/Object;" (.ref dc)) (u2 : Exa Z h0 a "java/util/ArrayList") (u3 : Fld Z h0 a "java/util/ArrayList" "elementData" "[Ljava/lang/Object;" (.ref dc)) (u4 : Fld Z h0 a "java/util/ArrayList" "size" "I" (.int (0 : Int32))) (u5 : Fld Z h0 a "java/util/AbstractList" "modCount" "I" (.int mc)) (u6 : Arv Z Z.heap dc kd (.object "java/lang/Object") (0 : Int32) [] .null) (u7 : n0 ≤ a) (u8 : Exa Z h0 xx "java/lang/Integer") :
    MetFree l own_y8 (head1 (Jvm.Cond.code own_y8 jdk_38_method_25_code 2 (some .boolean) :: ws) ({ frames := 4, cells := 1, slots := 10, locals := 56 } : Room)) (fun a_ U_ => a_ = #[(.ref a), (.ref xx)] ∧ Z.Warmed39 U_.vm ∧ U_.heap = h0) (fun _ _ _ _ _ => True) (fun _ U_ o_ U2_ => ∃ v_ L_, o_ = .returned v_ ∧ Q_rmAdd0 Z a xx dc kd mc h0 n0 v_ U2_.heap L_ ∧ FrameEnd U_ o_ U2_ L_ ({ frames := 4, cells := 1, slots := 10, locals := 56 } : Room).cells ({ frames := 4, cells := 1, slots := 10, locals := 56 } : Room).slots) := by
  refine MetFree.of_bodySF (plainFor_of_name pn_3) hisR ?_
  intro p e s m args below meth c s₁ Bd hml0 hP hK
  obtain ⟨rfl, hZ, hh⟩ := hP
  have hx := Bd.exec
  have hby := Bd.bytes
  have hml : c.maxLocals = 2 := hml0
  have hown : s.vm.findClass "java/util/ArrayList" = some m.cls := findClass_of_methodNamed Bd.named
  have hnm := (name_of_methodNamed Bd.named Bd.method).1
  have X0 : Stand p l e ({ frames := 4, cells := 1, slots := 10, locals := 56 } : Room) s m #[(.ref a), (.ref xx)] below meth c s₁ [] 0 0 := Stand.of_body Bd
  have e0 : s₁.heap = h0 := by rw [← hh, Bd.state]; rfl
  have N0 := Fr.nil n0
  refine own_go (A := s₁.setTop (mkF m 0 #[.val (.ref a), .val (.ref xx)] [])) (fun t_ k_ => castTop (ef_rmAdd0 m a xx) k_) ?_
  refine own_go (A := s₁.setTop (mkF m 2 #[.val (.ref a), .val (.ref xx)] [(.ref a), (.ref a)])) (fun t_ k_ => ?_) ?_
  · show Steps p.tables e below (s₁.setTop (mkF m 0 #[.val (.ref a), .val (.ref xx)] [])) t_
    refine XS.aloadN X0.here hx rfl (hb hby d8_0) rfl rfl ?_
    refine XS.dup X0.here hx rfl (hb hby d8_1) rfl rfl ?_
    exact k_
  obtain ⟨T1, X1, e1, st1⟩ := getF X0 hx hZ hown (host := "") (Or.inl (own_w hw 65 rfl)) (Via.of (own_w hw 66 rfl)) e0 u5 (g := (mkF m 2 #[.val (.ref a), .val (.ref xx)] [(.ref a), (.ref a)])) rfl rfl (hb hby d8_2)
  refine own_go st1 ?_
  refine own_go (A := T1.setTop (mkF m 7 #[.val (.ref a), .val (.ref xx)] [(.int (mc + (1 : Int32))), (.ref a)])) (fun t_ k_ => ?_) ?_
  · show Steps p.tables e below (T1.setTop (mkF m 5 #[.val (.ref a), .val (.ref xx)] [(.int mc), (.ref a)])) t_
    refine XS.iconst X1.here hx rfl (hb hby d8_5) ?_
    refine XS.iadd X1.here hx rfl (hb hby d8_6) rfl ?_
    exact k_
  obtain ⟨T2, h2, X2, e2, W2, st2⟩ := putF X1 hx hZ hown (host := "") (Or.inl (own_w hw 65 rfl)) (Via.of (own_w hw 66 rfl)) e1 u5 u2 (Or.inl (own_w hw 30 rfl)) (own_w hw 11 rfl) (ty := .int) (by decide) rfl rfl (g := (mkF m 7 #[.val (.ref a), .val (.ref xx)] [(.int (mc + (1 : Int32))), (.ref a)])) rfl rfl (hb hby d8_7)
  have Fw2 : Fld Z h2 a "java/util/AbstractList" "modCount" "I" (.int (mc + (1 : Int32))) := u5.same W2
  refine own_go st2 ?_
  have K2 : Keep h0 h2 [a] := (Keep.refl h0 [a]).wr W2 (Or.inl (List.mem_of_getElem? (i := 0) rfl))
  have O2 := O0.wr W2 u7
  have N2 := Fr.snoc X2 N0 u7
  refine own_go (A := T2.setTop (mkF m 13 #[.val (.ref a), .val (.ref xx)] [(.ref a), (.ref xx), (.ref a)])) (fun t_ k_ => ?_) ?_
  · show Steps p.tables e below (T2.setTop (mkF m 10 #[.val (.ref a), .val (.ref xx)] [])) t_
    refine XS.aloadN X2.here hx rfl (hb hby d8_10) rfl rfl ?_
    refine XS.aloadN X2.here hx rfl (hb hby d8_11) rfl rfl ?_
    refine XS.aloadN X2.here hx rfl (hb hby d8_12) rfl rfl ?_
    exact k_
  obtain ⟨T3, X3, e3, st3⟩ := getF X2 hx hZ hown (host := "") (Or.inl (own_w hw 32 rfl)) Via.refl e2 (u3.other W2 (Or.inr (slot_ne (Or.inl (own_w hw 33 rfl)) (Or.inl (own_w hw 30 rfl)) (by decide) (t := (.array (.object "java/lang/Object"))) (t' := .int) (by decide) (by decide)))) (g := (mkF m 13 #[.val (.ref a), .val (.ref xx)] [(.ref a), (.ref xx), (.ref a)])) rfl rfl (hb hby d8_13)
  refine own_go st3 ?_
  refine own_go (A := T3.setTop (mkF m 17 #[.val (.ref a), .val (.ref xx)] [(.ref a), (.ref dc), (.ref xx), (.ref a)])) (fun t_ k_ => ?_) ?_
  · show Steps p.tables e below (T3.setTop (mkF m 16 #[.val (.ref a), .val (.ref xx)] [(.ref dc), (.ref xx), (.ref a)])) t_
    refine XS.aloadN X3.here hx rfl (hb hby d8_16) rfl rfl ?_
    exact k_
  obtain ⟨T4, X4, e4, st4⟩ := getF X3 hx hZ hown (host := "") (Or.inl (own_w hw 67 rfl)) Via.refl e3 (u4.other W2 (Or.inr (slot_ne (Or.inl (own_w hw 68 rfl)) (Or.inl (own_w hw 30 rfl)) (by decide) (t := .int) (t' := .int) (by decide) (by decide)))) (g := (mkF m 17 #[.val (.ref a), .val (.ref xx)] [(.ref a), (.ref dc), (.ref xx), (.ref a)])) rfl rfl (hb hby d8_17)
  refine own_go st4 ?_
  obtain ⟨cq5, q5, q5'⟩ := (u2.wr W2).cell
  obtain ⟨_, _, ⟨T5, L5, k5, n5⟩, -, X5, ⟨Lc5, hQ5, l5, y5, z5⟩, st5⟩ := X4.privateBack hx (y := own_y7) hown (mvT hZ (own_w hw 69 rfl)) (mvT hZ (own_w hw 70 rfl)) (mvT hZ (own_w hw 72 rfl)) (Cond.privateMethod_at (mvP hZ (own_w hw 71 rfl) (args := #[]))) (mvT hZ (own_w hw 73 rfl)) (by decide) (backOf (W := 0) (rmAddP0 l Z a0 hw [] a xx dc kd (mc + (1 : Int32)) h2 n0 (Nat.le_trans Z0 K2.1) O2 u1 (u2.wr W2) (u3.other W2 (Or.inr (slot_ne (Or.inl (own_w hw 33 rfl)) (Or.inl (own_w hw 30 rfl)) (by decide) (t := (.array (.object "java/lang/Object"))) (t' := .int) (by decide) (by decide)))) (u4.other W2 (Or.inr (slot_ne (Or.inl (own_w hw 68 rfl)) (Or.inl (own_w hw 30 rfl)) (by decide) (t := .int) (t' := .int) (by decide) (by decide)))) Fw2 u6 u7 (u8.wr W2)) hZ (own_w hw 73 rfl) (own_w hw 12 rfl) (by decide) (by decide)) (g := (mkF m 20 #[.val (.ref a), .val (.ref xx)] [(.int (0 : Int32)), (.ref dc), (.ref xx), (.ref a)])) rfl (by rw [hml]; rfl) (Steps.refl _) (a := a) (by rw [e4]; exact q5) q5' (argsL := [(.ref xx), (.ref dc), (.int (0 : Int32))]) (rest := []) (lenOf pd_4 rfl) rfl (by show 2 * 0 + _ ≤ _; exact Nat.le_of_eq rfl) (hb hby d8_20) (fun _ _ => ⟨rfl, e4, (by decide : 0 + 1 ≤ _), (by decide : 0 + 10 ≤ _)⟩)
  dsimp only [Pt.U, Pt.locs, Pt.cells, Pt.slots] at X5 l5 y5 z5 st5 hQ5
  subst l5 y5 z5
  obtain ⟨ed_5, k_5, rfl, N5q, Kc5, r5_0, r5_1, r5_2, r5_3, r5_4, r5_5⟩ := hQ5
  have N5 := Fr.app N2 N5q
  refine own_via st5 ?_
  have K5 : Keep h0 T5.heap [a] := K2.trans Kc5 (allS (P := fun x => x ∈ _ ∨ _ ≤ x) (Or.inl (List.mem_of_getElem? (i := 0) rfl)) all0)
  have O5 := O2.keep Kc5 (allS (P := fun x => n0 ≤ x) u7 all0)
  refine own_go (A := T5.setTop (mkF m 24 #[.val (.ref a), .val (.ref xx)] [(.int (1 : Int32))])) (fun t_ k_ => ?_) ?_
  · show Steps p.tables e below (T5.setTop (mkF m 23 #[.val (.ref a), .val (.ref xx)] [])) t_
    refine XS.iconst X5.here hx rfl (hb hby d8_23) ?_
    exact k_
  obtain ⟨fs6, hr6, hrun6, hended6, hW6, hsame6⟩ := X5.leave (v := some (.int (1 : Int32))) (fun h => by rw [Bd.returns] at h; cases h)
  refine ⟨_, _, ?_, hrun6, hended6, _, _, rfl, ?_, ⟨_, rfl⟩, hW6, hsame6.mono (by decide) (by decide)⟩
  · exact retN X5 hx (t := .boolean) Bd.returns (by simp) (hb hby d8_24) hr6
  · show Q_rmAdd0 Z a xx dc kd mc h0 n0 _ T5.heap _
    exact ⟨ed_5, k_5, rfl, N5, K5, (Nat.le_trans K2.1 r5_0), r5_1, r5_2, r5_3, r5_4, r5_5⟩
theorem ef_rmAddP1 (m : MethodId) (a : Addr) (xx : Addr) (ed : Addr) : entryFrame m #[(.ref a), (.ref xx), (.ref ed), (.int (1 : Int32))] 4 = mkF m 0 #[.val (.ref a), .val (.ref xx), .val (.ref ed), .val (.int (1 : Int32))] [] := by first | (simp [entryFrame, mkF, argsToLocals, Value.category]; done) | rfl
def Q_rmAddP1 (Z : State) (a : Addr) (xx : Addr) (ed : Addr) (k : ClassId) (mc : Int32) (yy0 : Addr) (h0 : Heap) (n0 : Nat) (v_ : Option Value) (h_ : Heap) (L_ : List Loc) : Prop := v_ = none ∧ Fr n0 L_ ∧ Keep h0 h_ [a, ed] ∧ Arv Z h_ ed k (.object "java/lang/Object") (10 : Int32) [(.ref yy0), (.ref xx), .null, .null, .null, .null, .null, .null, .null, .null] .null ∧ Fld Z h_ a "java/util/ArrayList" "elementData" "[Ljava/lang/Object;" (.ref ed) ∧ Fld Z h_ a "java/util/ArrayList" "size" "I" (.int (2 : Int32)) ∧ Fld Z h_ a "java/util/AbstractList" "modCount" "I" (.int mc)
set_option maxRecDepth 65536 in
set_option maxHeartbeats 40000000 in
theorem rmAddP1 (l : Launch) (Z : State) (a0 : Array Value) (hw : ∀ d ∈ tables_1, d.before a0 Z = true) (ws : List Jvm.Cond) (a : Addr) (xx : Addr) (ed : Addr) (k : ClassId) (mc : Int32) (yy0 : Addr) (h0 : Heap) (n0 : Nat) (Z0 : n0 ≤ h0.size) (u0 : Exa Z h0 a "java/util/ArrayList") (u1 : Fld Z h0 a "java/util/ArrayList" "elementData" "[Ljava/lang/Object;" (.ref ed)) (u2 : Fld Z h0 a "java/util/ArrayList" "size" "I" (.int (1 : Int32))) (u3 : Fld Z h0 a "java/util/AbstractList" "modCount" "I" (.int mc)) (u4 : Arv Z h0 ed k (.object "java/lang/Object") (10 : Int32) [(.ref yy0), .null, .null, .null, .null, .null, .null, .null, .null, .null] .null) (u5 : Ovr Z k "java/lang/Object") (u6 : n0 ≤ a) (u7 : n0 ≤ ed) (u8 : a ≠ ed) (u9 : Exa Z h0 xx "java/lang/Integer") :
    MetFree l own_y7 (head1 (Jvm.Cond.code own_y7 jdk_38_method_24_code 4 none :: ws) ({ frames := 0, cells := 0, slots := 0, locals := 0 } : Room)) (fun a_ U_ => a_ = #[(.ref a), (.ref xx), (.ref ed), (.int (1 : Int32))] ∧ Z.Warmed39 U_.vm ∧ U_.heap = h0) (fun _ _ _ _ _ => True) (fun _ U_ o_ U2_ => ∃ v_ L_, o_ = .returned v_ ∧ Q_rmAddP1 Z a xx ed k mc yy0 h0 n0 v_ U2_.heap L_ ∧ FrameEnd U_ o_ U2_ L_ ({ frames := 0, cells := 0, slots := 0, locals := 0 } : Room).cells ({ frames := 0, cells := 0, slots := 0, locals := 0 } : Room).slots) := by
  refine MetFree.of_bodySF (plainFor_of_name pn_3) hisR ?_
  intro p e s m args below meth c s₁ Bd hml0 hP hK
  obtain ⟨rfl, hZ, hh⟩ := hP
  have hx := Bd.exec
  have hby := Bd.bytes
  have hml : c.maxLocals = 4 := hml0
  have hown : s.vm.findClass "java/util/ArrayList" = some m.cls := findClass_of_methodNamed Bd.named
  have hnm := (name_of_methodNamed Bd.named Bd.method).1
  have X0 : Stand p l e ({ frames := 0, cells := 0, slots := 0, locals := 0 } : Room) s m #[(.ref a), (.ref xx), (.ref ed), (.int (1 : Int32))] below meth c s₁ [] 0 0 := Stand.of_body Bd
  have e0 : s₁.heap = h0 := by rw [← hh, Bd.state]; rfl
  have N0 := Fr.nil n0
  refine own_go (A := s₁.setTop (mkF m 0 #[.val (.ref a), .val (.ref xx), .val (.ref ed), .val (.int (1 : Int32))] [])) (fun t_ k_ => castTop (ef_rmAddP1 m a xx ed) k_) ?_
  obtain ⟨cl1, Ar1, q1, S1, M1, H1, G1⟩ := id u4
  refine own_go (A := s₁.setTop (mkF m 14 #[.val (.ref a), .val (.ref xx), .val (.ref ed), .val (.int (1 : Int32))] [(.ref xx), (.int (1 : Int32)), (.ref ed)])) (fun t_ k_ => ?_) ?_
  · show Steps p.tables e below (s₁.setTop (mkF m 0 #[.val (.ref a), .val (.ref xx), .val (.ref ed), .val (.int (1 : Int32))] [])) t_
    refine XS.iloadN X0.here hx rfl (hb hby d9_0) rfl ?_
    refine XS.aloadN X0.here hx rfl (hb hby d9_1) rfl rfl ?_
    refine X0.arraylength hx (by rw [e0]; exact Ar1.1) (State.isArrayOf_alike hZ.alike Ar1.2.1) (g := (mkF m 2 #[.val (.ref a), .val (.ref xx), .val (.ref ed), .val (.int (1 : Int32))] [(.ref ed), (.int (1 : Int32))])) rfl rfl (hb hby d9_2) _ ?_
    rw [len_of S1 M1]
    refine XS.icmpYes X0.here hx rfl (pc0 := 3) (pc' := 11) rfl (hb hby d9_3) rfl (feq (by decide : ¬ ((1 : Int32) = (10 : Int32)))).2 (by decide) (by decide) ?_
    show Steps p.tables e below (s₁.setTop (mkF m 11 #[.val (.ref a), .val (.ref xx), .val (.ref ed), .val (.int (1 : Int32))] [])) t_
    refine XS.aloadN X0.here hx rfl (hb hby d9_11) rfl rfl ?_
    refine XS.iloadN X0.here hx rfl (hb hby d9_12) rfl ?_
    refine XS.aloadN X0.here hx rfl (hb hby d9_13) rfl rfl ?_
    exact k_
  obtain ⟨cl2, Ar2, q2, S2, M2, H2, G2⟩ := id u4
  have hin2 : ¬ ((1 : Int32) < 0 ∨ cl2.slots.size ≤ ((1 : Int32)).toNatClampNeg) := inb_of S2 ⟨by decide, by decide⟩
  obtain ⟨T3, h3, X3, e3, W3, st3⟩ := stR X0 hx hZ e0 Ar2 (j := (1 : Int32)) hin2 rfl (Sto.ofV Ar2 q2 u5 (Ins.of_exa u9 (own_w hw 90 rfl))) (g := (mkF m 14 #[.val (.ref a), .val (.ref xx), .val (.ref ed), .val (.int (1 : Int32))] [(.ref xx), (.int (1 : Int32)), (.ref ed)])) rfl rfl (hb hby d9_14)
  have B3 : Arv Z h3 ed k (.object "java/lang/Object") (10 : Int32) [(.ref yy0), (.ref xx), .null, .null, .null, .null, .null, .null, .null, .null] .null := Arv.set Ar2 q2 S2 M2 H2 G2 rfl W3 1 rfl (Nat.le_of_ble_eq_true rfl)
  refine own_go st3 ?_
  have K3 : Keep h0 h3 [a, ed] := (Keep.refl h0 [a, ed]).wr W3 (Or.inl (List.mem_of_getElem? (i := 1) rfl))
  have N3 := Fr.snoc X3 N0 u7
  refine own_go (A := T3.setTop (mkF m 19 #[.val (.ref a), .val (.ref xx), .val (.ref ed), .val (.int (1 : Int32))] [(.int (2 : Int32)), (.ref a)])) (fun t_ k_ => ?_) ?_
  · show Steps p.tables e below (T3.setTop (mkF m 15 #[.val (.ref a), .val (.ref xx), .val (.ref ed), .val (.int (1 : Int32))] [])) t_
    refine XS.aloadN X3.here hx rfl (hb hby d9_15) rfl rfl ?_
    refine XS.iloadN X3.here hx rfl (hb hby d9_16) rfl ?_
    refine XS.iconst X3.here hx rfl (hb hby d9_17) ?_
    refine XS.iadd X3.here hx rfl (hb hby d9_18) rfl ?_
    exact k_
  obtain ⟨T4, h4, X4, e4, W4, st4⟩ := putF X3 hx hZ hown (host := "") (Or.inl (own_w hw 67 rfl)) Via.refl e3 (u2.other W3 (Or.inl u8)) (u0.wr W3) (Or.inl (own_w hw 68 rfl)) (own_w hw 11 rfl) (ty := .int) (by decide) rfl rfl (g := (mkF m 19 #[.val (.ref a), .val (.ref xx), .val (.ref ed), .val (.int (1 : Int32))] [(.int (2 : Int32)), (.ref a)])) rfl rfl (hb hby d9_19)
  have Fw4 : Fld Z h4 a "java/util/ArrayList" "size" "I" (.int (2 : Int32)) := (u2.other W3 (Or.inl u8)).same W4
  refine own_go st4 ?_
  have K4 : Keep h0 h4 [a, ed] := K3.wr W4 (Or.inl (List.mem_of_getElem? (i := 0) rfl))
  have N4 := Fr.snoc X4 N3 u6
  obtain ⟨fs5, hr5, hrun5, hended5, hW5, hsame5⟩ := X4.leave (v := none) (fun _ => rfl)
  refine ⟨_, _, ?_, hrun5, hended5, _, _, rfl, ?_, ⟨_, rfl⟩, hW5, hsame5.mono (by decide) (by decide)⟩
  · exact X4.returnOut hx Bd.returns (hb hby d9_22) hr5
  · show Q_rmAddP1 Z a xx ed k mc yy0 h0 n0 _ T4.heap _
    rw [e4]
    exact ⟨rfl, N4, K4, (B3.other W4 (Ne.symm u8)), ((u1.other W3 (Or.inl u8)).other W4 (Or.inr (slot_ne (Or.inl (own_w hw 33 rfl)) (Or.inl (own_w hw 68 rfl)) (by decide) (t := (.array (.object "java/lang/Object"))) (t' := .int) (by decide) (by decide)))), Fw4, ((u3.other W3 (Or.inl u8)).other W4 (Or.inr (slot_ne (Or.inl (own_w hw 30 rfl)) (Or.inl (own_w hw 68 rfl)) (by decide) (t := .int) (t' := .int) (by decide) (by decide))))⟩
theorem ef_rmAdd1 (m : MethodId) (a : Addr) (xx : Addr) : entryFrame m #[(.ref a), (.ref xx)] 2 = mkF m 0 #[.val (.ref a), .val (.ref xx)] [] := by first | (simp [entryFrame, mkF, argsToLocals, Value.category]; done) | rfl
def Q_rmAdd1 (Z : State) (a : Addr) (xx : Addr) (ed : Addr) (k : ClassId) (mc : Int32) (yy0 : Addr) (h0 : Heap) (n0 : Nat) (v_ : Option Value) (h_ : Heap) (L_ : List Loc) : Prop := v_ = some (.int (1 : Int32)) ∧ Fr n0 L_ ∧ Keep h0 h_ [a, ed] ∧ Arv Z h_ ed k (.object "java/lang/Object") (10 : Int32) [(.ref yy0), (.ref xx), .null, .null, .null, .null, .null, .null, .null, .null] .null ∧ Fld Z h_ a "java/util/ArrayList" "elementData" "[Ljava/lang/Object;" (.ref ed) ∧ Fld Z h_ a "java/util/ArrayList" "size" "I" (.int (2 : Int32)) ∧ Fld Z h_ a "java/util/AbstractList" "modCount" "I" (.int (mc + (1 : Int32)))
set_option maxRecDepth 65536 in
set_option maxHeartbeats 40000000 in
theorem rmAdd1 (l : Launch) (Z : State) (a0 : Array Value) (hw : ∀ d ∈ tables_1, d.before a0 Z = true) (ws : List Jvm.Cond) (a : Addr) (xx : Addr) (ed : Addr) (k : ClassId) (mc : Int32) (yy0 : Addr) (h0 : Heap) (n0 : Nat) (Z0 : n0 ≤ h0.size) (u0 : Exa Z h0 a "java/util/ArrayList") (u1 : Fld Z h0 a "java/util/ArrayList" "elementData" "[Ljava/lang/Object;" (.ref ed)) (u2 : Fld Z h0 a "java/util/ArrayList" "size" "I" (.int (1 : Int32))) (u3 : Fld Z h0 a "java/util/AbstractList" "modCount" "I" (.int mc)) (u4 : Arv Z h0 ed k (.object "java/lang/Object") (10 : Int32) [(.ref yy0), .null, .null, .null, .null, .null, .null, .null, .null, .null] .null) (u5 : Ovr Z k "java/lang/Object") (u6 : n0 ≤ a) (u7 : n0 ≤ ed) (u8 : a ≠ ed) (u9 : Exa Z h0 xx "java/lang/Integer") :
    MetFree l own_y8 (head1 (Jvm.Cond.code own_y8 jdk_38_method_25_code 2 (some .boolean) :: ws) ({ frames := 1, cells := 0, slots := 0, locals := 15 } : Room)) (fun a_ U_ => a_ = #[(.ref a), (.ref xx)] ∧ Z.Warmed39 U_.vm ∧ U_.heap = h0) (fun _ _ _ _ _ => True) (fun _ U_ o_ U2_ => ∃ v_ L_, o_ = .returned v_ ∧ Q_rmAdd1 Z a xx ed k mc yy0 h0 n0 v_ U2_.heap L_ ∧ FrameEnd U_ o_ U2_ L_ ({ frames := 1, cells := 0, slots := 0, locals := 15 } : Room).cells ({ frames := 1, cells := 0, slots := 0, locals := 15 } : Room).slots) := by
  refine MetFree.of_bodySF (plainFor_of_name pn_3) hisR ?_
  intro p e s m args below meth c s₁ Bd hml0 hP hK
  obtain ⟨rfl, hZ, hh⟩ := hP
  have hx := Bd.exec
  have hby := Bd.bytes
  have hml : c.maxLocals = 2 := hml0
  have hown : s.vm.findClass "java/util/ArrayList" = some m.cls := findClass_of_methodNamed Bd.named
  have hnm := (name_of_methodNamed Bd.named Bd.method).1
  have X0 : Stand p l e ({ frames := 1, cells := 0, slots := 0, locals := 15 } : Room) s m #[(.ref a), (.ref xx)] below meth c s₁ [] 0 0 := Stand.of_body Bd
  have e0 : s₁.heap = h0 := by rw [← hh, Bd.state]; rfl
  have N0 := Fr.nil n0
  refine own_go (A := s₁.setTop (mkF m 0 #[.val (.ref a), .val (.ref xx)] [])) (fun t_ k_ => castTop (ef_rmAdd1 m a xx) k_) ?_
  refine own_go (A := s₁.setTop (mkF m 2 #[.val (.ref a), .val (.ref xx)] [(.ref a), (.ref a)])) (fun t_ k_ => ?_) ?_
  · show Steps p.tables e below (s₁.setTop (mkF m 0 #[.val (.ref a), .val (.ref xx)] [])) t_
    refine XS.aloadN X0.here hx rfl (hb hby d8_0) rfl rfl ?_
    refine XS.dup X0.here hx rfl (hb hby d8_1) rfl rfl ?_
    exact k_
  obtain ⟨T1, X1, e1, st1⟩ := getF X0 hx hZ hown (host := "") (Or.inl (own_w hw 65 rfl)) (Via.of (own_w hw 66 rfl)) e0 u3 (g := (mkF m 2 #[.val (.ref a), .val (.ref xx)] [(.ref a), (.ref a)])) rfl rfl (hb hby d8_2)
  refine own_go st1 ?_
  refine own_go (A := T1.setTop (mkF m 7 #[.val (.ref a), .val (.ref xx)] [(.int (mc + (1 : Int32))), (.ref a)])) (fun t_ k_ => ?_) ?_
  · show Steps p.tables e below (T1.setTop (mkF m 5 #[.val (.ref a), .val (.ref xx)] [(.int mc), (.ref a)])) t_
    refine XS.iconst X1.here hx rfl (hb hby d8_5) ?_
    refine XS.iadd X1.here hx rfl (hb hby d8_6) rfl ?_
    exact k_
  obtain ⟨T2, h2, X2, e2, W2, st2⟩ := putF X1 hx hZ hown (host := "") (Or.inl (own_w hw 65 rfl)) (Via.of (own_w hw 66 rfl)) e1 u3 u0 (Or.inl (own_w hw 30 rfl)) (own_w hw 11 rfl) (ty := .int) (by decide) rfl rfl (g := (mkF m 7 #[.val (.ref a), .val (.ref xx)] [(.int (mc + (1 : Int32))), (.ref a)])) rfl rfl (hb hby d8_7)
  have Fw2 : Fld Z h2 a "java/util/AbstractList" "modCount" "I" (.int (mc + (1 : Int32))) := u3.same W2
  refine own_go st2 ?_
  have K2 : Keep h0 h2 [a, ed] := (Keep.refl h0 [a, ed]).wr W2 (Or.inl (List.mem_of_getElem? (i := 0) rfl))
  have N2 := Fr.snoc X2 N0 u6
  refine own_go (A := T2.setTop (mkF m 13 #[.val (.ref a), .val (.ref xx)] [(.ref a), (.ref xx), (.ref a)])) (fun t_ k_ => ?_) ?_
  · show Steps p.tables e below (T2.setTop (mkF m 10 #[.val (.ref a), .val (.ref xx)] [])) t_
    refine XS.aloadN X2.here hx rfl (hb hby d8_10) rfl rfl ?_
    refine XS.aloadN X2.here hx rfl (hb hby d8_11) rfl rfl ?_
    refine XS.aloadN X2.here hx rfl (hb hby d8_12) rfl rfl ?_
    exact k_
  obtain ⟨T3, X3, e3, st3⟩ := getF X2 hx hZ hown (host := "") (Or.inl (own_w hw 32 rfl)) Via.refl e2 (u1.other W2 (Or.inr (slot_ne (Or.inl (own_w hw 33 rfl)) (Or.inl (own_w hw 30 rfl)) (by decide) (t := (.array (.object "java/lang/Object"))) (t' := .int) (by decide) (by decide)))) (g := (mkF m 13 #[.val (.ref a), .val (.ref xx)] [(.ref a), (.ref xx), (.ref a)])) rfl rfl (hb hby d8_13)
  refine own_go st3 ?_
  refine own_go (A := T3.setTop (mkF m 17 #[.val (.ref a), .val (.ref xx)] [(.ref a), (.ref ed), (.ref xx), (.ref a)])) (fun t_ k_ => ?_) ?_
  · show Steps p.tables e below (T3.setTop (mkF m 16 #[.val (.ref a), .val (.ref xx)] [(.ref ed), (.ref xx), (.ref a)])) t_
    refine XS.aloadN X3.here hx rfl (hb hby d8_16) rfl rfl ?_
    exact k_
  obtain ⟨T4, X4, e4, st4⟩ := getF X3 hx hZ hown (host := "") (Or.inl (own_w hw 67 rfl)) Via.refl e3 (u2.other W2 (Or.inr (slot_ne (Or.inl (own_w hw 68 rfl)) (Or.inl (own_w hw 30 rfl)) (by decide) (t := .int) (t' := .int) (by decide) (by decide)))) (g := (mkF m 17 #[.val (.ref a), .val (.ref xx)] [(.ref a), (.ref ed), (.ref xx), (.ref a)])) rfl rfl (hb hby d8_17)
  refine own_go st4 ?_
  obtain ⟨cq5, q5, q5'⟩ := (u0.wr W2).cell
  obtain ⟨_, _, ⟨T5, L5, k5, n5⟩, -, X5, ⟨Lc5, hQ5, l5, y5, z5⟩, st5⟩ := X4.privateBack hx (y := own_y7) hown (mvT hZ (own_w hw 69 rfl)) (mvT hZ (own_w hw 70 rfl)) (mvT hZ (own_w hw 72 rfl)) (Cond.privateMethod_at (mvP hZ (own_w hw 71 rfl) (args := #[]))) (mvT hZ (own_w hw 73 rfl)) (by decide) (backOf (W := 0) (rmAddP1 l Z a0 hw [] a xx ed k (mc + (1 : Int32)) yy0 h2 n0 (Nat.le_trans Z0 K2.1) (u0.wr W2) (u1.other W2 (Or.inr (slot_ne (Or.inl (own_w hw 33 rfl)) (Or.inl (own_w hw 30 rfl)) (by decide) (t := (.array (.object "java/lang/Object"))) (t' := .int) (by decide) (by decide)))) (u2.other W2 (Or.inr (slot_ne (Or.inl (own_w hw 68 rfl)) (Or.inl (own_w hw 30 rfl)) (by decide) (t := .int) (t' := .int) (by decide) (by decide)))) Fw2 (u4.other W2 (Ne.symm u8)) u5 u6 u7 u8 (u9.wr W2)) hZ (own_w hw 73 rfl) (own_w hw 12 rfl) (by decide) (by decide)) (g := (mkF m 20 #[.val (.ref a), .val (.ref xx)] [(.int (1 : Int32)), (.ref ed), (.ref xx), (.ref a)])) rfl (by rw [hml]; rfl) (Steps.refl _) (a := a) (by rw [e4]; exact q5) q5' (argsL := [(.ref xx), (.ref ed), (.int (1 : Int32))]) (rest := []) (lenOf pd_4 rfl) rfl (by show 2 * 0 + _ ≤ _; exact Nat.le_of_eq rfl) (hb hby d8_20) (fun _ _ => ⟨rfl, e4, (by decide : 0 + 0 ≤ _), (by decide : 0 + 0 ≤ _)⟩)
  dsimp only [Pt.U, Pt.locs, Pt.cells, Pt.slots] at X5 l5 y5 z5 st5 hQ5
  subst l5 y5 z5
  obtain ⟨rfl, N5q, Kc5, r5_0, r5_1, r5_2, r5_3⟩ := hQ5
  have N5 := Fr.app N2 N5q
  refine own_via st5 ?_
  have K5 : Keep h0 T5.heap [a, ed] := K2.trans Kc5 (allS (P := fun x => x ∈ _ ∨ _ ≤ x) (Or.inl (List.mem_of_getElem? (i := 0) rfl)) (allS (P := fun x => x ∈ _ ∨ _ ≤ x) (Or.inl (List.mem_of_getElem? (i := 1) rfl)) all0))
  refine own_go (A := T5.setTop (mkF m 24 #[.val (.ref a), .val (.ref xx)] [(.int (1 : Int32))])) (fun t_ k_ => ?_) ?_
  · show Steps p.tables e below (T5.setTop (mkF m 23 #[.val (.ref a), .val (.ref xx)] [])) t_
    refine XS.iconst X5.here hx rfl (hb hby d8_23) ?_
    exact k_
  obtain ⟨fs6, hr6, hrun6, hended6, hW6, hsame6⟩ := X5.leave (v := some (.int (1 : Int32))) (fun h => by rw [Bd.returns] at h; cases h)
  refine ⟨_, _, ?_, hrun6, hended6, _, _, rfl, ?_, ⟨_, rfl⟩, hW6, hsame6.mono (by decide) (by decide)⟩
  · exact retN X5 hx (t := .boolean) Bd.returns (by simp) (hb hby d8_24) hr6
  · show Q_rmAdd1 Z a xx ed k mc yy0 h0 n0 _ T5.heap _
    exact ⟨rfl, N5, K5, r5_0, r5_1, r5_2, r5_3⟩
theorem ef_rmAddP2 (m : MethodId) (a : Addr) (xx : Addr) (ed : Addr) : entryFrame m #[(.ref a), (.ref xx), (.ref ed), (.int (2 : Int32))] 4 = mkF m 0 #[.val (.ref a), .val (.ref xx), .val (.ref ed), .val (.int (2 : Int32))] [] := by first | (simp [entryFrame, mkF, argsToLocals, Value.category]; done) | rfl
def Q_rmAddP2 (Z : State) (a : Addr) (xx : Addr) (ed : Addr) (k : ClassId) (mc : Int32) (yy0 : Addr) (yy1 : Addr) (h0 : Heap) (n0 : Nat) (v_ : Option Value) (h_ : Heap) (L_ : List Loc) : Prop := v_ = none ∧ Fr n0 L_ ∧ Keep h0 h_ [a, ed] ∧ Arv Z h_ ed k (.object "java/lang/Object") (10 : Int32) [(.ref yy0), (.ref yy1), (.ref xx), .null, .null, .null, .null, .null, .null, .null] .null ∧ Fld Z h_ a "java/util/ArrayList" "elementData" "[Ljava/lang/Object;" (.ref ed) ∧ Fld Z h_ a "java/util/ArrayList" "size" "I" (.int (3 : Int32)) ∧ Fld Z h_ a "java/util/AbstractList" "modCount" "I" (.int mc)
set_option maxRecDepth 65536 in
set_option maxHeartbeats 40000000 in
theorem rmAddP2 (l : Launch) (Z : State) (a0 : Array Value) (hw : ∀ d ∈ tables_1, d.before a0 Z = true) (ws : List Jvm.Cond) (a : Addr) (xx : Addr) (ed : Addr) (k : ClassId) (mc : Int32) (yy0 : Addr) (yy1 : Addr) (h0 : Heap) (n0 : Nat) (Z0 : n0 ≤ h0.size) (u0 : Exa Z h0 a "java/util/ArrayList") (u1 : Fld Z h0 a "java/util/ArrayList" "elementData" "[Ljava/lang/Object;" (.ref ed)) (u2 : Fld Z h0 a "java/util/ArrayList" "size" "I" (.int (2 : Int32))) (u3 : Fld Z h0 a "java/util/AbstractList" "modCount" "I" (.int mc)) (u4 : Arv Z h0 ed k (.object "java/lang/Object") (10 : Int32) [(.ref yy0), (.ref yy1), .null, .null, .null, .null, .null, .null, .null, .null] .null) (u5 : Ovr Z k "java/lang/Object") (u6 : n0 ≤ a) (u7 : n0 ≤ ed) (u8 : a ≠ ed) (u9 : Exa Z h0 xx "java/lang/Integer") :
    MetFree l own_y7 (head1 (Jvm.Cond.code own_y7 jdk_38_method_24_code 4 none :: ws) ({ frames := 0, cells := 0, slots := 0, locals := 0 } : Room)) (fun a_ U_ => a_ = #[(.ref a), (.ref xx), (.ref ed), (.int (2 : Int32))] ∧ Z.Warmed39 U_.vm ∧ U_.heap = h0) (fun _ _ _ _ _ => True) (fun _ U_ o_ U2_ => ∃ v_ L_, o_ = .returned v_ ∧ Q_rmAddP2 Z a xx ed k mc yy0 yy1 h0 n0 v_ U2_.heap L_ ∧ FrameEnd U_ o_ U2_ L_ ({ frames := 0, cells := 0, slots := 0, locals := 0 } : Room).cells ({ frames := 0, cells := 0, slots := 0, locals := 0 } : Room).slots) := by
  refine MetFree.of_bodySF (plainFor_of_name pn_3) hisR ?_
  intro p e s m args below meth c s₁ Bd hml0 hP hK
  obtain ⟨rfl, hZ, hh⟩ := hP
  have hx := Bd.exec
  have hby := Bd.bytes
  have hml : c.maxLocals = 4 := hml0
  have hown : s.vm.findClass "java/util/ArrayList" = some m.cls := findClass_of_methodNamed Bd.named
  have hnm := (name_of_methodNamed Bd.named Bd.method).1
  have X0 : Stand p l e ({ frames := 0, cells := 0, slots := 0, locals := 0 } : Room) s m #[(.ref a), (.ref xx), (.ref ed), (.int (2 : Int32))] below meth c s₁ [] 0 0 := Stand.of_body Bd
  have e0 : s₁.heap = h0 := by rw [← hh, Bd.state]; rfl
  have N0 := Fr.nil n0
  refine own_go (A := s₁.setTop (mkF m 0 #[.val (.ref a), .val (.ref xx), .val (.ref ed), .val (.int (2 : Int32))] [])) (fun t_ k_ => castTop (ef_rmAddP2 m a xx ed) k_) ?_
  obtain ⟨cl1, Ar1, q1, S1, M1, H1, G1⟩ := id u4
  refine own_go (A := s₁.setTop (mkF m 14 #[.val (.ref a), .val (.ref xx), .val (.ref ed), .val (.int (2 : Int32))] [(.ref xx), (.int (2 : Int32)), (.ref ed)])) (fun t_ k_ => ?_) ?_
  · show Steps p.tables e below (s₁.setTop (mkF m 0 #[.val (.ref a), .val (.ref xx), .val (.ref ed), .val (.int (2 : Int32))] [])) t_
    refine XS.iloadN X0.here hx rfl (hb hby d9_0) rfl ?_
    refine XS.aloadN X0.here hx rfl (hb hby d9_1) rfl rfl ?_
    refine X0.arraylength hx (by rw [e0]; exact Ar1.1) (State.isArrayOf_alike hZ.alike Ar1.2.1) (g := (mkF m 2 #[.val (.ref a), .val (.ref xx), .val (.ref ed), .val (.int (2 : Int32))] [(.ref ed), (.int (2 : Int32))])) rfl rfl (hb hby d9_2) _ ?_
    rw [len_of S1 M1]
    refine XS.icmpYes X0.here hx rfl (pc0 := 3) (pc' := 11) rfl (hb hby d9_3) rfl (feq (by decide : ¬ ((2 : Int32) = (10 : Int32)))).2 (by decide) (by decide) ?_
    show Steps p.tables e below (s₁.setTop (mkF m 11 #[.val (.ref a), .val (.ref xx), .val (.ref ed), .val (.int (2 : Int32))] [])) t_
    refine XS.aloadN X0.here hx rfl (hb hby d9_11) rfl rfl ?_
    refine XS.iloadN X0.here hx rfl (hb hby d9_12) rfl ?_
    refine XS.aloadN X0.here hx rfl (hb hby d9_13) rfl rfl ?_
    exact k_
  obtain ⟨cl2, Ar2, q2, S2, M2, H2, G2⟩ := id u4
  have hin2 : ¬ ((2 : Int32) < 0 ∨ cl2.slots.size ≤ ((2 : Int32)).toNatClampNeg) := inb_of S2 ⟨by decide, by decide⟩
  obtain ⟨T3, h3, X3, e3, W3, st3⟩ := stR X0 hx hZ e0 Ar2 (j := (2 : Int32)) hin2 rfl (Sto.ofV Ar2 q2 u5 (Ins.of_exa u9 (own_w hw 90 rfl))) (g := (mkF m 14 #[.val (.ref a), .val (.ref xx), .val (.ref ed), .val (.int (2 : Int32))] [(.ref xx), (.int (2 : Int32)), (.ref ed)])) rfl rfl (hb hby d9_14)
  have B3 : Arv Z h3 ed k (.object "java/lang/Object") (10 : Int32) [(.ref yy0), (.ref yy1), (.ref xx), .null, .null, .null, .null, .null, .null, .null] .null := Arv.set Ar2 q2 S2 M2 H2 G2 rfl W3 2 rfl (Nat.le_of_ble_eq_true rfl)
  refine own_go st3 ?_
  have K3 : Keep h0 h3 [a, ed] := (Keep.refl h0 [a, ed]).wr W3 (Or.inl (List.mem_of_getElem? (i := 1) rfl))
  have N3 := Fr.snoc X3 N0 u7
  refine own_go (A := T3.setTop (mkF m 19 #[.val (.ref a), .val (.ref xx), .val (.ref ed), .val (.int (2 : Int32))] [(.int (3 : Int32)), (.ref a)])) (fun t_ k_ => ?_) ?_
  · show Steps p.tables e below (T3.setTop (mkF m 15 #[.val (.ref a), .val (.ref xx), .val (.ref ed), .val (.int (2 : Int32))] [])) t_
    refine XS.aloadN X3.here hx rfl (hb hby d9_15) rfl rfl ?_
    refine XS.iloadN X3.here hx rfl (hb hby d9_16) rfl ?_
    refine XS.iconst X3.here hx rfl (hb hby d9_17) ?_
    refine XS.iadd X3.here hx rfl (hb hby d9_18) rfl ?_
    exact k_
  obtain ⟨T4, h4, X4, e4, W4, st4⟩ := putF X3 hx hZ hown (host := "") (Or.inl (own_w hw 67 rfl)) Via.refl e3 (u2.other W3 (Or.inl u8)) (u0.wr W3) (Or.inl (own_w hw 68 rfl)) (own_w hw 11 rfl) (ty := .int) (by decide) rfl rfl (g := (mkF m 19 #[.val (.ref a), .val (.ref xx), .val (.ref ed), .val (.int (2 : Int32))] [(.int (3 : Int32)), (.ref a)])) rfl rfl (hb hby d9_19)
  have Fw4 : Fld Z h4 a "java/util/ArrayList" "size" "I" (.int (3 : Int32)) := (u2.other W3 (Or.inl u8)).same W4
  refine own_go st4 ?_
  have K4 : Keep h0 h4 [a, ed] := K3.wr W4 (Or.inl (List.mem_of_getElem? (i := 0) rfl))
  have N4 := Fr.snoc X4 N3 u6
  obtain ⟨fs5, hr5, hrun5, hended5, hW5, hsame5⟩ := X4.leave (v := none) (fun _ => rfl)
  refine ⟨_, _, ?_, hrun5, hended5, _, _, rfl, ?_, ⟨_, rfl⟩, hW5, hsame5.mono (by decide) (by decide)⟩
  · exact X4.returnOut hx Bd.returns (hb hby d9_22) hr5
  · show Q_rmAddP2 Z a xx ed k mc yy0 yy1 h0 n0 _ T4.heap _
    rw [e4]
    exact ⟨rfl, N4, K4, (B3.other W4 (Ne.symm u8)), ((u1.other W3 (Or.inl u8)).other W4 (Or.inr (slot_ne (Or.inl (own_w hw 33 rfl)) (Or.inl (own_w hw 68 rfl)) (by decide) (t := (.array (.object "java/lang/Object"))) (t' := .int) (by decide) (by decide)))), Fw4, ((u3.other W3 (Or.inl u8)).other W4 (Or.inr (slot_ne (Or.inl (own_w hw 30 rfl)) (Or.inl (own_w hw 68 rfl)) (by decide) (t := .int) (t' := .int) (by decide) (by decide))))⟩
theorem ef_rmAdd2 (m : MethodId) (a : Addr) (xx : Addr) : entryFrame m #[(.ref a), (.ref xx)] 2 = mkF m 0 #[.val (.ref a), .val (.ref xx)] [] := by first | (simp [entryFrame, mkF, argsToLocals, Value.category]; done) | rfl
def Q_rmAdd2 (Z : State) (a : Addr) (xx : Addr) (ed : Addr) (k : ClassId) (mc : Int32) (yy0 : Addr) (yy1 : Addr) (h0 : Heap) (n0 : Nat) (v_ : Option Value) (h_ : Heap) (L_ : List Loc) : Prop := v_ = some (.int (1 : Int32)) ∧ Fr n0 L_ ∧ Keep h0 h_ [a, ed] ∧ Arv Z h_ ed k (.object "java/lang/Object") (10 : Int32) [(.ref yy0), (.ref yy1), (.ref xx), .null, .null, .null, .null, .null, .null, .null] .null ∧ Fld Z h_ a "java/util/ArrayList" "elementData" "[Ljava/lang/Object;" (.ref ed) ∧ Fld Z h_ a "java/util/ArrayList" "size" "I" (.int (3 : Int32)) ∧ Fld Z h_ a "java/util/AbstractList" "modCount" "I" (.int (mc + (1 : Int32)))
set_option maxRecDepth 65536 in
set_option maxHeartbeats 40000000 in
theorem rmAdd2 (l : Launch) (Z : State) (a0 : Array Value) (hw : ∀ d ∈ tables_1, d.before a0 Z = true) (ws : List Jvm.Cond) (a : Addr) (xx : Addr) (ed : Addr) (k : ClassId) (mc : Int32) (yy0 : Addr) (yy1 : Addr) (h0 : Heap) (n0 : Nat) (Z0 : n0 ≤ h0.size) (u0 : Exa Z h0 a "java/util/ArrayList") (u1 : Fld Z h0 a "java/util/ArrayList" "elementData" "[Ljava/lang/Object;" (.ref ed)) (u2 : Fld Z h0 a "java/util/ArrayList" "size" "I" (.int (2 : Int32))) (u3 : Fld Z h0 a "java/util/AbstractList" "modCount" "I" (.int mc)) (u4 : Arv Z h0 ed k (.object "java/lang/Object") (10 : Int32) [(.ref yy0), (.ref yy1), .null, .null, .null, .null, .null, .null, .null, .null] .null) (u5 : Ovr Z k "java/lang/Object") (u6 : n0 ≤ a) (u7 : n0 ≤ ed) (u8 : a ≠ ed) (u9 : Exa Z h0 xx "java/lang/Integer") :
    MetFree l own_y8 (head1 (Jvm.Cond.code own_y8 jdk_38_method_25_code 2 (some .boolean) :: ws) ({ frames := 1, cells := 0, slots := 0, locals := 15 } : Room)) (fun a_ U_ => a_ = #[(.ref a), (.ref xx)] ∧ Z.Warmed39 U_.vm ∧ U_.heap = h0) (fun _ _ _ _ _ => True) (fun _ U_ o_ U2_ => ∃ v_ L_, o_ = .returned v_ ∧ Q_rmAdd2 Z a xx ed k mc yy0 yy1 h0 n0 v_ U2_.heap L_ ∧ FrameEnd U_ o_ U2_ L_ ({ frames := 1, cells := 0, slots := 0, locals := 15 } : Room).cells ({ frames := 1, cells := 0, slots := 0, locals := 15 } : Room).slots) := by
  refine MetFree.of_bodySF (plainFor_of_name pn_3) hisR ?_
  intro p e s m args below meth c s₁ Bd hml0 hP hK
  obtain ⟨rfl, hZ, hh⟩ := hP
  have hx := Bd.exec
  have hby := Bd.bytes
  have hml : c.maxLocals = 2 := hml0
  have hown : s.vm.findClass "java/util/ArrayList" = some m.cls := findClass_of_methodNamed Bd.named
  have hnm := (name_of_methodNamed Bd.named Bd.method).1
  have X0 : Stand p l e ({ frames := 1, cells := 0, slots := 0, locals := 15 } : Room) s m #[(.ref a), (.ref xx)] below meth c s₁ [] 0 0 := Stand.of_body Bd
  have e0 : s₁.heap = h0 := by rw [← hh, Bd.state]; rfl
  have N0 := Fr.nil n0
  refine own_go (A := s₁.setTop (mkF m 0 #[.val (.ref a), .val (.ref xx)] [])) (fun t_ k_ => castTop (ef_rmAdd2 m a xx) k_) ?_
  refine own_go (A := s₁.setTop (mkF m 2 #[.val (.ref a), .val (.ref xx)] [(.ref a), (.ref a)])) (fun t_ k_ => ?_) ?_
  · show Steps p.tables e below (s₁.setTop (mkF m 0 #[.val (.ref a), .val (.ref xx)] [])) t_
    refine XS.aloadN X0.here hx rfl (hb hby d8_0) rfl rfl ?_
    refine XS.dup X0.here hx rfl (hb hby d8_1) rfl rfl ?_
    exact k_
  obtain ⟨T1, X1, e1, st1⟩ := getF X0 hx hZ hown (host := "") (Or.inl (own_w hw 65 rfl)) (Via.of (own_w hw 66 rfl)) e0 u3 (g := (mkF m 2 #[.val (.ref a), .val (.ref xx)] [(.ref a), (.ref a)])) rfl rfl (hb hby d8_2)
  refine own_go st1 ?_
  refine own_go (A := T1.setTop (mkF m 7 #[.val (.ref a), .val (.ref xx)] [(.int (mc + (1 : Int32))), (.ref a)])) (fun t_ k_ => ?_) ?_
  · show Steps p.tables e below (T1.setTop (mkF m 5 #[.val (.ref a), .val (.ref xx)] [(.int mc), (.ref a)])) t_
    refine XS.iconst X1.here hx rfl (hb hby d8_5) ?_
    refine XS.iadd X1.here hx rfl (hb hby d8_6) rfl ?_
    exact k_
  obtain ⟨T2, h2, X2, e2, W2, st2⟩ := putF X1 hx hZ hown (host := "") (Or.inl (own_w hw 65 rfl)) (Via.of (own_w hw 66 rfl)) e1 u3 u0 (Or.inl (own_w hw 30 rfl)) (own_w hw 11 rfl) (ty := .int) (by decide) rfl rfl (g := (mkF m 7 #[.val (.ref a), .val (.ref xx)] [(.int (mc + (1 : Int32))), (.ref a)])) rfl rfl (hb hby d8_7)
  have Fw2 : Fld Z h2 a "java/util/AbstractList" "modCount" "I" (.int (mc + (1 : Int32))) := u3.same W2
  refine own_go st2 ?_
  have K2 : Keep h0 h2 [a, ed] := (Keep.refl h0 [a, ed]).wr W2 (Or.inl (List.mem_of_getElem? (i := 0) rfl))
  have N2 := Fr.snoc X2 N0 u6
  refine own_go (A := T2.setTop (mkF m 13 #[.val (.ref a), .val (.ref xx)] [(.ref a), (.ref xx), (.ref a)])) (fun t_ k_ => ?_) ?_
  · show Steps p.tables e below (T2.setTop (mkF m 10 #[.val (.ref a), .val (.ref xx)] [])) t_
    refine XS.aloadN X2.here hx rfl (hb hby d8_10) rfl rfl ?_
    refine XS.aloadN X2.here hx rfl (hb hby d8_11) rfl rfl ?_
    refine XS.aloadN X2.here hx rfl (hb hby d8_12) rfl rfl ?_
    exact k_
  obtain ⟨T3, X3, e3, st3⟩ := getF X2 hx hZ hown (host := "") (Or.inl (own_w hw 32 rfl)) Via.refl e2 (u1.other W2 (Or.inr (slot_ne (Or.inl (own_w hw 33 rfl)) (Or.inl (own_w hw 30 rfl)) (by decide) (t := (.array (.object "java/lang/Object"))) (t' := .int) (by decide) (by decide)))) (g := (mkF m 13 #[.val (.ref a), .val (.ref xx)] [(.ref a), (.ref xx), (.ref a)])) rfl rfl (hb hby d8_13)
  refine own_go st3 ?_
  refine own_go (A := T3.setTop (mkF m 17 #[.val (.ref a), .val (.ref xx)] [(.ref a), (.ref ed), (.ref xx), (.ref a)])) (fun t_ k_ => ?_) ?_
  · show Steps p.tables e below (T3.setTop (mkF m 16 #[.val (.ref a), .val (.ref xx)] [(.ref ed), (.ref xx), (.ref a)])) t_
    refine XS.aloadN X3.here hx rfl (hb hby d8_16) rfl rfl ?_
    exact k_
  obtain ⟨T4, X4, e4, st4⟩ := getF X3 hx hZ hown (host := "") (Or.inl (own_w hw 67 rfl)) Via.refl e3 (u2.other W2 (Or.inr (slot_ne (Or.inl (own_w hw 68 rfl)) (Or.inl (own_w hw 30 rfl)) (by decide) (t := .int) (t' := .int) (by decide) (by decide)))) (g := (mkF m 17 #[.val (.ref a), .val (.ref xx)] [(.ref a), (.ref ed), (.ref xx), (.ref a)])) rfl rfl (hb hby d8_17)
  refine own_go st4 ?_
  obtain ⟨cq5, q5, q5'⟩ := (u0.wr W2).cell
  obtain ⟨_, _, ⟨T5, L5, k5, n5⟩, -, X5, ⟨Lc5, hQ5, l5, y5, z5⟩, st5⟩ := X4.privateBack hx (y := own_y7) hown (mvT hZ (own_w hw 69 rfl)) (mvT hZ (own_w hw 70 rfl)) (mvT hZ (own_w hw 72 rfl)) (Cond.privateMethod_at (mvP hZ (own_w hw 71 rfl) (args := #[]))) (mvT hZ (own_w hw 73 rfl)) (by decide) (backOf (W := 0) (rmAddP2 l Z a0 hw [] a xx ed k (mc + (1 : Int32)) yy0 yy1 h2 n0 (Nat.le_trans Z0 K2.1) (u0.wr W2) (u1.other W2 (Or.inr (slot_ne (Or.inl (own_w hw 33 rfl)) (Or.inl (own_w hw 30 rfl)) (by decide) (t := (.array (.object "java/lang/Object"))) (t' := .int) (by decide) (by decide)))) (u2.other W2 (Or.inr (slot_ne (Or.inl (own_w hw 68 rfl)) (Or.inl (own_w hw 30 rfl)) (by decide) (t := .int) (t' := .int) (by decide) (by decide)))) Fw2 (u4.other W2 (Ne.symm u8)) u5 u6 u7 u8 (u9.wr W2)) hZ (own_w hw 73 rfl) (own_w hw 12 rfl) (by decide) (by decide)) (g := (mkF m 20 #[.val (.ref a), .val (.ref xx)] [(.int (2 : Int32)), (.ref ed), (.ref xx), (.ref a)])) rfl (by rw [hml]; rfl) (Steps.refl _) (a := a) (by rw [e4]; exact q5) q5' (argsL := [(.ref xx), (.ref ed), (.int (2 : Int32))]) (rest := []) (lenOf pd_4 rfl) rfl (by show 2 * 0 + _ ≤ _; exact Nat.le_of_eq rfl) (hb hby d8_20) (fun _ _ => ⟨rfl, e4, (by decide : 0 + 0 ≤ _), (by decide : 0 + 0 ≤ _)⟩)
  dsimp only [Pt.U, Pt.locs, Pt.cells, Pt.slots] at X5 l5 y5 z5 st5 hQ5
  subst l5 y5 z5
  obtain ⟨rfl, N5q, Kc5, r5_0, r5_1, r5_2, r5_3⟩ := hQ5
  have N5 := Fr.app N2 N5q
  refine own_via st5 ?_
  have K5 : Keep h0 T5.heap [a, ed] := K2.trans Kc5 (allS (P := fun x => x ∈ _ ∨ _ ≤ x) (Or.inl (List.mem_of_getElem? (i := 0) rfl)) (allS (P := fun x => x ∈ _ ∨ _ ≤ x) (Or.inl (List.mem_of_getElem? (i := 1) rfl)) all0))
  refine own_go (A := T5.setTop (mkF m 24 #[.val (.ref a), .val (.ref xx)] [(.int (1 : Int32))])) (fun t_ k_ => ?_) ?_
  · show Steps p.tables e below (T5.setTop (mkF m 23 #[.val (.ref a), .val (.ref xx)] [])) t_
    refine XS.iconst X5.here hx rfl (hb hby d8_23) ?_
    exact k_
  obtain ⟨fs6, hr6, hrun6, hended6, hW6, hsame6⟩ := X5.leave (v := some (.int (1 : Int32))) (fun h => by rw [Bd.returns] at h; cases h)
  refine ⟨_, _, ?_, hrun6, hended6, _, _, rfl, ?_, ⟨_, rfl⟩, hW6, hsame6.mono (by decide) (by decide)⟩
  · exact retN X5 hx (t := .boolean) Bd.returns (by simp) (hb hby d8_24) hr6
  · show Q_rmAdd2 Z a xx ed k mc yy0 yy1 h0 n0 _ T5.heap _
    exact ⟨rfl, N5, K5, r5_0, r5_1, r5_2, r5_3⟩
theorem ef_rmAddP3 (m : MethodId) (a : Addr) (xx : Addr) (ed : Addr) : entryFrame m #[(.ref a), (.ref xx), (.ref ed), (.int (3 : Int32))] 4 = mkF m 0 #[.val (.ref a), .val (.ref xx), .val (.ref ed), .val (.int (3 : Int32))] [] := by first | (simp [entryFrame, mkF, argsToLocals, Value.category]; done) | rfl
def Q_rmAddP3 (Z : State) (a : Addr) (xx : Addr) (ed : Addr) (k : ClassId) (mc : Int32) (yy0 : Addr) (yy1 : Addr) (yy2 : Addr) (h0 : Heap) (n0 : Nat) (v_ : Option Value) (h_ : Heap) (L_ : List Loc) : Prop := v_ = none ∧ Fr n0 L_ ∧ Keep h0 h_ [a, ed] ∧ Arv Z h_ ed k (.object "java/lang/Object") (10 : Int32) [(.ref yy0), (.ref yy1), (.ref yy2), (.ref xx), .null, .null, .null, .null, .null, .null] .null ∧ Fld Z h_ a "java/util/ArrayList" "elementData" "[Ljava/lang/Object;" (.ref ed) ∧ Fld Z h_ a "java/util/ArrayList" "size" "I" (.int (4 : Int32)) ∧ Fld Z h_ a "java/util/AbstractList" "modCount" "I" (.int mc)
set_option maxRecDepth 65536 in
set_option maxHeartbeats 40000000 in
theorem rmAddP3 (l : Launch) (Z : State) (a0 : Array Value) (hw : ∀ d ∈ tables_1, d.before a0 Z = true) (ws : List Jvm.Cond) (a : Addr) (xx : Addr) (ed : Addr) (k : ClassId) (mc : Int32) (yy0 : Addr) (yy1 : Addr) (yy2 : Addr) (h0 : Heap) (n0 : Nat) (Z0 : n0 ≤ h0.size) (u0 : Exa Z h0 a "java/util/ArrayList") (u1 : Fld Z h0 a "java/util/ArrayList" "elementData" "[Ljava/lang/Object;" (.ref ed)) (u2 : Fld Z h0 a "java/util/ArrayList" "size" "I" (.int (3 : Int32))) (u3 : Fld Z h0 a "java/util/AbstractList" "modCount" "I" (.int mc)) (u4 : Arv Z h0 ed k (.object "java/lang/Object") (10 : Int32) [(.ref yy0), (.ref yy1), (.ref yy2), .null, .null, .null, .null, .null, .null, .null] .null) (u5 : Ovr Z k "java/lang/Object") (u6 : n0 ≤ a) (u7 : n0 ≤ ed) (u8 : a ≠ ed) (u9 : Exa Z h0 xx "java/lang/Integer") :
    MetFree l own_y7 (head1 (Jvm.Cond.code own_y7 jdk_38_method_24_code 4 none :: ws) ({ frames := 0, cells := 0, slots := 0, locals := 0 } : Room)) (fun a_ U_ => a_ = #[(.ref a), (.ref xx), (.ref ed), (.int (3 : Int32))] ∧ Z.Warmed39 U_.vm ∧ U_.heap = h0) (fun _ _ _ _ _ => True) (fun _ U_ o_ U2_ => ∃ v_ L_, o_ = .returned v_ ∧ Q_rmAddP3 Z a xx ed k mc yy0 yy1 yy2 h0 n0 v_ U2_.heap L_ ∧ FrameEnd U_ o_ U2_ L_ ({ frames := 0, cells := 0, slots := 0, locals := 0 } : Room).cells ({ frames := 0, cells := 0, slots := 0, locals := 0 } : Room).slots) := by
  refine MetFree.of_bodySF (plainFor_of_name pn_3) hisR ?_
  intro p e s m args below meth c s₁ Bd hml0 hP hK
  obtain ⟨rfl, hZ, hh⟩ := hP
  have hx := Bd.exec
  have hby := Bd.bytes
  have hml : c.maxLocals = 4 := hml0
  have hown : s.vm.findClass "java/util/ArrayList" = some m.cls := findClass_of_methodNamed Bd.named
  have hnm := (name_of_methodNamed Bd.named Bd.method).1
  have X0 : Stand p l e ({ frames := 0, cells := 0, slots := 0, locals := 0 } : Room) s m #[(.ref a), (.ref xx), (.ref ed), (.int (3 : Int32))] below meth c s₁ [] 0 0 := Stand.of_body Bd
  have e0 : s₁.heap = h0 := by rw [← hh, Bd.state]; rfl
  have N0 := Fr.nil n0
  refine own_go (A := s₁.setTop (mkF m 0 #[.val (.ref a), .val (.ref xx), .val (.ref ed), .val (.int (3 : Int32))] [])) (fun t_ k_ => castTop (ef_rmAddP3 m a xx ed) k_) ?_
  obtain ⟨cl1, Ar1, q1, S1, M1, H1, G1⟩ := id u4
  refine own_go (A := s₁.setTop (mkF m 14 #[.val (.ref a), .val (.ref xx), .val (.ref ed), .val (.int (3 : Int32))] [(.ref xx), (.int (3 : Int32)), (.ref ed)])) (fun t_ k_ => ?_) ?_
  · show Steps p.tables e below (s₁.setTop (mkF m 0 #[.val (.ref a), .val (.ref xx), .val (.ref ed), .val (.int (3 : Int32))] [])) t_
    refine XS.iloadN X0.here hx rfl (hb hby d9_0) rfl ?_
    refine XS.aloadN X0.here hx rfl (hb hby d9_1) rfl rfl ?_
    refine X0.arraylength hx (by rw [e0]; exact Ar1.1) (State.isArrayOf_alike hZ.alike Ar1.2.1) (g := (mkF m 2 #[.val (.ref a), .val (.ref xx), .val (.ref ed), .val (.int (3 : Int32))] [(.ref ed), (.int (3 : Int32))])) rfl rfl (hb hby d9_2) _ ?_
    rw [len_of S1 M1]
    refine XS.icmpYes X0.here hx rfl (pc0 := 3) (pc' := 11) rfl (hb hby d9_3) rfl (feq (by decide : ¬ ((3 : Int32) = (10 : Int32)))).2 (by decide) (by decide) ?_
    show Steps p.tables e below (s₁.setTop (mkF m 11 #[.val (.ref a), .val (.ref xx), .val (.ref ed), .val (.int (3 : Int32))] [])) t_
    refine XS.aloadN X0.here hx rfl (hb hby d9_11) rfl rfl ?_
    refine XS.iloadN X0.here hx rfl (hb hby d9_12) rfl ?_
    refine XS.aloadN X0.here hx rfl (hb hby d9_13) rfl rfl ?_
    exact k_
  obtain ⟨cl2, Ar2, q2, S2, M2, H2, G2⟩ := id u4
  have hin2 : ¬ ((3 : Int32) < 0 ∨ cl2.slots.size ≤ ((3 : Int32)).toNatClampNeg) := inb_of S2 ⟨by decide, by decide⟩
  obtain ⟨T3, h3, X3, e3, W3, st3⟩ := stR X0 hx hZ e0 Ar2 (j := (3 : Int32)) hin2 rfl (Sto.ofV Ar2 q2 u5 (Ins.of_exa u9 (own_w hw 90 rfl))) (g := (mkF m 14 #[.val (.ref a), .val (.ref xx), .val (.ref ed), .val (.int (3 : Int32))] [(.ref xx), (.int (3 : Int32)), (.ref ed)])) rfl rfl (hb hby d9_14)
  have B3 : Arv Z h3 ed k (.object "java/lang/Object") (10 : Int32) [(.ref yy0), (.ref yy1), (.ref yy2), (.ref xx), .null, .null, .null, .null, .null, .null] .null := Arv.set Ar2 q2 S2 M2 H2 G2 rfl W3 3 rfl (Nat.le_of_ble_eq_true rfl)
  refine own_go st3 ?_
  have K3 : Keep h0 h3 [a, ed] := (Keep.refl h0 [a, ed]).wr W3 (Or.inl (List.mem_of_getElem? (i := 1) rfl))
  have N3 := Fr.snoc X3 N0 u7
  refine own_go (A := T3.setTop (mkF m 19 #[.val (.ref a), .val (.ref xx), .val (.ref ed), .val (.int (3 : Int32))] [(.int (4 : Int32)), (.ref a)])) (fun t_ k_ => ?_) ?_
  · show Steps p.tables e below (T3.setTop (mkF m 15 #[.val (.ref a), .val (.ref xx), .val (.ref ed), .val (.int (3 : Int32))] [])) t_
    refine XS.aloadN X3.here hx rfl (hb hby d9_15) rfl rfl ?_
    refine XS.iloadN X3.here hx rfl (hb hby d9_16) rfl ?_
    refine XS.iconst X3.here hx rfl (hb hby d9_17) ?_
    refine XS.iadd X3.here hx rfl (hb hby d9_18) rfl ?_
    exact k_
  obtain ⟨T4, h4, X4, e4, W4, st4⟩ := putF X3 hx hZ hown (host := "") (Or.inl (own_w hw 67 rfl)) Via.refl e3 (u2.other W3 (Or.inl u8)) (u0.wr W3) (Or.inl (own_w hw 68 rfl)) (own_w hw 11 rfl) (ty := .int) (by decide) rfl rfl (g := (mkF m 19 #[.val (.ref a), .val (.ref xx), .val (.ref ed), .val (.int (3 : Int32))] [(.int (4 : Int32)), (.ref a)])) rfl rfl (hb hby d9_19)
  have Fw4 : Fld Z h4 a "java/util/ArrayList" "size" "I" (.int (4 : Int32)) := (u2.other W3 (Or.inl u8)).same W4
  refine own_go st4 ?_
  have K4 : Keep h0 h4 [a, ed] := K3.wr W4 (Or.inl (List.mem_of_getElem? (i := 0) rfl))
  have N4 := Fr.snoc X4 N3 u6
  obtain ⟨fs5, hr5, hrun5, hended5, hW5, hsame5⟩ := X4.leave (v := none) (fun _ => rfl)
  refine ⟨_, _, ?_, hrun5, hended5, _, _, rfl, ?_, ⟨_, rfl⟩, hW5, hsame5.mono (by decide) (by decide)⟩
  · exact X4.returnOut hx Bd.returns (hb hby d9_22) hr5
  · show Q_rmAddP3 Z a xx ed k mc yy0 yy1 yy2 h0 n0 _ T4.heap _
    rw [e4]
    exact ⟨rfl, N4, K4, (B3.other W4 (Ne.symm u8)), ((u1.other W3 (Or.inl u8)).other W4 (Or.inr (slot_ne (Or.inl (own_w hw 33 rfl)) (Or.inl (own_w hw 68 rfl)) (by decide) (t := (.array (.object "java/lang/Object"))) (t' := .int) (by decide) (by decide)))), Fw4, ((u3.other W3 (Or.inl u8)).other W4 (Or.inr (slot_ne (Or.inl (own_w hw 30 rfl)) (Or.inl (own_w hw 68 rfl)) (by decide) (t := .int) (t' := .int) (by decide) (by decide))))⟩
theorem ef_rmAdd3 (m : MethodId) (a : Addr) (xx : Addr) : entryFrame m #[(.ref a), (.ref xx)] 2 = mkF m 0 #[.val (.ref a), .val (.ref xx)] [] := by first | (simp [entryFrame, mkF, argsToLocals, Value.category]; done) | rfl
def Q_rmAdd3 (Z : State) (a : Addr) (xx : Addr) (ed : Addr) (k : ClassId) (mc : Int32) (yy0 : Addr) (yy1 : Addr) (yy2 : Addr) (h0 : Heap) (n0 : Nat) (v_ : Option Value) (h_ : Heap) (L_ : List Loc) : Prop := v_ = some (.int (1 : Int32)) ∧ Fr n0 L_ ∧ Keep h0 h_ [a, ed] ∧ Arv Z h_ ed k (.object "java/lang/Object") (10 : Int32) [(.ref yy0), (.ref yy1), (.ref yy2), (.ref xx), .null, .null, .null, .null, .null, .null] .null ∧ Fld Z h_ a "java/util/ArrayList" "elementData" "[Ljava/lang/Object;" (.ref ed) ∧ Fld Z h_ a "java/util/ArrayList" "size" "I" (.int (4 : Int32)) ∧ Fld Z h_ a "java/util/AbstractList" "modCount" "I" (.int (mc + (1 : Int32)))
set_option maxRecDepth 65536 in
set_option maxHeartbeats 40000000 in
theorem rmAdd3 (l : Launch) (Z : State) (a0 : Array Value) (hw : ∀ d ∈ tables_1, d.before a0 Z = true) (ws : List Jvm.Cond) (a : Addr) (xx : Addr) (ed : Addr) (k : ClassId) (mc : Int32) (yy0 : Addr) (yy1 : Addr) (yy2 : Addr) (h0 : Heap) (n0 : Nat) (Z0 : n0 ≤ h0.size) (u0 : Exa Z h0 a "java/util/ArrayList") (u1 : Fld Z h0 a "java/util/ArrayList" "elementData" "[Ljava/lang/Object;" (.ref ed)) (u2 : Fld Z h0 a "java/util/ArrayList" "size" "I" (.int (3 : Int32))) (u3 : Fld Z h0 a "java/util/AbstractList" "modCount" "I" (.int mc)) (u4 : Arv Z h0 ed k (.object "java/lang/Object") (10 : Int32) [(.ref yy0), (.ref yy1), (.ref yy2), .null, .null, .null, .null, .null, .null, .null] .null) (u5 : Ovr Z k "java/lang/Object") (u6 : n0 ≤ a) (u7 : n0 ≤ ed) (u8 : a ≠ ed) (u9 : Exa Z h0 xx "java/lang/Integer") :
    MetFree l own_y8 (head1 (Jvm.Cond.code own_y8 jdk_38_method_25_code 2 (some .boolean) :: ws) ({ frames := 1, cells := 0, slots := 0, locals := 15 } : Room)) (fun a_ U_ => a_ = #[(.ref a), (.ref xx)] ∧ Z.Warmed39 U_.vm ∧ U_.heap = h0) (fun _ _ _ _ _ => True) (fun _ U_ o_ U2_ => ∃ v_ L_, o_ = .returned v_ ∧ Q_rmAdd3 Z a xx ed k mc yy0 yy1 yy2 h0 n0 v_ U2_.heap L_ ∧ FrameEnd U_ o_ U2_ L_ ({ frames := 1, cells := 0, slots := 0, locals := 15 } : Room).cells ({ frames := 1, cells := 0, slots := 0, locals := 15 } : Room).slots) := by
  refine MetFree.of_bodySF (plainFor_of_name pn_3) hisR ?_
  intro p e s m args below meth c s₁ Bd hml0 hP hK
  obtain ⟨rfl, hZ, hh⟩ := hP
  have hx := Bd.exec
  have hby := Bd.bytes
  have hml : c.maxLocals = 2 := hml0
  have hown : s.vm.findClass "java/util/ArrayList" = some m.cls := findClass_of_methodNamed Bd.named
  have hnm := (name_of_methodNamed Bd.named Bd.method).1
  have X0 : Stand p l e ({ frames := 1, cells := 0, slots := 0, locals := 15 } : Room) s m #[(.ref a), (.ref xx)] below meth c s₁ [] 0 0 := Stand.of_body Bd
  have e0 : s₁.heap = h0 := by rw [← hh, Bd.state]; rfl
  have N0 := Fr.nil n0
  refine own_go (A := s₁.setTop (mkF m 0 #[.val (.ref a), .val (.ref xx)] [])) (fun t_ k_ => castTop (ef_rmAdd3 m a xx) k_) ?_
  refine own_go (A := s₁.setTop (mkF m 2 #[.val (.ref a), .val (.ref xx)] [(.ref a), (.ref a)])) (fun t_ k_ => ?_) ?_
  · show Steps p.tables e below (s₁.setTop (mkF m 0 #[.val (.ref a), .val (.ref xx)] [])) t_
    refine XS.aloadN X0.here hx rfl (hb hby d8_0) rfl rfl ?_
    refine XS.dup X0.here hx rfl (hb hby d8_1) rfl rfl ?_
    exact k_
  obtain ⟨T1, X1, e1, st1⟩ := getF X0 hx hZ hown (host := "") (Or.inl (own_w hw 65 rfl)) (Via.of (own_w hw 66 rfl)) e0 u3 (g := (mkF m 2 #[.val (.ref a), .val (.ref xx)] [(.ref a), (.ref a)])) rfl rfl (hb hby d8_2)
  refine own_go st1 ?_
  refine own_go (A := T1.setTop (mkF m 7 #[.val (.ref a), .val (.ref xx)] [(.int (mc + (1 : Int32))), (.ref a)])) (fun t_ k_ => ?_) ?_
  · show Steps p.tables e below (T1.setTop (mkF m 5 #[.val (.ref a), .val (.ref xx)] [(.int mc), (.ref a)])) t_
    refine XS.iconst X1.here hx rfl (hb hby d8_5) ?_
    refine XS.iadd X1.here hx rfl (hb hby d8_6) rfl ?_
    exact k_
  obtain ⟨T2, h2, X2, e2, W2, st2⟩ := putF X1 hx hZ hown (host := "") (Or.inl (own_w hw 65 rfl)) (Via.of (own_w hw 66 rfl)) e1 u3 u0 (Or.inl (own_w hw 30 rfl)) (own_w hw 11 rfl) (ty := .int) (by decide) rfl rfl (g := (mkF m 7 #[.val (.ref a), .val (.ref xx)] [(.int (mc + (1 : Int32))), (.ref a)])) rfl rfl (hb hby d8_7)
  have Fw2 : Fld Z h2 a "java/util/AbstractList" "modCount" "I" (.int (mc + (1 : Int32))) := u3.same W2
  refine own_go st2 ?_
  have K2 : Keep h0 h2 [a, ed] := (Keep.refl h0 [a, ed]).wr W2 (Or.inl (List.mem_of_getElem? (i := 0) rfl))
  have N2 := Fr.snoc X2 N0 u6
  refine own_go (A := T2.setTop (mkF m 13 #[.val (.ref a), .val (.ref xx)] [(.ref a), (.ref xx), (.ref a)])) (fun t_ k_ => ?_) ?_
  · show Steps p.tables e below (T2.setTop (mkF m 10 #[.val (.ref a), .val (.ref xx)] [])) t_
    refine XS.aloadN X2.here hx rfl (hb hby d8_10) rfl rfl ?_
    refine XS.aloadN X2.here hx rfl (hb hby d8_11) rfl rfl ?_
    refine XS.aloadN X2.here hx rfl (hb hby d8_12) rfl rfl ?_
    exact k_
  obtain ⟨T3, X3, e3, st3⟩ := getF X2 hx hZ hown (host := "") (Or.inl (own_w hw 32 rfl)) Via.refl e2 (u1.other W2 (Or.inr (slot_ne (Or.inl (own_w hw 33 rfl)) (Or.inl (own_w hw 30 rfl)) (by decide) (t := (.array (.object "java/lang/Object"))) (t' := .int) (by decide) (by decide)))) (g := (mkF m 13 #[.val (.ref a), .val (.ref xx)] [(.ref a), (.ref xx), (.ref a)])) rfl rfl (hb hby d8_13)
  refine own_go st3 ?_
  refine own_go (A := T3.setTop (mkF m 17 #[.val (.ref a), .val (.ref xx)] [(.ref a), (.ref ed), (.ref xx), (.ref a)])) (fun t_ k_ => ?_) ?_
  · show Steps p.tables e below (T3.setTop (mkF m 16 #[.val (.ref a), .val (.ref xx)] [(.ref ed), (.ref xx), (.ref a)])) t_
    refine XS.aloadN X3.here hx rfl (hb hby d8_16) rfl rfl ?_
    exact k_
  obtain ⟨T4, X4, e4, st4⟩ := getF X3 hx hZ hown (host := "") (Or.inl (own_w hw 67 rfl)) Via.refl e3 (u2.other W2 (Or.inr (slot_ne (Or.inl (own_w hw 68 rfl)) (Or.inl (own_w hw 30 rfl)) (by decide) (t := .int) (t' := .int) (by decide) (by decide)))) (g := (mkF m 17 #[.val (.ref a), .val (.ref xx)] [(.ref a), (.ref ed), (.ref xx), (.ref a)])) rfl rfl (hb hby d8_17)
  refine own_go st4 ?_
  obtain ⟨cq5, q5, q5'⟩ := (u0.wr W2).cell
  obtain ⟨_, _, ⟨T5, L5, k5, n5⟩, -, X5, ⟨Lc5, hQ5, l5, y5, z5⟩, st5⟩ := X4.privateBack hx (y := own_y7) hown (mvT hZ (own_w hw 69 rfl)) (mvT hZ (own_w hw 70 rfl)) (mvT hZ (own_w hw 72 rfl)) (Cond.privateMethod_at (mvP hZ (own_w hw 71 rfl) (args := #[]))) (mvT hZ (own_w hw 73 rfl)) (by decide) (backOf (W := 0) (rmAddP3 l Z a0 hw [] a xx ed k (mc + (1 : Int32)) yy0 yy1 yy2 h2 n0 (Nat.le_trans Z0 K2.1) (u0.wr W2) (u1.other W2 (Or.inr (slot_ne (Or.inl (own_w hw 33 rfl)) (Or.inl (own_w hw 30 rfl)) (by decide) (t := (.array (.object "java/lang/Object"))) (t' := .int) (by decide) (by decide)))) (u2.other W2 (Or.inr (slot_ne (Or.inl (own_w hw 68 rfl)) (Or.inl (own_w hw 30 rfl)) (by decide) (t := .int) (t' := .int) (by decide) (by decide)))) Fw2 (u4.other W2 (Ne.symm u8)) u5 u6 u7 u8 (u9.wr W2)) hZ (own_w hw 73 rfl) (own_w hw 12 rfl) (by decide) (by decide)) (g := (mkF m 20 #[.val (.ref a), .val (.ref xx)] [(.int (3 : Int32)), (.ref ed), (.ref xx), (.ref a)])) rfl (by rw [hml]; rfl) (Steps.refl _) (a := a) (by rw [e4]; exact q5) q5' (argsL := [(.ref xx), (.ref ed), (.int (3 : Int32))]) (rest := []) (lenOf pd_4 rfl) rfl (by show 2 * 0 + _ ≤ _; exact Nat.le_of_eq rfl) (hb hby d8_20) (fun _ _ => ⟨rfl, e4, (by decide : 0 + 0 ≤ _), (by decide : 0 + 0 ≤ _)⟩)
  dsimp only [Pt.U, Pt.locs, Pt.cells, Pt.slots] at X5 l5 y5 z5 st5 hQ5
  subst l5 y5 z5
  obtain ⟨rfl, N5q, Kc5, r5_0, r5_1, r5_2, r5_3⟩ := hQ5
  have N5 := Fr.app N2 N5q
  refine own_via st5 ?_
  have K5 : Keep h0 T5.heap [a, ed] := K2.trans Kc5 (allS (P := fun x => x ∈ _ ∨ _ ≤ x) (Or.inl (List.mem_of_getElem? (i := 0) rfl)) (allS (P := fun x => x ∈ _ ∨ _ ≤ x) (Or.inl (List.mem_of_getElem? (i := 1) rfl)) all0))
  refine own_go (A := T5.setTop (mkF m 24 #[.val (.ref a), .val (.ref xx)] [(.int (1 : Int32))])) (fun t_ k_ => ?_) ?_
  · show Steps p.tables e below (T5.setTop (mkF m 23 #[.val (.ref a), .val (.ref xx)] [])) t_
    refine XS.iconst X5.here hx rfl (hb hby d8_23) ?_
    exact k_
  obtain ⟨fs6, hr6, hrun6, hended6, hW6, hsame6⟩ := X5.leave (v := some (.int (1 : Int32))) (fun h => by rw [Bd.returns] at h; cases h)
  refine ⟨_, _, ?_, hrun6, hended6, _, _, rfl, ?_, ⟨_, rfl⟩, hW6, hsame6.mono (by decide) (by decide)⟩
  · exact retN X5 hx (t := .boolean) Bd.returns (by simp) (hb hby d8_24) hr6
  · show Q_rmAdd3 Z a xx ed k mc yy0 yy1 yy2 h0 n0 _ T5.heap _
    exact ⟨rfl, N5, K5, r5_0, r5_1, r5_2, r5_3⟩
def own_bval (j : Int32) : Value := .int (j - 128)
theorem own_ci {i : Int32} (h1 : ¬ (i < (-128 : Int32))) (h2 : ¬ ((127 : Int32) < i)) : ¬ (i + (128 : Int32)) < 0 ∧ (i + (128 : Int32)) < (256 : Int32) := by
  simp only [Int32.lt_iff_toInt_lt] at *
  have h3 := c_iadd i 128
  have h4 := rng32 (i + 128)
  simp only [show ((-128 : Int32).toInt) = -128 from by decide, show ((127 : Int32).toInt) = 127 from by decide, show ((128 : Int32).toInt) = 128 from by decide, show ((0 : Int32).toInt) = 0 from by decide, show ((256 : Int32).toInt) = 256 from by decide] at *
  omega
theorem own_cj {i : Int32} : (i + (128 : Int32)) - 128 = i := by
  apply Int32.toBitVec_inj.mp; simp
theorem d7_0 : decode jdk_33_method_22_code 0 = .ok (.iload_n 0, 1) := by decide +kernel
theorem d7_1 : decode jdk_33_method_22_code 1 = .ok (.bipush (-128), 2) := by decide +kernel
theorem d7_3 : decode jdk_33_method_22_code 3 = .ok (.if_icmp .lt 20, 3) := by decide +kernel
theorem d7_6 : decode jdk_33_method_22_code 6 = .ok (.iload_n 0, 1) := by decide +kernel
theorem d7_7 : decode jdk_33_method_22_code 7 = .ok (.getstatic 191, 3) := by decide +kernel
theorem d7_10 : decode jdk_33_method_22_code 10 = .ok (.if_icmp .gt 13, 3) := by decide +kernel
theorem d7_13 : decode jdk_33_method_22_code 13 = .ok (.getstatic 195, 3) := by decide +kernel
theorem d7_16 : decode jdk_33_method_22_code 16 = .ok (.iload_n 0, 1) := by decide +kernel
theorem d7_17 : decode jdk_33_method_22_code 17 = .ok (.sipush 128, 3) := by decide +kernel
theorem d7_20 : decode jdk_33_method_22_code 20 = .ok (.iadd, 1) := by decide +kernel
theorem d7_21 : decode jdk_33_method_22_code 21 = .ok (.aaload, 1) := by decide +kernel
theorem d7_22 : decode jdk_33_method_22_code 22 = .ok (.areturn, 1) := by decide +kernel
abbrev own_y9 : MethodName := ⟨"java/lang/Integer", "valueOf", "(I)Ljava/lang/Integer;"⟩
theorem ef_rmVO (m : MethodId) (i : Int32) : entryFrame m #[(.int i)] 1 = mkF m 0 #[.val (.int i)] [] := by first | (simp [entryFrame, mkF, argsToLocals, Value.category]; done) | rfl
def Q_rmVO (Z : State) (i : Int32) (ca : Addr) (bxc : Cell) (h0 : Heap) (n0 : Nat) (v_ : Option Value) (h_ : Heap) (L_ : List Loc) : Prop := ∃ r : Addr, v_ = some (.ref r) ∧ Fr n0 L_ ∧ Keep h0 h_ [] ∧ Exa Z Z.heap r "java/lang/Integer" ∧ Fld Z Z.heap r "java/lang/Integer" "value" "I" (.int i)
theorem pn_4 : plainName "java/lang/Integer" = true := by first | (simp [plainName, overriddenIn]; done) | decide +kernel
set_option maxRecDepth 65536 in
set_option maxHeartbeats 40000000 in
theorem rmVO (l : Launch) (Z : State) (a0 : Array Value) (hw : ∀ d ∈ tables_1, d.before a0 Z = true) (ws : List Jvm.Cond) (i : Int32) (ca : Addr) (bxc : Cell) (h0 : Heap) (n0 : Nat) (Z0 : n0 ≤ h0.size) (O0 : Old Z n0 h0) (u1 : Sta Z Z.heap "java/lang/Integer$IntegerCache" "high" "I" (.int (127 : Int32))) (u2 : Sta Z Z.heap "java/lang/Integer$IntegerCache" "cache" "[Ljava/lang/Integer;" (.ref ca)) (hbx : Bxs Z ca bxc "java/lang/Integer" "I" (256 : Int32) own_bval) (hvl : ¬ (i < (-128 : Int32))) (hvh : ¬ ((127 : Int32) < i)) :
    MetFree l own_y9 (head1 (Jvm.Cond.code own_y9 jdk_33_method_22_code 1 (some (.object "java/lang/Integer")) :: ws) ({ frames := 0, cells := 0, slots := 0, locals := 0 } : Room)) (fun a_ U_ => a_ = #[(.int i)] ∧ Z.Warmed39 U_.vm ∧ U_.heap = h0) (fun _ _ _ _ _ => True) (fun _ U_ o_ U2_ => ∃ v_ L_, o_ = .returned v_ ∧ Q_rmVO Z i ca bxc h0 n0 v_ U2_.heap L_ ∧ FrameEnd U_ o_ U2_ L_ ({ frames := 0, cells := 0, slots := 0, locals := 0 } : Room).cells ({ frames := 0, cells := 0, slots := 0, locals := 0 } : Room).slots) := by
  refine MetFree.of_bodySF (plainFor_of_name pn_4) hisR ?_
  intro p e s m args below meth c s₁ Bd hml0 hP hK
  obtain ⟨rfl, hZ, hh⟩ := hP
  have hx := Bd.exec
  have hby := Bd.bytes
  have hml : c.maxLocals = 1 := hml0
  have hown : s.vm.findClass "java/lang/Integer" = some m.cls := findClass_of_methodNamed Bd.named
  have hnm := (name_of_methodNamed Bd.named Bd.method).1
  have X0 : Stand p l e ({ frames := 0, cells := 0, slots := 0, locals := 0 } : Room) s m #[(.int i)] below meth c s₁ [] 0 0 := Stand.of_body Bd
  have e0 : s₁.heap = h0 := by rw [← hh, Bd.state]; rfl
  have N0 := Fr.nil n0
  refine own_go (A := s₁.setTop (mkF m 0 #[.val (.int i)] [])) (fun t_ k_ => castTop (ef_rmVO m i) k_) ?_
  refine own_go (A := s₁.setTop (mkF m 7 #[.val (.int i)] [(.int i)])) (fun t_ k_ => ?_) ?_
  · show Steps p.tables e below (s₁.setTop (mkF m 0 #[.val (.int i)] [])) t_
    refine XS.iloadN X0.here hx rfl (hb hby d7_0) rfl ?_
    refine XS.bipush X0.here hx rfl (hb hby d7_1) ?_
    refine XS.icmpNo X0.here hx rfl (hb hby d7_3) rfl (flt hvl).1 ?_
    refine XS.iloadN X0.here hx rfl (hb hby d7_6) rfl ?_
    exact k_
  obtain ⟨T1, X1, e1, st1⟩ := getS2 X0 hx hZ hown (host := "") (Or.inl (own_w hw 53 rfl)) Via.refl e0 (u1.ext O0.2) (g := (mkF m 7 #[.val (.int i)] [(.int i)])) rfl (hb hby d7_7)
  refine own_go st1 ?_
  refine own_go (A := T1.setTop (mkF m 13 #[.val (.int i)] [])) (fun t_ k_ => ?_) ?_
  · show Steps p.tables e below (T1.setTop (mkF m 10 #[.val (.int i)] [(.int (127 : Int32)), (.int i)])) t_
    refine XS.icmpNo X1.here hx rfl (hb hby d7_10) rfl (flt hvh).2.2.1 ?_
    exact k_
  obtain ⟨T2, X2, e2, st2⟩ := getS2 X1 hx hZ hown (host := "") (Or.inl (own_w hw 55 rfl)) Via.refl e1 (u2.ext O0.2) (g := (mkF m 13 #[.val (.int i)] [])) rfl (hb hby d7_13)
  refine own_go st2 ?_
  refine own_go (A := T2.setTop (mkF m 21 #[.val (.int i)] [(.int (i + (128 : Int32))), (.ref ca)])) (fun t_ k_ => ?_) ?_
  · show Steps p.tables e below (T2.setTop (mkF m 16 #[.val (.int i)] [(.ref ca)])) t_
    refine XS.iloadN X2.here hx rfl (hb hby d7_16) rfl ?_
    refine XS.sipush X2.here hx rfl (hb hby d7_17) ?_
    refine XS.iadd X2.here hx rfl (hb hby d7_20) rfl ?_
    exact k_
  obtain ⟨Ar3, S3, M3⟩ := Bxs.ext hbx O0.2
  have hin3 : ¬ ((i + (128 : Int32)) < 0 ∨ bxc.slots.size ≤ ((i + (128 : Int32))).toNatClampNeg) := inb_of S3 (own_ci hvl hvh)
  obtain ⟨rr3, hat3, hE3, hF3⟩ := hbx.2.2.2 _ hin3
  have hG3 : Fld Z Z.heap rr3 "java/lang/Integer" "value" "I" (.int i) := by have q := hF3; rw [own_bval, own_cj] at q; exact q
  refine own_go (A := T2.setTop (mkF m 22 #[.val (.int i)] [(.ref rr3)])) (fun t_ k_ => ?_) ?_
  · show Steps p.tables e below (T2.setTop (mkF m 21 #[.val (.int i)] [(.int (i + (128 : Int32))), (.ref ca)])) t_
    refine X2.aaload hx (j := (i + (128 : Int32))) (v := (.ref rr3)) (by rw [e2]; exact Ar3.1) (State.isArrayOf_alike hZ.alike Ar3.2.1) rfl Ar3.2.2 hin3 hat3 (g := (mkF m 21 #[.val (.int i)] [(.int (i + (128 : Int32))), (.ref ca)])) rfl rfl (hb hby d7_21) _ ?_
    exact k_
  obtain ⟨fs4, hr4, hrun4, hended4, hW4, hsame4⟩ := X2.leave (v := some (.ref rr3)) (fun h => by rw [Bd.returns] at h; cases h)
  refine ⟨_, _, ?_, hrun4, hended4, _, _, rfl, ?_, ⟨_, rfl⟩, hW4, hsame4.mono (by decide) (by decide)⟩
  · exact own_retA X2 hx Bd.returns rfl rfl rfl (hb hby d7_22) hr4
  · show Q_rmVO Z i ca bxc h0 n0 _ T2.heap _
    rw [e2]
    exact ⟨rr3, rfl, N0, (Keep.refl h0 []), hE3, hG3⟩
theorem d14_0 : decode jdk_40_method_36_code 0 = .ok (.getstatic 90, 3) := by decide +kernel
theorem d14_3 : decode jdk_40_method_36_code 3 = .ok (.areturn, 1) := by decide +kernel
abbrev own_y10 : MethodName := ⟨"java/util/List", "of", "()Ljava/util/List;"⟩
theorem ef_rmLof (m : MethodId)  : entryFrame m #[] 0 = mkF m 0 #[] [] := by first | (simp [entryFrame, mkF, argsToLocals, Value.category]; done) | rfl
def Q_rmLof (Z : State) (el : Addr) (h0 : Heap) (n0 : Nat) (v_ : Option Value) (h_ : Heap) (L_ : List Loc) : Prop := v_ = some (.ref el) ∧ Fr n0 L_ ∧ h_ = h0
theorem pn_5 : plainName "java/util/List" = true := by first | (simp [plainName, overriddenIn]; done) | decide +kernel
set_option maxRecDepth 65536 in
set_option maxHeartbeats 40000000 in
theorem rmLof (l : Launch) (Z : State) (a0 : Array Value) (hw : ∀ d ∈ tables_1, d.before a0 Z = true) (ws : List Jvm.Cond) (el : Addr) (h0 : Heap) (n0 : Nat) (Z0 : n0 ≤ h0.size) (O0 : Old Z n0 h0) (u1 : Sta Z Z.heap "java/util/ImmutableCollections" "EMPTY_LIST" "Ljava/util/ImmutableCollections$ListN;" (.ref el)) :
    MetFree l own_y10 (head1 (Jvm.Cond.code own_y10 jdk_40_method_36_code 0 (some (.object "java/util/List")) :: ws) ({ frames := 0, cells := 0, slots := 0, locals := 0 } : Room)) (fun a_ U_ => a_ = #[] ∧ Z.Warmed39 U_.vm ∧ U_.heap = h0) (fun _ _ _ _ _ => True) (fun _ U_ o_ U2_ => ∃ v_ L_, o_ = .returned v_ ∧ Q_rmLof Z el h0 n0 v_ U2_.heap L_ ∧ FrameEnd U_ o_ U2_ L_ ({ frames := 0, cells := 0, slots := 0, locals := 0 } : Room).cells ({ frames := 0, cells := 0, slots := 0, locals := 0 } : Room).slots) := by
  refine MetFree.of_bodySF (plainFor_of_name pn_5) hisR ?_
  intro p e s m args below meth c s₁ Bd hml0 hP hK
  obtain ⟨rfl, hZ, hh⟩ := hP
  have hx := Bd.exec
  have hby := Bd.bytes
  have hml : c.maxLocals = 0 := hml0
  have hown : s.vm.findClass "java/util/List" = some m.cls := findClass_of_methodNamed Bd.named
  have hnm := (name_of_methodNamed Bd.named Bd.method).1
  have X0 : Stand p l e ({ frames := 0, cells := 0, slots := 0, locals := 0 } : Room) s m #[] below meth c s₁ [] 0 0 := Stand.of_body Bd
  have e0 : s₁.heap = h0 := by rw [← hh, Bd.state]; rfl
  have N0 := Fr.nil n0
  refine own_go (A := s₁.setTop (mkF m 0 #[] [])) (fun t_ k_ => castTop (ef_rmLof m ) k_) ?_
  obtain ⟨T1, X1, e1, st1⟩ := getS2 X0 hx hZ hown (host := "") (Or.inl (own_w hw 101 rfl)) Via.refl e0 (u1.ext O0.2) (g := (mkF m 0 #[] [])) rfl (hb hby d14_0)
  refine own_go st1 ?_
  obtain ⟨fs2, hr2, hrun2, hended2, hW2, hsame2⟩ := X1.leave (v := some (.ref el)) (fun h => by rw [Bd.returns] at h; cases h)
  refine ⟨_, _, ?_, hrun2, hended2, _, _, rfl, ?_, ⟨_, rfl⟩, hW2, hsame2.mono (by decide) (by decide)⟩
  · exact own_retA X1 hx Bd.returns rfl rfl rfl (hb hby d14_3) hr2
  · show Q_rmLof Z el h0 n0 _ T1.heap _
    rw [e1]
    exact ⟨rfl, N0, rfl⟩
theorem d15_0 : decode prog_57_method_2_code 0 = .ok (.aload_n 0, 1) := by decide +kernel
theorem d15_1 : decode prog_57_method_2_code 1 = .ok (.invokespecial 13, 3) := by decide +kernel
theorem d15_4 : decode prog_57_method_2_code 4 = .ok (.aload_n 0, 1) := by decide +kernel
theorem d15_5 : decode prog_57_method_2_code 5 = .ok (.iload_n 1, 1) := by decide +kernel
theorem d15_6 : decode prog_57_method_2_code 6 = .ok (.putfield 18, 3) := by decide +kernel
theorem d15_9 : decode prog_57_method_2_code 9 = .ok (.aload_n 0, 1) := by decide +kernel
theorem d15_10 : decode prog_57_method_2_code 10 = .ok (.aload_n 2, 1) := by decide +kernel
theorem d15_11 : decode prog_57_method_2_code 11 = .ok (.putfield 22, 3) := by decide +kernel
theorem d15_14 : decode prog_57_method_2_code 14 = .ok (.return_, 1) := by decide +kernel
abbrev own_y11 : MethodName := ⟨"com/example/kneiphof/kneiphof/Partitioning", "<init>", "(ILjava/util/List;)V"⟩
theorem ef_rmPt2 (m : MethodId) (a : Addr) (n : Int32) (ll : Addr) : entryFrame m #[(.ref a), (.int n), (.ref ll)] 3 = mkF m 0 #[.val (.ref a), .val (.int n), .val (.ref ll)] [] := by first | (simp [entryFrame, mkF, argsToLocals, Value.category]; done) | rfl
def Q_rmPt2 (Z : State) (a : Addr) (n : Int32) (ll : Addr) (h0 : Heap) (n0 : Nat) (v_ : Option Value) (h_ : Heap) (L_ : List Loc) : Prop := v_ = none ∧ Fr n0 L_ ∧ Keep h0 h_ [a]
theorem pn_6 : plainName "com/example/kneiphof/kneiphof/Partitioning" = true := by first | (simp [plainName, overriddenIn]; done) | decide +kernel
set_option maxRecDepth 65536 in
set_option maxHeartbeats 40000000 in
theorem rmPt2 (l : Launch) (Z : State) (a0 : Array Value) (hw : ∀ d ∈ tables_1, d.before a0 Z = true) (ws : List Jvm.Cond) (a : Addr) (n : Int32) (ll : Addr) (h0 : Heap) (n0 : Nat) (Z0 : n0 ≤ h0.size) (u0 : Exa Z h0 a "com/example/kneiphof/kneiphof/Partitioning") (u1 : Fld Z h0 a "com/example/kneiphof/kneiphof/Partitioning" "partitions" "I" (.int (0 : Int32))) (u2 : Fld Z h0 a "com/example/kneiphof/kneiphof/Partitioning" "spreads" "Ljava/util/List;" .null) (u3 : n0 ≤ a) :
    MetFree l own_y11 (head1 (Jvm.Cond.code own_y11 prog_57_method_2_code 3 none :: ws) ({ frames := 1, cells := 0, slots := 0, locals := 12 } : Room)) (fun a_ U_ => a_ = #[(.ref a), (.int n), (.ref ll)] ∧ Z.Warmed39 U_.vm ∧ U_.heap = h0) (fun _ _ _ _ _ => True) (fun _ U_ o_ U2_ => ∃ v_ L_, o_ = .returned v_ ∧ Q_rmPt2 Z a n ll h0 n0 v_ U2_.heap L_ ∧ FrameEnd U_ o_ U2_ L_ ({ frames := 1, cells := 0, slots := 0, locals := 12 } : Room).cells ({ frames := 1, cells := 0, slots := 0, locals := 12 } : Room).slots) := by
  refine MetFree.of_bodySF (plainFor_of_name pn_6) hisR ?_
  intro p e s m args below meth c s₁ Bd hml0 hP hK
  obtain ⟨rfl, hZ, hh⟩ := hP
  have hx := Bd.exec
  have hby := Bd.bytes
  have hml : c.maxLocals = 3 := hml0
  have hown : s.vm.findClass "com/example/kneiphof/kneiphof/Partitioning" = some m.cls := findClass_of_methodNamed Bd.named
  have hnm := (name_of_methodNamed Bd.named Bd.method).1
  have X0 : Stand p l e ({ frames := 1, cells := 0, slots := 0, locals := 12 } : Room) s m #[(.ref a), (.int n), (.ref ll)] below meth c s₁ [] 0 0 := Stand.of_body Bd
  have e0 : s₁.heap = h0 := by rw [← hh, Bd.state]; rfl
  have N0 := Fr.nil n0
  refine own_go (A := s₁.setTop (mkF m 0 #[.val (.ref a), .val (.int n), .val (.ref ll)] [])) (fun t_ k_ => castTop (ef_rmPt2 m a n ll) k_) ?_
  refine own_go (A := s₁.setTop (mkF m 1 #[.val (.ref a), .val (.int n), .val (.ref ll)] [(.ref a)])) (fun t_ k_ => ?_) ?_
  · show Steps p.tables e below (s₁.setTop (mkF m 0 #[.val (.ref a), .val (.int n), .val (.ref ll)] [])) t_
    refine XS.aloadN X0.here hx rfl (hb hby d15_0) rfl rfl ?_
    exact k_
  obtain ⟨T1, X1, e1, st1⟩ := initO X0 hx hZ hown (own_w hw 106 rfl) (own_w hw 8 rfl) (own_w hw 9 rfl) e0 (g := (mkF m 1 #[.val (.ref a), .val (.int n), .val (.ref ll)] [(.ref a)])) rfl (by rw [hml]; rfl) rfl (hb hby d15_1) (by decide) (W := 0) (by show 2 * 0 + _ ≤ _; exact Nat.le_of_eq rfl) (by decide)
  refine own_go st1 ?_
  refine own_go (A := T1.setTop (mkF m 6 #[.val (.ref a), .val (.int n), .val (.ref ll)] [(.int n), (.ref a)])) (fun t_ k_ => ?_) ?_
  · show Steps p.tables e below (T1.setTop (mkF m 4 #[.val (.ref a), .val (.int n), .val (.ref ll)] [])) t_
    refine XS.aloadN X1.here hx rfl (hb hby d15_4) rfl rfl ?_
    refine XS.iloadN X1.here hx rfl (hb hby d15_5) rfl ?_
    exact k_
  obtain ⟨T2, h2, X2, e2, W2, st2⟩ := putF X1 hx hZ hown (host := "") (Or.inl (own_w hw 107 rfl)) Via.refl e1 u1 u0 (Or.inr ⟨(own_w hw 108 rfl), rfl, hnm⟩) (own_w hw 92 rfl) (ty := .int) (by decide) rfl rfl (g := (mkF m 6 #[.val (.ref a), .val (.int n), .val (.ref ll)] [(.int n), (.ref a)])) rfl rfl (hb hby d15_6)
  have Fw2 : Fld Z h2 a "com/example/kneiphof/kneiphof/Partitioning" "partitions" "I" (.int n) := u1.same W2
  refine own_go st2 ?_
  have K2 : Keep h0 h2 [a] := (Keep.refl h0 [a]).wr W2 (Or.inl (List.mem_of_getElem? (i := 0) rfl))
  have N2 := Fr.snoc X2 N0 u3
  refine own_go (A := T2.setTop (mkF m 11 #[.val (.ref a), .val (.int n), .val (.ref ll)] [(.ref ll), (.ref a)])) (fun t_ k_ => ?_) ?_
  · show Steps p.tables e below (T2.setTop (mkF m 9 #[.val (.ref a), .val (.int n), .val (.ref ll)] [])) t_
    refine XS.aloadN X2.here hx rfl (hb hby d15_9) rfl rfl ?_
    refine XS.aloadN X2.here hx rfl (hb hby d15_10) rfl rfl ?_
    exact k_
  obtain ⟨T3, h3, X3, e3, W3, st3⟩ := putF X2 hx hZ hown (host := "") (Or.inl (own_w hw 109 rfl)) Via.refl e2 (u2.other W2 (Or.inr (slot_ne (Or.inr (own_w hw 110 rfl)) (Or.inr (own_w hw 108 rfl)) (by decide) (t := (.object "java/util/List")) (t' := .int) (by decide) (by decide)))) (u0.wr W2) (Or.inr ⟨(own_w hw 110 rfl), rfl, hnm⟩) (own_w hw 92 rfl) (ty := (.object "java/util/List")) (by decide) rfl rfl (g := (mkF m 11 #[.val (.ref a), .val (.int n), .val (.ref ll)] [(.ref ll), (.ref a)])) rfl rfl (hb hby d15_11)
  have Fw3 : Fld Z h3 a "com/example/kneiphof/kneiphof/Partitioning" "spreads" "Ljava/util/List;" (.ref ll) := (u2.other W2 (Or.inr (slot_ne (Or.inr (own_w hw 110 rfl)) (Or.inr (own_w hw 108 rfl)) (by decide) (t := (.object "java/util/List")) (t' := .int) (by decide) (by decide)))).same W3
  refine own_go st3 ?_
  have K3 : Keep h0 h3 [a] := K2.wr W3 (Or.inl (List.mem_of_getElem? (i := 0) rfl))
  have N3 := Fr.snoc X3 N2 u3
  obtain ⟨fs4, hr4, hrun4, hended4, hW4, hsame4⟩ := X3.leave (v := none) (fun _ => rfl)
  refine ⟨_, _, ?_, hrun4, hended4, _, _, rfl, ?_, ⟨_, rfl⟩, hW4, hsame4.mono (by decide) (by decide)⟩
  · exact X3.returnOut hx Bd.returns (hb hby d15_14) hr4
  · show Q_rmPt2 Z a n ll h0 n0 _ T3.heap _
    rw [e3]
    exact ⟨rfl, N3, K3⟩
theorem d13_0 : decode prog_57_method_1_code 0 = .ok (.aload_n 0, 1) := by decide +kernel
theorem d13_1 : decode prog_57_method_1_code 1 = .ok (.iload_n 1, 1) := by decide +kernel
theorem pd_5 : parseMethodDescriptor "()Ljava/util/List;" = some ⟨[], some (.object "java/util/List")⟩ := by decide +kernel
theorem d13_2 : decode prog_57_method_1_code 2 = .ok (.invokestatic 1, 3) := by decide +kernel
theorem pd_6 : parseMethodDescriptor "(ILjava/util/List;)V" = some ⟨[.int, (.object "java/util/List")], none⟩ := by decide +kernel
theorem d13_5 : decode prog_57_method_1_code 5 = .ok (.invokespecial 7, 3) := by decide +kernel
theorem d13_8 : decode prog_57_method_1_code 8 = .ok (.return_, 1) := by decide +kernel
abbrev own_y12 : MethodName := ⟨"com/example/kneiphof/kneiphof/Partitioning", "<init>", "(I)V"⟩
theorem ef_rmPt1 (m : MethodId) (a : Addr) (n : Int32) : entryFrame m #[(.ref a), (.int n)] 2 = mkF m 0 #[.val (.ref a), .val (.int n)] [] := by first | (simp [entryFrame, mkF, argsToLocals, Value.category]; done) | rfl
def Q_rmPt1 (Z : State) (a : Addr) (n : Int32) (el : Addr) (h0 : Heap) (n0 : Nat) (v_ : Option Value) (h_ : Heap) (L_ : List Loc) : Prop := v_ = none ∧ Fr n0 L_ ∧ Keep h0 h_ [a]
set_option maxRecDepth 65536 in
set_option maxHeartbeats 40000000 in
theorem rmPt1 (l : Launch) (Z : State) (a0 : Array Value) (hw : ∀ d ∈ tables_1, d.before a0 Z = true) (ws : List Jvm.Cond) (a : Addr) (n : Int32) (el : Addr) (h0 : Heap) (n0 : Nat) (Z0 : n0 ≤ h0.size) (O0 : Old Z n0 h0) (u1 : Sta Z Z.heap "java/util/ImmutableCollections" "EMPTY_LIST" "Ljava/util/ImmutableCollections$ListN;" (.ref el)) (u2 : Exa Z h0 a "com/example/kneiphof/kneiphof/Partitioning") (u3 : Fld Z h0 a "com/example/kneiphof/kneiphof/Partitioning" "partitions" "I" (.int (0 : Int32))) (u4 : Fld Z h0 a "com/example/kneiphof/kneiphof/Partitioning" "spreads" "Ljava/util/List;" .null) (u5 : n0 ≤ a) :
    MetFree l own_y12 (head1 (Jvm.Cond.code own_y12 prog_57_method_1_code 2 none :: ws) ({ frames := 2, cells := 0, slots := 0, locals := 26 } : Room)) (fun a_ U_ => a_ = #[(.ref a), (.int n)] ∧ Z.Warmed39 U_.vm ∧ U_.heap = h0) (fun _ _ _ _ _ => True) (fun _ U_ o_ U2_ => ∃ v_ L_, o_ = .returned v_ ∧ Q_rmPt1 Z a n el h0 n0 v_ U2_.heap L_ ∧ FrameEnd U_ o_ U2_ L_ ({ frames := 2, cells := 0, slots := 0, locals := 26 } : Room).cells ({ frames := 2, cells := 0, slots := 0, locals := 26 } : Room).slots) := by
  refine MetFree.of_bodySF (plainFor_of_name pn_6) hisR ?_
  intro p e s m args below meth c s₁ Bd hml0 hP hK
  obtain ⟨rfl, hZ, hh⟩ := hP
  have hx := Bd.exec
  have hby := Bd.bytes
  have hml : c.maxLocals = 2 := hml0
  have hown : s.vm.findClass "com/example/kneiphof/kneiphof/Partitioning" = some m.cls := findClass_of_methodNamed Bd.named
  have hnm := (name_of_methodNamed Bd.named Bd.method).1
  have X0 : Stand p l e ({ frames := 2, cells := 0, slots := 0, locals := 26 } : Room) s m #[(.ref a), (.int n)] below meth c s₁ [] 0 0 := Stand.of_body Bd
  have e0 : s₁.heap = h0 := by rw [← hh, Bd.state]; rfl
  have N0 := Fr.nil n0
  refine own_go (A := s₁.setTop (mkF m 0 #[.val (.ref a), .val (.int n)] [])) (fun t_ k_ => castTop (ef_rmPt1 m a n) k_) ?_
  refine own_go (A := s₁.setTop (mkF m 2 #[.val (.ref a), .val (.int n)] [(.int n), (.ref a)])) (fun t_ k_ => ?_) ?_
  · show Steps p.tables e below (s₁.setTop (mkF m 0 #[.val (.ref a), .val (.int n)] [])) t_
    refine XS.aloadN X0.here hx rfl (hb hby d13_0) rfl rfl ?_
    refine XS.iloadN X0.here hx rfl (hb hby d13_1) rfl ?_
    exact k_
  obtain ⟨_, _, ⟨T1, L1, k1, n1⟩, -, X1, ⟨Lc1, hQ1, l1, y1, z1⟩, st1⟩ := Jvm.LawKit.callS X0 hx (y := own_y10) hown (mvT hZ (own_w hw 97 rfl)) (mvT hZ (own_w hw 98 rfl)) (mvT hZ (own_w hw 99 rfl)) (mvT hZ (own_w hw 100 rfl)) (by decide) (backOf (W := 2) (rmLof l Z a0 hw [] el h0 n0 Z0 O0 u1) hZ (own_w hw 100 rfl) (own_w hw 99 rfl) (by decide) (by decide)) (g := (mkF m 2 #[.val (.ref a), .val (.int n)] [(.int n), (.ref a)])) rfl (by rw [hml]; rfl) (argsL := []) (rest := [(.int n), (.ref a)]) (lenOf pd_5 rfl) rfl (by show 2 * 0 + _ ≤ _; exact Nat.le_of_eq rfl) (hb hby d13_2) (fun _ _ => ⟨rfl, e0, (by decide : 0 + 0 ≤ _), (by decide : 0 + 0 ≤ _)⟩)
  dsimp only [Pt.U, Pt.locs, Pt.cells, Pt.slots] at X1 l1 y1 z1 st1 hQ1
  subst l1 y1 z1
  obtain ⟨rfl, N1q, eh1⟩ := hQ1
  have N1 := Fr.app N0 N1q
  refine own_go st1 ?_
  obtain ⟨_, _, ⟨T2, L2, k2, n2⟩, -, X2, ⟨Lc2, hQ2, l2, y2, z2⟩, st2⟩ := X1.specialBack hx (y := own_y11) rfl hown (mvT hZ (own_w hw 103 rfl)) (mvT hZ (own_w hw 104 rfl)) (mvT hZ (own_w hw 105 rfl)) (by decide) (backOf (W := 0) (rmPt2 l Z a0 hw [] a n el h0 n0 Z0 u2 u3 u4 u5) hZ (own_w hw 105 rfl) (own_w hw 93 rfl) (by decide) (by decide)) (g := (mkF m 5 #[.val (.ref a), .val (.int n)] [(.ref el), (.int n), (.ref a)])) rfl (by rw [hml]; rfl) (Steps.refl _) (a := a) (argsL := [(.int n), (.ref el)]) (rest := []) (lenOf pd_6 rfl) rfl (by show 2 * 0 + _ ≤ _; exact Nat.le_of_eq rfl) (hb hby d13_5) (fun _ _ => ⟨rfl, eh1, (by decide : 0 + 0 ≤ _), (by decide : 0 + 0 ≤ _)⟩)
  dsimp only [Pt.U, Pt.locs, Pt.cells, Pt.slots] at X2 l2 y2 z2 st2 hQ2
  subst l2 y2 z2
  obtain ⟨rfl, N2q, Kc2⟩ := hQ2
  have N2 := Fr.app N1 N2q
  refine own_via st2 ?_
  have K2 : Keep h0 T2.heap [a] := (Keep.refl h0 [a]).trans Kc2 (allS (P := fun x => x ∈ _ ∨ _ ≤ x) (Or.inl (List.mem_of_getElem? (i := 0) rfl)) all0)
  have O2 := O0.keep Kc2 (allS (P := fun x => n0 ≤ x) u5 all0)
  obtain ⟨fs3, hr3, hrun3, hended3, hW3, hsame3⟩ := X2.leave (v := none) (fun _ => rfl)
  refine ⟨_, _, ?_, hrun3, hended3, _, _, rfl, ?_, ⟨_, rfl⟩, hW3, hsame3.mono (by decide) (by decide)⟩
  · exact X2.returnOut hx Bd.returns (hb hby d13_8) hr3
  · show Q_rmPt1 Z a n el h0 n0 _ T2.heap _
    exact ⟨rfl, N2, K2⟩
theorem own_ln {i n : Int32} {vs : List Value} (h0 : 0 ≤ i.toInt) (h : i < n) (hl : vs.length = n.toNatClampNeg) : i.toNatClampNeg < vs.length := by
  have h1 := Int32.lt_iff_toInt_lt.mp h
  have h2 := own_tn h0; have h3 := own_tn (x := n) (by omega); omega
theorem own_gne {vs : List Value} {k j : Nat} {v d : Value} (h : j ≠ k) : (vs.set k v).getD j d = vs.getD j d := by
  rw [List.getD_eq_getElem?_getD, List.getElem?_set, List.getD_eq_getElem?_getD, if_neg (fun q => h q.symm)]
theorem own_geq {vs : List Value} {k : Nat} {v d : Value} (h : k < vs.length) : (vs.set k v).getD k d = v := by
  rw [own_gs _ _ _ _ _ h, if_pos rfl]
theorem own_pset {vs : List Value} {i n : Int32} (h0 : 0 ≤ i.toInt) (h : i < n) (hl : vs.length = n.toNatClampNeg) (hp : own_pre vs i.toInt) : own_pre (vs.set i.toNatClampNeg (.int i)) (i + (1 : Int32)).toInt := by
  intro j hj
  rw [own_inc h0 h] at hj
  have ht := own_tn h0
  by_cases q : j = i.toNatClampNeg
  · subst q; exact ⟨i, own_geq (own_ln h0 h hl), ht⟩
  · rw [own_gne q]; exact hp j (by omega)
theorem own_eqp {vs : List Value} {a b : Int} (hp : own_pre vs a) (h : a = b) : own_pre vs b := h ▸ hp
theorem own_nr1 {n : Int32} (hn : 1 ≤ n.toInt ∧ n.toInt ≤ 4) : (n * (1 : Int32)).toInt = n.toInt * 1 := by
  have h1 := c_imul n 1; have h2 := rng32 (n * 1); rw [show ((1 : Int32).toInt) = 1 from rfl] at h1; omega
theorem own_ns1 {n : Int32} (hn : 1 ≤ n.toInt ∧ n.toInt ≤ 4) : ((n * (1 : Int32)) + (1 : Int32)).toInt = n.toInt * 1 + 1 := by
  have h0 := own_nr1 hn; have h1 := c_iadd (n * (1 : Int32)) 1; have h2 := rng32 ((n * (1 : Int32)) + 1); rw [show ((1 : Int32).toInt) = 1 from rfl] at h1; omega
theorem own_vi1_0 {n : Int32} (hn : 1 ≤ n.toInt ∧ n.toInt ≤ 4) : ((n * (1 : Int32)) + (0 : Int32)).toInt = n.toInt * 1 + 0 := by
  have h0 := own_nr1 hn; have h1 := c_iadd (n * (1 : Int32)) 0; have h2 := rng32 ((n * (1 : Int32)) + 0); rw [show ((0 : Int32).toInt) = 0 from rfl] at h1; omega
theorem own_nr2 {n : Int32} (hn : 1 ≤ n.toInt ∧ n.toInt ≤ 4) : (n * (2 : Int32)).toInt = n.toInt * 2 := by
  have h1 := c_imul n 2; have h2 := rng32 (n * 2); rw [show ((2 : Int32).toInt) = 2 from rfl] at h1; omega
theorem own_ns2 {n : Int32} (hn : 1 ≤ n.toInt ∧ n.toInt ≤ 4) : ((n * (2 : Int32)) + (2 : Int32)).toInt = n.toInt * 2 + 2 := by
  have h0 := own_nr2 hn; have h1 := c_iadd (n * (2 : Int32)) 2; have h2 := rng32 ((n * (2 : Int32)) + 2); rw [show ((2 : Int32).toInt) = 2 from rfl] at h1; omega
theorem own_vi2_0 {n : Int32} (hn : 1 ≤ n.toInt ∧ n.toInt ≤ 4) : ((n * (2 : Int32)) + (0 : Int32)).toInt = n.toInt * 2 + 0 := by
  have h0 := own_nr2 hn; have h1 := c_iadd (n * (2 : Int32)) 0; have h2 := rng32 ((n * (2 : Int32)) + 0); rw [show ((0 : Int32).toInt) = 0 from rfl] at h1; omega
theorem own_vi2_1 {n : Int32} (hn : 1 ≤ n.toInt ∧ n.toInt ≤ 4) : ((n * (2 : Int32)) + (1 : Int32)).toInt = n.toInt * 2 + 1 := by
  have h0 := own_nr2 hn; have h1 := c_iadd (n * (2 : Int32)) 1; have h2 := rng32 ((n * (2 : Int32)) + 1); rw [show ((1 : Int32).toInt) = 1 from rfl] at h1; omega
theorem own_nr3 {n : Int32} (hn : 1 ≤ n.toInt ∧ n.toInt ≤ 4) : (n * (3 : Int32)).toInt = n.toInt * 3 := by
  have h1 := c_imul n 3; have h2 := rng32 (n * 3); rw [show ((3 : Int32).toInt) = 3 from rfl] at h1; omega
theorem own_ns3 {n : Int32} (hn : 1 ≤ n.toInt ∧ n.toInt ≤ 4) : ((n * (3 : Int32)) + (3 : Int32)).toInt = n.toInt * 3 + 3 := by
  have h0 := own_nr3 hn; have h1 := c_iadd (n * (3 : Int32)) 3; have h2 := rng32 ((n * (3 : Int32)) + 3); rw [show ((3 : Int32).toInt) = 3 from rfl] at h1; omega
theorem own_vi3_0 {n : Int32} (hn : 1 ≤ n.toInt ∧ n.toInt ≤ 4) : ((n * (3 : Int32)) + (0 : Int32)).toInt = n.toInt * 3 + 0 := by
  have h0 := own_nr3 hn; have h1 := c_iadd (n * (3 : Int32)) 0; have h2 := rng32 ((n * (3 : Int32)) + 0); rw [show ((0 : Int32).toInt) = 0 from rfl] at h1; omega
theorem own_vi3_1 {n : Int32} (hn : 1 ≤ n.toInt ∧ n.toInt ≤ 4) : ((n * (3 : Int32)) + (1 : Int32)).toInt = n.toInt * 3 + 1 := by
  have h0 := own_nr3 hn; have h1 := c_iadd (n * (3 : Int32)) 1; have h2 := rng32 ((n * (3 : Int32)) + 1); rw [show ((1 : Int32).toInt) = 1 from rfl] at h1; omega
theorem own_vi3_2 {n : Int32} (hn : 1 ≤ n.toInt ∧ n.toInt ≤ 4) : ((n * (3 : Int32)) + (2 : Int32)).toInt = n.toInt * 3 + 2 := by
  have h0 := own_nr3 hn; have h1 := c_iadd (n * (3 : Int32)) 2; have h2 := rng32 ((n * (3 : Int32)) + 2); rw [show ((2 : Int32).toInt) = 2 from rfl] at h1; omega
theorem own_nr4 {n : Int32} (hn : 1 ≤ n.toInt ∧ n.toInt ≤ 4) : (n * (4 : Int32)).toInt = n.toInt * 4 := by
  have h1 := c_imul n 4; have h2 := rng32 (n * 4); rw [show ((4 : Int32).toInt) = 4 from rfl] at h1; omega
theorem own_ns4 {n : Int32} (hn : 1 ≤ n.toInt ∧ n.toInt ≤ 4) : ((n * (4 : Int32)) + (4 : Int32)).toInt = n.toInt * 4 + 4 := by
  have h0 := own_nr4 hn; have h1 := c_iadd (n * (4 : Int32)) 4; have h2 := rng32 ((n * (4 : Int32)) + 4); rw [show ((4 : Int32).toInt) = 4 from rfl] at h1; omega
theorem own_vi4_0 {n : Int32} (hn : 1 ≤ n.toInt ∧ n.toInt ≤ 4) : ((n * (4 : Int32)) + (0 : Int32)).toInt = n.toInt * 4 + 0 := by
  have h0 := own_nr4 hn; have h1 := c_iadd (n * (4 : Int32)) 0; have h2 := rng32 ((n * (4 : Int32)) + 0); rw [show ((0 : Int32).toInt) = 0 from rfl] at h1; omega
theorem own_vi4_1 {n : Int32} (hn : 1 ≤ n.toInt ∧ n.toInt ≤ 4) : ((n * (4 : Int32)) + (1 : Int32)).toInt = n.toInt * 4 + 1 := by
  have h0 := own_nr4 hn; have h1 := c_iadd (n * (4 : Int32)) 1; have h2 := rng32 ((n * (4 : Int32)) + 1); rw [show ((1 : Int32).toInt) = 1 from rfl] at h1; omega
theorem own_vi4_2 {n : Int32} (hn : 1 ≤ n.toInt ∧ n.toInt ≤ 4) : ((n * (4 : Int32)) + (2 : Int32)).toInt = n.toInt * 4 + 2 := by
  have h0 := own_nr4 hn; have h1 := c_iadd (n * (4 : Int32)) 2; have h2 := rng32 ((n * (4 : Int32)) + 2); rw [show ((2 : Int32).toInt) = 2 from rfl] at h1; omega
theorem own_vi4_3 {n : Int32} (hn : 1 ≤ n.toInt ∧ n.toInt ≤ 4) : ((n * (4 : Int32)) + (3 : Int32)).toInt = n.toInt * 4 + 3 := by
  have h0 := own_nr4 hn; have h1 := c_iadd (n * (4 : Int32)) 3; have h2 := rng32 ((n * (4 : Int32)) + 3); rw [show ((3 : Int32).toInt) = 3 from rfl] at h1; omega
theorem own_c1 {i : Int32} (h : 0 ≤ i.toInt ∧ i.toInt ≤ 127) : ¬ (i < (-128 : Int32)) := by rw [Int32.lt_iff_toInt_lt, show ((-128 : Int32).toInt) = -128 from rfl]; omega
theorem own_c2 {i : Int32} (h : 0 ≤ i.toInt ∧ i.toInt ≤ 127) : ¬ ((127 : Int32) < i) := by rw [Int32.lt_iff_toInt_lt, show ((127 : Int32).toInt) = 127 from rfl]; omega
theorem own_a0 {x : Int32} : x + (0 : Int32) = x := by apply Int32.toBitVec_inj.mp; simp
theorem d1_0 : decode prog_5_method_1_code 0 = .ok (.aload_n 0, 1) := by decide +kernel
theorem d1_1 : decode prog_5_method_1_code 1 = .ok (.invokespecial 1, 3) := by decide +kernel
theorem d1_4 : decode prog_5_method_1_code 4 = .ok (.aload_n 0, 1) := by decide +kernel
theorem d1_5 : decode prog_5_method_1_code 5 = .ok (.new 7, 3) := by decide +kernel
theorem d1_8 : decode prog_5_method_1_code 8 = .ok (.dup, 1) := by decide +kernel
theorem d1_9 : decode prog_5_method_1_code 9 = .ok (.invokespecial 9, 3) := by decide +kernel
theorem d1_12 : decode prog_5_method_1_code 12 = .ok (.putfield 10, 3) := by decide +kernel
theorem d1_15 : decode prog_5_method_1_code 15 = .ok (.aload_n 0, 1) := by decide +kernel
theorem d1_16 : decode prog_5_method_1_code 16 = .ok (.iload_n 1, 1) := by decide +kernel
theorem d1_17 : decode prog_5_method_1_code 17 = .ok (.putfield 16, 3) := by decide +kernel
theorem d1_20 : decode prog_5_method_1_code 20 = .ok (.aload_n 0, 1) := by decide +kernel
theorem d1_21 : decode prog_5_method_1_code 21 = .ok (.iload_n 2, 1) := by decide +kernel
theorem d1_22 : decode prog_5_method_1_code 22 = .ok (.putfield 20, 3) := by decide +kernel
theorem d1_25 : decode prog_5_method_1_code 25 = .ok (.aload_n 0, 1) := by decide +kernel
theorem d1_26 : decode prog_5_method_1_code 26 = .ok (.iload_n 1, 1) := by decide +kernel
theorem d1_27 : decode prog_5_method_1_code 27 = .ok (.iload_n 2, 1) := by decide +kernel
theorem d1_28 : decode prog_5_method_1_code 28 = .ok (.imul, 1) := by decide +kernel
theorem d1_29 : decode prog_5_method_1_code 29 = .ok (.newarray .int, 2) := by decide +kernel
theorem d1_31 : decode prog_5_method_1_code 31 = .ok (.putfield 23, 3) := by decide +kernel
theorem d1_34 : decode prog_5_method_1_code 34 = .ok (.aload_n 0, 1) := by decide +kernel
theorem d1_35 : decode prog_5_method_1_code 35 = .ok (.aload_n 0, 1) := by decide +kernel
theorem d1_36 : decode prog_5_method_1_code 36 = .ok (.getfield 23, 3) := by decide +kernel
theorem d1_39 : decode prog_5_method_1_code 39 = .ok (.arraylength, 1) := by decide +kernel
theorem d1_40 : decode prog_5_method_1_code 40 = .ok (.iload_n 3, 1) := by decide +kernel
theorem d1_41 : decode prog_5_method_1_code 41 = .ok (.iadd, 1) := by decide +kernel
theorem d1_42 : decode prog_5_method_1_code 42 = .ok (.newarray .int, 2) := by decide +kernel
theorem d1_44 : decode prog_5_method_1_code 44 = .ok (.putfield 27, 3) := by decide +kernel
theorem d1_47 : decode prog_5_method_1_code 47 = .ok (.aload_n 0, 1) := by decide +kernel
theorem d1_48 : decode prog_5_method_1_code 48 = .ok (.getfield 27, 3) := by decide +kernel
theorem d1_51 : decode prog_5_method_1_code 51 = .ok (.iconst (-1), 1) := by decide +kernel
theorem pd_7 : parseMethodDescriptor "([II)V" = some ⟨[(.array .int), .int], none⟩ := by decide +kernel
theorem d1_52 : decode prog_5_method_1_code 52 = .ok (.invokestatic 30, 3) := by decide +kernel
theorem d1_55 : decode prog_5_method_1_code 55 = .ok (.iconst 0, 1) := by decide +kernel
theorem d1_56 : decode prog_5_method_1_code 56 = .ok (.istore 4, 2) := by decide +kernel
def Q_rmIni1 (Z : State) (a : Addr) (n : Int32) (dc : Addr) (kd : ClassId) (ca : Addr) (bxc : Cell) (el : Addr) (h0 : Heap) (n0 : Nat) (v_ : Option Value) (h_ : Heap) (L_ : List Loc) : Prop := ∃ wk : Addr, ∃ kw : ClassId, ∃ sl : Addr, ∃ ks : ClassId, ∃ al : Addr, ∃ ed : Addr, ∃ kk : ClassId, ∃ mc : Int32, ∃ vw : List Value, ∃ vu : List Value, ∃ x0_ : Addr, v_ = none ∧ Fr n0 L_ ∧ Keep h0 h_ [a] ∧ h0.size ≤ wk ∧ h0.size ≤ sl ∧ h0.size ≤ al ∧ h0.size ≤ ed ∧ Fld Z h_ a "com/example/kneiphof/kneiphof/Assignment" "workers" "[I" (.ref wk) ∧ Fld Z h_ a "com/example/kneiphof/kneiphof/Assignment" "slots" "[I" (.ref sl) ∧ Fld Z h_ a "com/example/kneiphof/kneiphof/Assignment" "spares" "Ljava/util/List;" (.ref al) ∧ Fld Z h_ a "com/example/kneiphof/kneiphof/Assignment" "replicas" "I" (.int (1 : Int32)) ∧ Arv Z h_ wk kw .int (n * (1 : Int32)) vw (.int (0 : Int32)) ∧ Arv Z h_ sl ks .int ((n * (1 : Int32)) + (1 : Int32)) vu (.int (0 : Int32)) ∧ Exa Z h_ al "java/util/ArrayList" ∧ Fld Z h_ al "java/util/ArrayList" "elementData" "[Ljava/lang/Object;" (.ref ed) ∧ Fld Z h_ al "java/util/ArrayList" "size" "I" (.int (1 : Int32)) ∧ Fld Z h_ al "java/util/AbstractList" "modCount" "I" (.int mc) ∧ Arv Z h_ ed kk (.object "java/lang/Object") (10 : Int32) [(.ref x0_), .null, .null, .null, .null, .null, .null, .null, .null, .null] .null ∧ Ovr Z kk "java/lang/Object" ∧ wk ≠ sl ∧ wk ≠ al ∧ wk ≠ ed ∧ sl ≠ al ∧ sl ≠ ed ∧ al ≠ ed ∧ Exa Z Z.heap x0_ "java/lang/Integer" ∧ Fld Z Z.heap x0_ "java/lang/Integer" "value" "I" (.int (n * (1 : Int32))) ∧ (vw.length = ((n * (1 : Int32))).toNatClampNeg) ∧ (vu.length = (((n * (1 : Int32)) + (1 : Int32))).toNatClampNeg) ∧ (own_pre vw ((n * (1 : Int32))).toInt) ∧ (Z.vm.findClass "[I" = some kw)
theorem d1_58 : decode prog_5_method_1_code 58 = .ok (.iload 4, 2) := by decide +kernel
theorem d1_60 : decode prog_5_method_1_code 60 = .ok (.aload_n 0, 1) := by decide +kernel
theorem d1_61 : decode prog_5_method_1_code 61 = .ok (.getfield 23, 3) := by decide +kernel
theorem d1_64 : decode prog_5_method_1_code 64 = .ok (.arraylength, 1) := by decide +kernel
theorem d1_65 : decode prog_5_method_1_code 65 = .ok (.if_icmp .ge 27, 3) := by decide +kernel
theorem d1_92 : decode prog_5_method_1_code 92 = .ok (.iconst 0, 1) := by decide +kernel
theorem d1_93 : decode prog_5_method_1_code 93 = .ok (.istore 4, 2) := by decide +kernel
theorem d1_95 : decode prog_5_method_1_code 95 = .ok (.iload 4, 2) := by decide +kernel
theorem d1_97 : decode prog_5_method_1_code 97 = .ok (.iload_n 3, 1) := by decide +kernel
theorem d1_98 : decode prog_5_method_1_code 98 = .ok (.if_icmp .ge 30, 3) := by decide +kernel
theorem d1_101 : decode prog_5_method_1_code 101 = .ok (.aload_n 0, 1) := by decide +kernel
theorem d1_102 : decode prog_5_method_1_code 102 = .ok (.getfield 10, 3) := by decide +kernel
theorem d1_105 : decode prog_5_method_1_code 105 = .ok (.aload_n 0, 1) := by decide +kernel
theorem d1_106 : decode prog_5_method_1_code 106 = .ok (.getfield 23, 3) := by decide +kernel
theorem d1_109 : decode prog_5_method_1_code 109 = .ok (.arraylength, 1) := by decide +kernel
theorem d1_110 : decode prog_5_method_1_code 110 = .ok (.iload 4, 2) := by decide +kernel
theorem d1_112 : decode prog_5_method_1_code 112 = .ok (.iadd, 1) := by decide +kernel
theorem pd_8 : parseMethodDescriptor "(I)Ljava/lang/Integer;" = some ⟨[.int], some (.object "java/lang/Integer")⟩ := by decide +kernel
theorem d1_113 : decode prog_5_method_1_code 113 = .ok (.invokestatic 36, 3) := by decide +kernel
theorem pd_9 : parseMethodDescriptor "(Ljava/lang/Object;)Z" = some ⟨[(.object "java/lang/Object")], some .boolean⟩ := by decide +kernel
theorem d1_116 : decode prog_5_method_1_code 116 = .ok (.invokeinterface 42 2, 5) := by decide +kernel
abbrev own_y13 : MethodName := ⟨"java/util/List", "add", "(Ljava/lang/Object;)Z"⟩
theorem d1_121 : decode prog_5_method_1_code 121 = .ok (.pop, 1) := by decide +kernel
theorem d1_122 : decode prog_5_method_1_code 122 = .ok (.iinc 4 1, 3) := by decide +kernel
theorem d1_125 : decode prog_5_method_1_code 125 = .ok (.goto (-30), 3) := by decide +kernel
theorem d1_128 : decode prog_5_method_1_code 128 = .ok (.aload_n 0, 1) := by decide +kernel
theorem d1_129 : decode prog_5_method_1_code 129 = .ok (.new 48, 3) := by decide +kernel
theorem d1_132 : decode prog_5_method_1_code 132 = .ok (.dup, 1) := by decide +kernel
theorem d1_133 : decode prog_5_method_1_code 133 = .ok (.iload_n 1, 1) := by decide +kernel
theorem pd_10 : parseMethodDescriptor "(I)V" = some ⟨[.int], none⟩ := by decide +kernel
theorem d1_134 : decode prog_5_method_1_code 134 = .ok (.invokespecial 50, 3) := by decide +kernel
theorem d1_137 : decode prog_5_method_1_code 137 = .ok (.putfield 53, 3) := by decide +kernel
theorem d1_140 : decode prog_5_method_1_code 140 = .ok (.return_, 1) := by decide +kernel
theorem d1_68 : decode prog_5_method_1_code 68 = .ok (.aload_n 0, 1) := by decide +kernel
theorem d1_69 : decode prog_5_method_1_code 69 = .ok (.getfield 23, 3) := by decide +kernel
theorem d1_72 : decode prog_5_method_1_code 72 = .ok (.iload 4, 2) := by decide +kernel
theorem d1_74 : decode prog_5_method_1_code 74 = .ok (.iload 4, 2) := by decide +kernel
theorem d1_76 : decode prog_5_method_1_code 76 = .ok (.iastore, 1) := by decide +kernel
theorem d1_77 : decode prog_5_method_1_code 77 = .ok (.aload_n 0, 1) := by decide +kernel
theorem d1_78 : decode prog_5_method_1_code 78 = .ok (.getfield 27, 3) := by decide +kernel
theorem d1_81 : decode prog_5_method_1_code 81 = .ok (.iload 4, 2) := by decide +kernel
theorem d1_83 : decode prog_5_method_1_code 83 = .ok (.iload 4, 2) := by decide +kernel
theorem d1_85 : decode prog_5_method_1_code 85 = .ok (.iastore, 1) := by decide +kernel
theorem d1_86 : decode prog_5_method_1_code 86 = .ok (.iinc 4 1, 3) := by decide +kernel
theorem d1_89 : decode prog_5_method_1_code 89 = .ok (.goto (-31), 3) := by decide +kernel
set_option maxRecDepth 65536 in
set_option maxHeartbeats 40000000 in
theorem own_ini1 (l : Launch) (Z : State) (a0 : Array Value) (hw : ∀ d ∈ tables_1, d.before a0 Z = true) (a : Addr) (n : Int32) (dc : Addr) (kd : ClassId) (ca : Addr) (bxc : Cell) (el : Addr) (b2 : Addr) (b7 : Addr) (b11 : Addr) (k7 : ClassId) (k11 : ClassId) (h0 : Heap) (n0 : Nat) (Z0 : n0 ≤ h0.size) {p : Program} {e : Env} {s : State} {m : MethodId} {below : List Frame} {meth : Method} {c : Code} (hx : p.tables.exec = Jvm.exec) (hZ : Z.Warmed39 s.vm) (hby : c.code = prog_5_method_1_code) (hml : c.maxLocals = 5) (hown : s.vm.findClass "com/example/kneiphof/kneiphof/Assignment" = some m.cls) (hret : meth.sig.returnType = none) (hlk : meth.locks = false) (hh : s.heap = h0) (k_ : Nat) :
    ∀ (Tc : State) (Hc : Heap) (locsc : List Loc) (i : Int32) (vw : List Value) (vu : List Value) (Xc : Stand p l e ({ frames := 5, cells := 5, slots := 51, locals := 69 } : Room) s m #[(.ref a), (.int n), (.int (1 : Int32)), (.int (1 : Int32))] below meth c Tc locsc 3 39) (ec : Tc.heap = Hc) (Nc : Fr n0 locsc) (Kc0 : Keep h0 Hc [a]) (Oc : Old Z n0 Hc) (zc0 : Sta Z Z.heap "java/util/ArrayList" "DEFAULTCAPACITY_EMPTY_ELEMENTDATA" "[Ljava/lang/Object;" (.ref dc)) (zc1 : Arv Z Z.heap dc kd (.object "java/lang/Object") (0 : Int32) [] .null) (zc2 : Sta Z Z.heap "java/lang/Integer$IntegerCache" "high" "I" (.int (127 : Int32))) (zc3 : Sta Z Z.heap "java/lang/Integer$IntegerCache" "cache" "[Ljava/lang/Integer;" (.ref ca)) (zc4 : Sta Z Z.heap "java/util/ImmutableCollections" "EMPTY_LIST" "Ljava/util/ImmutableCollections$ListN;" (.ref el)) (zc5 : Exa Z Hc a "com/example/kneiphof/kneiphof/Assignment") (zc6 : Fld Z Hc a "com/example/kneiphof/kneiphof/Assignment" "spares" "Ljava/util/List;" (.ref b2)) (zc7 : Fld Z Hc a "com/example/kneiphof/kneiphof/Assignment" "partitions" "I" (.int n)) (zc8 : Fld Z Hc a "com/example/kneiphof/kneiphof/Assignment" "replicas" "I" (.int (1 : Int32))) (zc9 : Fld Z Hc a "com/example/kneiphof/kneiphof/Assignment" "workers" "[I" (.ref b7)) (zc10 : Fld Z Hc a "com/example/kneiphof/kneiphof/Assignment" "slots" "[I" (.ref b11)) (zc11 : Fld Z Hc a "com/example/kneiphof/kneiphof/Assignment" "partitioning" "Lcom/example/kneiphof/kneiphof/Partitioning;" .null) (zc12 : Exa Z Hc b2 "java/util/ArrayList") (zc13 : Fld Z Hc b2 "java/util/ArrayList" "elementData" "[Ljava/lang/Object;" (.ref dc)) (zc14 : Fld Z Hc b2 "java/util/ArrayList" "size" "I" (.int (0 : Int32))) (zc15 : Fld Z Hc b2 "java/util/AbstractList" "modCount" "I" (.int (0 : Int32))) (zc16 : Arv Z Hc b7 k7 .int (n * (1 : Int32)) vw (.int (0 : Int32))) (zc17 : Arv Z Hc b11 k11 .int ((n * (1 : Int32)) + (1 : Int32)) vu (.int (0 : Int32))) (gc18 : n0 ≤ a) (gc19 : n0 ≤ b7) (sc20 : h0.size ≤ b7) (gc21 : n0 ≤ b11) (sc22 : h0.size ≤ b11) (gc23 : n0 ≤ b2) (sc24 : h0.size ≤ b2) (nc25 : b7 ≠ b11) (nc26 : a ≠ b7) (nc27 : a ≠ b11) (nc28 : b2 ≠ b7) (nc29 : b2 ≠ b11) (nc30 : a ≠ b2) (hbx : Bxs Z ca bxc "java/lang/Integer" "I" (256 : Int32) own_bval) (hn : 1 ≤ n.toInt ∧ n.toInt ≤ 4) (hfc : Z.vm.findClass "[I" = some k7) (hms : i.toInt + (k_ : Int) = ((n * (1 : Int32))).toInt) (hi0 : 0 ≤ i.toInt) (hvw : vw.length = ((n * (1 : Int32))).toNatClampNeg) (hvu : vu.length = (((n * (1 : Int32)) + (1 : Int32))).toNatClampNeg) (hpr : own_pre vw i.toInt),
    ∃ U_ o_, Steps p.tables e below (Tc.setTop (mkF m 58 #[.val (.ref a), .val (.int n), .val (.int (1 : Int32)), .val (.int (1 : Int32)), .val (.int i)] [])) U_ ∧ U_.status = .running ∧ Ended U_ below o_ ∧ (∃ v_ L_, o_ = .returned v_ ∧ Q_rmIni1 Z a n dc kd ca bxc el h0 n0 v_ U_.heap L_ ∧ FrameEnd s o_ U_ L_ ({ frames := 5, cells := 5, slots := 51, locals := 69 } : Room).cells ({ frames := 5, cells := 5, slots := 51, locals := 69 } : Room).slots) := by
  induction k_ with
  | zero =>
    intro Tc Hc locsc i vw vu Xc ec Nc Kc0 Oc zc0 zc1 zc2 zc3 zc4 zc5 zc6 zc7 zc8 zc9 zc10 zc11 zc12 zc13 zc14 zc15 zc16 zc17 gc18 gc19 sc20 gc21 sc22 gc23 sc24 nc25 nc26 nc27 nc28 nc29 nc30 hbx hn hfc hms hi0 hvw hvu hpr
    have hge : ¬ (i < (n * (1 : Int32))) := by rw [Int32.lt_iff_toInt_lt]; omega
    refine own_go (A := Tc.setTop (mkF m 61 #[.val (.ref a), .val (.int n), .val (.int (1 : Int32)), .val (.int (1 : Int32)), .val (.int i)] [(.ref a), (.int i)])) (fun t_ k_ => ?_) ?_
    · show Steps p.tables e below (Tc.setTop (mkF m 58 #[.val (.ref a), .val (.int n), .val (.int (1 : Int32)), .val (.int (1 : Int32)), .val (.int i)] [])) t_
      refine XS.iload Xc.here hx rfl (hb hby d1_58) rfl ?_
      refine XS.aloadN Xc.here hx rfl (hb hby d1_60) rfl rfl ?_
      exact k_
    obtain ⟨T15, X15, e15, st15⟩ := getF Xc hx hZ hown (host := "") (Or.inl (own_w hw 41 rfl)) Via.refl ec zc9 (g := (mkF m 61 #[.val (.ref a), .val (.int n), .val (.int (1 : Int32)), .val (.int (1 : Int32)), .val (.int i)] [(.ref a), (.int i)])) rfl rfl (hb hby d1_61)
    refine own_go st15 ?_
    obtain ⟨cl16, Ar16, q16, S16, M16, H16, G16⟩ := id zc16
    refine own_go (A := T15.setTop (mkF m 102 #[.val (.ref a), .val (.int n), .val (.int (1 : Int32)), .val (.int (1 : Int32)), .val (.int (0 : Int32))] [(.ref a)])) (fun t_ k_ => ?_) ?_
    · show Steps p.tables e below (T15.setTop (mkF m 64 #[.val (.ref a), .val (.int n), .val (.int (1 : Int32)), .val (.int (1 : Int32)), .val (.int i)] [(.ref b7), (.int i)])) t_
      refine X15.arraylength hx (by rw [e15]; exact Ar16.1) (State.isArrayOf_alike hZ.alike Ar16.2.1) (g := (mkF m 64 #[.val (.ref a), .val (.int n), .val (.int (1 : Int32)), .val (.int (1 : Int32)), .val (.int i)] [(.ref b7), (.int i)])) rfl rfl (hb hby d1_64) _ ?_
      rw [len_of S16 M16]
      refine XS.icmpYes X15.here hx rfl (pc0 := 65) (pc' := 92) rfl (hb hby d1_65) rfl (flt hge).2.1 (by decide) (by decide) ?_
      refine XS.iconst X15.here hx rfl (hb hby d1_92) ?_
      refine XS.istore X15.here hx rfl (hb hby d1_93) rfl (l' := #[.val (.ref a), .val (.int n), .val (.int (1 : Int32)), .val (.int (1 : Int32)), .val (.int (0 : Int32))]) rfl ?_
      show Steps p.tables e below (T15.setTop (mkF m 95 #[.val (.ref a), .val (.int n), .val (.int (1 : Int32)), .val (.int (1 : Int32)), .val (.int (0 : Int32))] [])) t_
      refine XS.iload X15.here hx rfl (hb hby d1_95) rfl ?_
      refine XS.iloadN X15.here hx rfl (hb hby d1_97) rfl ?_
      refine XS.icmpNo X15.here hx rfl (hb hby d1_98) rfl (tlt (by decide : (0 : Int32) < (1 : Int32))).2.1 ?_
      refine XS.aloadN X15.here hx rfl (hb hby d1_101) rfl rfl ?_
      exact k_
    obtain ⟨T17, X17, e17, st17⟩ := getF X15 hx hZ hown (host := "") (Or.inl (own_w hw 34 rfl)) Via.refl e15 zc6 (g := (mkF m 102 #[.val (.ref a), .val (.int n), .val (.int (1 : Int32)), .val (.int (1 : Int32)), .val (.int (0 : Int32))] [(.ref a)])) rfl rfl (hb hby d1_102)
    refine own_go st17 ?_
    refine own_go (A := T17.setTop (mkF m 106 #[.val (.ref a), .val (.int n), .val (.int (1 : Int32)), .val (.int (1 : Int32)), .val (.int (0 : Int32))] [(.ref a), (.ref b2)])) (fun t_ k_ => ?_) ?_
    · show Steps p.tables e below (T17.setTop (mkF m 105 #[.val (.ref a), .val (.int n), .val (.int (1 : Int32)), .val (.int (1 : Int32)), .val (.int (0 : Int32))] [(.ref b2)])) t_
      refine XS.aloadN X17.here hx rfl (hb hby d1_105) rfl rfl ?_
      exact k_
    obtain ⟨T18, X18, e18, st18⟩ := getF X17 hx hZ hown (host := "") (Or.inl (own_w hw 41 rfl)) Via.refl e17 zc9 (g := (mkF m 106 #[.val (.ref a), .val (.int n), .val (.int (1 : Int32)), .val (.int (1 : Int32)), .val (.int (0 : Int32))] [(.ref a), (.ref b2)])) rfl rfl (hb hby d1_106)
    refine own_go st18 ?_
    obtain ⟨cl19, Ar19, q19, S19, M19, H19, G19⟩ := id zc16
    refine own_go (A := T18.setTop (mkF m 113 #[.val (.ref a), .val (.int n), .val (.int (1 : Int32)), .val (.int (1 : Int32)), .val (.int (0 : Int32))] [(.int ((n * (1 : Int32)) + (0 : Int32))), (.ref b2)])) (fun t_ k_ => ?_) ?_
    · show Steps p.tables e below (T18.setTop (mkF m 109 #[.val (.ref a), .val (.int n), .val (.int (1 : Int32)), .val (.int (1 : Int32)), .val (.int (0 : Int32))] [(.ref b7), (.ref b2)])) t_
      refine X18.arraylength hx (by rw [e18]; exact Ar19.1) (State.isArrayOf_alike hZ.alike Ar19.2.1) (g := (mkF m 109 #[.val (.ref a), .val (.int n), .val (.int (1 : Int32)), .val (.int (1 : Int32)), .val (.int (0 : Int32))] [(.ref b7), (.ref b2)])) rfl rfl (hb hby d1_109) _ ?_
      rw [len_of S19 M19]
      refine XS.iload X18.here hx rfl (hb hby d1_110) rfl ?_
      refine XS.iadd X18.here hx rfl (hb hby d1_112) rfl ?_
      exact k_
    obtain ⟨_, _, ⟨T20, L20, k20, n20⟩, -, X20, ⟨Lc20, hQ20, l20, y20, z20⟩, st20⟩ := Jvm.LawKit.callS X18 hx (y := own_y9) hown (mvT hZ (own_w hw 49 rfl)) (mvT hZ (own_w hw 50 rfl)) (mvT hZ (own_w hw 51 rfl)) (mvT hZ (own_w hw 52 rfl)) (by decide) (backOf (W := 1) (rmVO l Z a0 hw [] ((n * (1 : Int32)) + (0 : Int32)) ca bxc Hc n0 (Nat.le_trans Z0 Kc0.1) Oc zc2 zc3 hbx (own_c1 (by have h := own_vi1_0 hn; omega)) (own_c2 (by have h := own_vi1_0 hn; omega))) hZ (own_w hw 52 rfl) (own_w hw 51 rfl) (by decide) (by decide)) (g := (mkF m 113 #[.val (.ref a), .val (.int n), .val (.int (1 : Int32)), .val (.int (1 : Int32)), .val (.int (0 : Int32))] [(.int ((n * (1 : Int32)) + (0 : Int32))), (.ref b2)])) rfl (by rw [hml]; rfl) (argsL := [(.int ((n * (1 : Int32)) + (0 : Int32)))]) (rest := [(.ref b2)]) (lenOf pd_8 rfl) rfl (by show 2 * 0 + _ ≤ _; exact Nat.le_of_eq rfl) (hb hby d1_113) (fun _ _ => ⟨rfl, e18, (by decide : 3 + 0 ≤ _), (by decide : 39 + 0 ≤ _)⟩)
    dsimp only [Pt.U, Pt.locs, Pt.cells, Pt.slots] at X20 l20 y20 z20 st20 hQ20
    subst l20 y20 z20
    obtain ⟨r_20, rfl, N20q, Kc20, r20_0, r20_1⟩ := hQ20
    have N20 := Fr.app Nc N20q
    refine own_go st20 ?_
    have K20 : Keep h0 T20.heap [a] := Kc0.trans Kc20 all0
    have O20 := Oc.keep Kc20 all0
    obtain ⟨cq21, kq21, q21a, q21b, q21c⟩ := isOf hZ rfl (zc12.keep Kc20)
    obtain ⟨_, _, ⟨T21, L21, k21, n21⟩, -, X21, ⟨Lc21, hQ21, l21, y21, z21⟩, st21⟩ := X20.interfaceBack hx (xi := own_y13) (y := own_y8) hown (mvT hZ (own_w hw 56 rfl)) (mvT hZ (own_w hw 57 rfl)) (mvT hZ (own_w hw 58 rfl)) (mvT hZ (own_w hw 59 rfl)) (mvT hZ (own_w hw 60 rfl)) (mvT hZ (own_w hw 61 rfl)) (mvT hZ (own_w hw 62 rfl)) (mvT hZ (own_w hw 63 rfl)) (by decide) (backOf (W := 0) (rmAdd0 l Z a0 hw [] b2 r_20 dc kd (0 : Int32) T20.heap n0 (Nat.le_trans Z0 K20.1) O20 zc0 (zc12.keep Kc20) (zc13.keep Kc20 nin0) (zc14.keep Kc20 nin0) (zc15.keep Kc20 nin0) zc1 gc23 (r20_0.ext O20.2)) hZ (own_w hw 64 rfl) (own_w hw 12 rfl) (by decide) (by decide)) q21a q21b q21c (g := (mkF m 116 #[.val (.ref a), .val (.int n), .val (.int (1 : Int32)), .val (.int (1 : Int32)), .val (.int (0 : Int32))] [(.ref r_20), (.ref b2)])) rfl (by rw [hml]; rfl) (Steps.refl _) (argsL := [(.ref r_20)]) (rest := []) (lenOf pd_9 rfl) rfl (by show 2 * 0 + _ ≤ _; exact Nat.le_of_eq rfl) (hb hby d1_116) (fun _ _ => ⟨rfl, rfl, (by decide : 3 + 1 ≤ _), (by decide : 39 + 10 ≤ _)⟩)
    dsimp only [Pt.U, Pt.locs, Pt.cells, Pt.slots] at X21 l21 y21 z21 st21 hQ21
    subst l21 y21 z21
    obtain ⟨ed_21, k_21, rfl, N21q, Kc21, r21_0, r21_1, r21_2, r21_3, r21_4, r21_5⟩ := hQ21
    have N21 := Fr.app N20 N21q
    refine own_via st21 ?_
    have K21 : Keep h0 T21.heap [a] := K20.trans Kc21 (allS (P := fun x => x ∈ _ ∨ _ ≤ x) (Or.inr sc24) all0)
    have O21 := O20.keep Kc21 (allS (P := fun x => n0 ≤ x) gc23 all0)
    refine own_go (A := T21.setTop (mkF m 129 #[.val (.ref a), .val (.int n), .val (.int (1 : Int32)), .val (.int (1 : Int32)), .val (.int (1 : Int32))] [(.ref a)])) (fun t_ k_ => ?_) ?_
    · show Steps p.tables e below (T21.setTop (mkF m 121 #[.val (.ref a), .val (.int n), .val (.int (1 : Int32)), .val (.int (1 : Int32)), .val (.int (0 : Int32))] [(.int (1 : Int32))])) t_
      refine XS.pop X21.here hx rfl (hb hby d1_121) rfl rfl ?_
      refine XS.iinc X21.here hx rfl (hb hby d1_122) rfl (l' := #[.val (.ref a), .val (.int n), .val (.int (1 : Int32)), .val (.int (1 : Int32)), .val (.int (1 : Int32))]) rfl ?_
      refine XS.goto X21.here hx rfl (pc0 := 125) (pc' := 95) rfl (hb hby d1_125) (by decide) (by decide) ?_
      refine XS.iload X21.here hx rfl (hb hby d1_95) rfl ?_
      show Steps p.tables e below (T21.setTop (mkF m 97 #[.val (.ref a), .val (.int n), .val (.int (1 : Int32)), .val (.int (1 : Int32)), .val (.int (1 : Int32))] [(.int (1 : Int32))])) t_
      refine XS.iloadN X21.here hx rfl (hb hby d1_97) rfl ?_
      refine XS.icmpYes X21.here hx rfl (pc0 := 98) (pc' := 128) rfl (hb hby d1_98) rfl (flt (by decide : ¬ ((1 : Int32) < (1 : Int32)))).2.1 (by decide) (by decide) ?_
      refine XS.aloadN X21.here hx rfl (hb hby d1_128) rfl rfl ?_
      exact k_
    obtain ⟨T22, h22, X22, e22, E22, A22, D22, -, st22⟩ := newO X21 hx hZ hown (own_w hw 91 rfl) (own_w hw 92 rfl) (own_w hw 93 rfl) rfl (g := (mkF m 129 #[.val (.ref a), .val (.int n), .val (.int (1 : Int32)), .val (.int (1 : Int32)), .val (.int (1 : Int32))] [(.ref a)])) rfl (hb hby d1_129) (by decide) (by decide)
    obtain ⟨b22, g22⟩ : ∃ z, z = T21.heap.size := ⟨_, rfl⟩
    rw [← g22] at A22 D22 st22
    refine own_go st22 ?_
    have K22 : Keep h0 h22 [a] := K21.ext E22
    have O22 := O21.ext E22
    have F22_partitions : Fld Z h22 b22 "com/example/kneiphof/kneiphof/Partitioning" "partitions" "I" (.int (0 : Int32)) := D22 (Or.inr (own_w hw 108 rfl)) (ty := .int) (by decide)
    have F22_spreads : Fld Z h22 b22 "com/example/kneiphof/kneiphof/Partitioning" "spreads" "Ljava/util/List;" .null := D22 (Or.inr (own_w hw 110 rfl)) (ty := (.object "java/util/List")) (by decide)
    refine own_go (A := T22.setTop (mkF m 134 #[.val (.ref a), .val (.int n), .val (.int (1 : Int32)), .val (.int (1 : Int32)), .val (.int (1 : Int32))] [(.int n), (.ref b22), (.ref b22), (.ref a)])) (fun t_ k_ => ?_) ?_
    · show Steps p.tables e below (T22.setTop (mkF m 132 #[.val (.ref a), .val (.int n), .val (.int (1 : Int32)), .val (.int (1 : Int32)), .val (.int (1 : Int32))] [(.ref b22), (.ref a)])) t_
      refine XS.dup X22.here hx rfl (hb hby d1_132) rfl rfl ?_
      refine XS.iloadN X22.here hx rfl (hb hby d1_133) rfl ?_
      exact k_
    obtain ⟨_, _, ⟨T23, L23, k23, n23⟩, -, X23, ⟨Lc23, hQ23, l23, y23, z23⟩, st23⟩ := X22.specialBack hx (y := own_y12) rfl hown (mvT hZ (own_w hw 94 rfl)) (mvT hZ (own_w hw 95 rfl)) (mvT hZ (own_w hw 96 rfl)) (by decide) (backOf (W := 2) (rmPt1 l Z a0 hw [] b22 n el h22 n0 (Nat.le_trans Z0 K22.1) O22 zc4 A22 F22_partitions F22_spreads (Nat.le_trans Z0 (Nat.le_trans K21.1 (Nat.le_of_eq g22.symm)))) hZ (own_w hw 96 rfl) (own_w hw 93 rfl) (by decide) (by decide)) (g := (mkF m 134 #[.val (.ref a), .val (.int n), .val (.int (1 : Int32)), .val (.int (1 : Int32)), .val (.int (1 : Int32))] [(.int n), (.ref b22), (.ref b22), (.ref a)])) rfl (by rw [hml]; rfl) (Steps.refl _) (a := b22) (argsL := [(.int n)]) (rest := [(.ref b22), (.ref a)]) (lenOf pd_10 rfl) rfl (by show 2 * 0 + _ ≤ _; exact Nat.le_of_eq rfl) (hb hby d1_134) (fun _ _ => ⟨rfl, e22, (by decide : 5 + 0 ≤ _), (by decide : 51 + 0 ≤ _)⟩)
    dsimp only [Pt.U, Pt.locs, Pt.cells, Pt.slots] at X23 l23 y23 z23 st23 hQ23
    subst l23 y23 z23
    obtain ⟨rfl, N23q, Kc23⟩ := hQ23
    have N23 := Fr.app N21 N23q
    refine own_via st23 ?_
    have K23 : Keep h0 T23.heap [a] := K22.trans Kc23 (allS (P := fun x => x ∈ _ ∨ _ ≤ x) (Or.inr (Nat.le_trans K21.1 (Nat.le_of_eq g22.symm))) all0)
    have O23 := O22.keep Kc23 (allS (P := fun x => n0 ≤ x) (Nat.le_trans Z0 (Nat.le_trans K21.1 (Nat.le_of_eq g22.symm))) all0)
    obtain ⟨T24, h24, X24, e24, W24, st24⟩ := putF X23 hx hZ hown (host := "") (Or.inl (own_w hw 111 rfl)) Via.refl rfl ((((zc11.keep Kc20 nin0).keep Kc21 (ninS nc30 nin0)).ext E22).keep Kc23 (ninS (Nat.ne_of_lt (Nat.lt_of_lt_of_le (Nat.lt_of_lt_of_le (Nat.lt_of_lt_of_le zc5.lt Kc20.1) Kc21.1) (Nat.le_of_eq g22.symm))) nin0)) ((((zc5.keep Kc20).keep Kc21).ext E22).keep Kc23) (Or.inl (own_w hw 112 rfl)) (own_w hw 2 rfl) (ty := (.object "com/example/kneiphof/kneiphof/Partitioning")) (by decide) rfl rfl (g := (mkF m 137 #[.val (.ref a), .val (.int n), .val (.int (1 : Int32)), .val (.int (1 : Int32)), .val (.int (1 : Int32))] [(.ref b22), (.ref a)])) rfl rfl (hb hby d1_137)
    have Fw24 : Fld Z h24 a "com/example/kneiphof/kneiphof/Assignment" "partitioning" "Lcom/example/kneiphof/kneiphof/Partitioning;" (.ref b22) := ((((zc11.keep Kc20 nin0).keep Kc21 (ninS nc30 nin0)).ext E22).keep Kc23 (ninS (Nat.ne_of_lt (Nat.lt_of_lt_of_le (Nat.lt_of_lt_of_le (Nat.lt_of_lt_of_le zc5.lt Kc20.1) Kc21.1) (Nat.le_of_eq g22.symm))) nin0)).same W24
    refine own_go st24 ?_
    have K24 : Keep h0 h24 [a] := K23.wr W24 (Or.inl (List.mem_of_getElem? (i := 0) rfl))
    have O24 := O23.wr W24 gc18
    have N24 := Fr.snoc X24 N23 gc18
    obtain ⟨fs25, hr25, hrun25, hended25, hW25, hsame25⟩ := X24.leave (v := none) (fun _ => rfl)
    refine ⟨_, _, ?_, hrun25, hended25, _, _, rfl, ?_, ⟨_, rfl⟩, hW25, hsame25.mono (by decide) (by decide)⟩
    · exact X24.returnOut hx hret (hb hby d1_140) hr25
    · show Q_rmIni1 Z a n dc kd ca bxc el h0 n0 _ T24.heap _
      rw [e24]
      exact ⟨b7, k7, b11, k11, b2, ed_21, k_21, ((0 : Int32) + (1 : Int32)), vw, vu, r_20, rfl, N24, K24, sc20, sc22, sc24, (Nat.le_trans K20.1 r21_0), (((((zc9.keep Kc20 nin0).keep Kc21 (ninS nc30 nin0)).ext E22).keep Kc23 (ninS (Nat.ne_of_lt (Nat.lt_of_lt_of_le (Nat.lt_of_lt_of_le (Nat.lt_of_lt_of_le zc5.lt Kc20.1) Kc21.1) (Nat.le_of_eq g22.symm))) nin0)).other W24 (Or.inr (slot_ne (Or.inr (own_w hw 42 rfl)) (Or.inl (own_w hw 112 rfl)) (by decide) (t := (.array .int)) (t' := (.object "com/example/kneiphof/kneiphof/Partitioning")) (by decide) (by decide)))), (((((zc10.keep Kc20 nin0).keep Kc21 (ninS nc30 nin0)).ext E22).keep Kc23 (ninS (Nat.ne_of_lt (Nat.lt_of_lt_of_le (Nat.lt_of_lt_of_le (Nat.lt_of_lt_of_le zc5.lt Kc20.1) Kc21.1) (Nat.le_of_eq g22.symm))) nin0)).other W24 (Or.inr (slot_ne (Or.inr (own_w hw 44 rfl)) (Or.inl (own_w hw 112 rfl)) (by decide) (t := (.array .int)) (t' := (.object "com/example/kneiphof/kneiphof/Partitioning")) (by decide) (by decide)))), (((((zc6.keep Kc20 nin0).keep Kc21 (ninS nc30 nin0)).ext E22).keep Kc23 (ninS (Nat.ne_of_lt (Nat.lt_of_lt_of_le (Nat.lt_of_lt_of_le (Nat.lt_of_lt_of_le zc5.lt Kc20.1) Kc21.1) (Nat.le_of_eq g22.symm))) nin0)).other W24 (Or.inr (slot_ne (Or.inr (own_w hw 35 rfl)) (Or.inl (own_w hw 112 rfl)) (by decide) (t := (.object "java/util/List")) (t' := (.object "com/example/kneiphof/kneiphof/Partitioning")) (by decide) (by decide)))), (((((zc8.keep Kc20 nin0).keep Kc21 (ninS nc30 nin0)).ext E22).keep Kc23 (ninS (Nat.ne_of_lt (Nat.lt_of_lt_of_le (Nat.lt_of_lt_of_le (Nat.lt_of_lt_of_le zc5.lt Kc20.1) Kc21.1) (Nat.le_of_eq g22.symm))) nin0)).other W24 (Or.inr (slot_ne (Or.inr (own_w hw 39 rfl)) (Or.inl (own_w hw 112 rfl)) (by decide) (t := .int) (t' := (.object "com/example/kneiphof/kneiphof/Partitioning")) (by decide) (by decide)))), (((((zc16.keep Kc20 nin0).keep Kc21 (ninS (Ne.symm nc28) nin0)).ext E22).keep Kc23 (ninS (Nat.ne_of_lt (Nat.lt_of_lt_of_le (Nat.lt_of_lt_of_le (Nat.lt_of_lt_of_le zc16.lt Kc20.1) Kc21.1) (Nat.le_of_eq g22.symm))) nin0)).other W24 (Ne.symm nc26)), (((((zc17.keep Kc20 nin0).keep Kc21 (ninS (Ne.symm nc29) nin0)).ext E22).keep Kc23 (ninS (Nat.ne_of_lt (Nat.lt_of_lt_of_le (Nat.lt_of_lt_of_le (Nat.lt_of_lt_of_le zc17.lt Kc20.1) Kc21.1) (Nat.le_of_eq g22.symm))) nin0)).other W24 (Ne.symm nc27)), (((((zc12.keep Kc20).keep Kc21).ext E22).keep Kc23).wr W24), (((r21_3.ext E22).keep Kc23 (ninS (Nat.ne_of_lt (Nat.lt_of_lt_of_le r21_3.lt (Nat.le_of_eq g22.symm))) nin0)).other W24 (Or.inl (Ne.symm nc30))), (((r21_4.ext E22).keep Kc23 (ninS (Nat.ne_of_lt (Nat.lt_of_lt_of_le r21_3.lt (Nat.le_of_eq g22.symm))) nin0)).other W24 (Or.inl (Ne.symm nc30))), (((r21_5.ext E22).keep Kc23 (ninS (Nat.ne_of_lt (Nat.lt_of_lt_of_le r21_3.lt (Nat.le_of_eq g22.symm))) nin0)).other W24 (Or.inl (Ne.symm nc30))), (((r21_1.ext E22).keep Kc23 (ninS (Nat.ne_of_lt (Nat.lt_of_lt_of_le r21_1.lt (Nat.le_of_eq g22.symm))) nin0)).other W24 (Ne.symm (Nat.ne_of_lt (Nat.lt_of_lt_of_le (Nat.lt_of_lt_of_le zc5.lt Kc20.1) r21_0)))), r21_2, nc25, (Ne.symm nc28), (Nat.ne_of_lt (Nat.lt_of_lt_of_le (Nat.lt_of_lt_of_le zc16.lt Kc20.1) r21_0)), (Ne.symm nc29), (Nat.ne_of_lt (Nat.lt_of_lt_of_le (Nat.lt_of_lt_of_le zc17.lt Kc20.1) r21_0)), (Nat.ne_of_lt (Nat.lt_of_lt_of_le (Nat.lt_of_lt_of_le zc12.lt Kc20.1) r21_0)), r20_0, (by have q := r20_1; rw [own_a0] at q; exact q), hvw, hvu, (own_eqp hpr (by omega)), hfc⟩
  | succ k_ ih =>
    intro Tc Hc locsc i vw vu Xc ec Nc Kc0 Oc zc0 zc1 zc2 zc3 zc4 zc5 zc6 zc7 zc8 zc9 zc10 zc11 zc12 zc13 zc14 zc15 zc16 zc17 gc18 gc19 sc20 gc21 sc22 gc23 sc24 nc25 nc26 nc27 nc28 nc29 nc30 hbx hn hfc hms hi0 hvw hvu hpr
    have hlt : i < (n * (1 : Int32)) := own_lt (by omega)
    refine own_go (A := Tc.setTop (mkF m 61 #[.val (.ref a), .val (.int n), .val (.int (1 : Int32)), .val (.int (1 : Int32)), .val (.int i)] [(.ref a), (.int i)])) (fun t_ k_ => ?_) ?_
    · show Steps p.tables e below (Tc.setTop (mkF m 58 #[.val (.ref a), .val (.int n), .val (.int (1 : Int32)), .val (.int (1 : Int32)), .val (.int i)] [])) t_
      refine XS.iload Xc.here hx rfl (hb hby d1_58) rfl ?_
      refine XS.aloadN Xc.here hx rfl (hb hby d1_60) rfl rfl ?_
      exact k_
    obtain ⟨T26, X26, e26, st26⟩ := getF Xc hx hZ hown (host := "") (Or.inl (own_w hw 41 rfl)) Via.refl ec zc9 (g := (mkF m 61 #[.val (.ref a), .val (.int n), .val (.int (1 : Int32)), .val (.int (1 : Int32)), .val (.int i)] [(.ref a), (.int i)])) rfl rfl (hb hby d1_61)
    refine own_go st26 ?_
    obtain ⟨cl27, Ar27, q27, S27, M27, H27, G27⟩ := id zc16
    refine own_go (A := T26.setTop (mkF m 69 #[.val (.ref a), .val (.int n), .val (.int (1 : Int32)), .val (.int (1 : Int32)), .val (.int i)] [(.ref a)])) (fun t_ k_ => ?_) ?_
    · show Steps p.tables e below (T26.setTop (mkF m 64 #[.val (.ref a), .val (.int n), .val (.int (1 : Int32)), .val (.int (1 : Int32)), .val (.int i)] [(.ref b7), (.int i)])) t_
      refine X26.arraylength hx (by rw [e26]; exact Ar27.1) (State.isArrayOf_alike hZ.alike Ar27.2.1) (g := (mkF m 64 #[.val (.ref a), .val (.int n), .val (.int (1 : Int32)), .val (.int (1 : Int32)), .val (.int i)] [(.ref b7), (.int i)])) rfl rfl (hb hby d1_64) _ ?_
      rw [len_of S27 M27]
      refine XS.icmpNo X26.here hx rfl (hb hby d1_65) rfl (tlt hlt).2.1 ?_
      refine XS.aloadN X26.here hx rfl (hb hby d1_68) rfl rfl ?_
      exact k_
    obtain ⟨T28, X28, e28, st28⟩ := getF X26 hx hZ hown (host := "") (Or.inl (own_w hw 41 rfl)) Via.refl e26 zc9 (g := (mkF m 69 #[.val (.ref a), .val (.int n), .val (.int (1 : Int32)), .val (.int (1 : Int32)), .val (.int i)] [(.ref a)])) rfl rfl (hb hby d1_69)
    refine own_go st28 ?_
    refine own_go (A := T28.setTop (mkF m 76 #[.val (.ref a), .val (.int n), .val (.int (1 : Int32)), .val (.int (1 : Int32)), .val (.int i)] [(.int i), (.int i), (.ref b7)])) (fun t_ k_ => ?_) ?_
    · show Steps p.tables e below (T28.setTop (mkF m 72 #[.val (.ref a), .val (.int n), .val (.int (1 : Int32)), .val (.int (1 : Int32)), .val (.int i)] [(.ref b7)])) t_
      refine XS.iload X28.here hx rfl (hb hby d1_72) rfl ?_
      refine XS.iload X28.here hx rfl (hb hby d1_74) rfl ?_
      exact k_
    obtain ⟨cl29, Ar29, q29, S29, M29, H29, G29⟩ := id zc16
    have hin29 : ¬ (i < 0 ∨ cl29.slots.size ≤ (i).toNatClampNeg) := inb_of S29 ⟨own_n0 hi0, hlt⟩
    obtain ⟨T30, h30, X30, e30, W30, st30⟩ := stI X28 hx hZ e28 Ar29 (j := i) hin29 (g := (mkF m 76 #[.val (.ref a), .val (.int n), .val (.int (1 : Int32)), .val (.int (1 : Int32)), .val (.int i)] [(.int i), (.int i), (.ref b7)])) rfl rfl (hb hby d1_76)
    obtain ⟨vs30, hvs30⟩ : ∃ z_ : List Value, z_ = (vw.set (i).toNatClampNeg (.int i)) := ⟨_, rfl⟩
    have B30 : Arv Z h30 b7 k7 .int (n * (1 : Int32)) vs30 (.int (0 : Int32)) := hvs30 ▸ Arv.set Ar29 q29 S29 M29 H29 G29 rfl W30 _ rfl (own_ln hi0 hlt hvw)
    refine own_go st30 ?_
    have K30 : Keep h0 h30 [a] := Kc0.wr W30 (Or.inr sc20)
    have O30 := Oc.wr W30 gc19
    have N30 := Fr.snoc X30 Nc gc19
    refine own_go (A := T30.setTop (mkF m 78 #[.val (.ref a), .val (.int n), .val (.int (1 : Int32)), .val (.int (1 : Int32)), .val (.int i)] [(.ref a)])) (fun t_ k_ => ?_) ?_
    · show Steps p.tables e below (T30.setTop (mkF m 77 #[.val (.ref a), .val (.int n), .val (.int (1 : Int32)), .val (.int (1 : Int32)), .val (.int i)] [])) t_
      refine XS.aloadN X30.here hx rfl (hb hby d1_77) rfl rfl ?_
      exact k_
    obtain ⟨T31, X31, e31, st31⟩ := getF X30 hx hZ hown (host := "") (Or.inl (own_w hw 43 rfl)) Via.refl e30 (zc10.other W30 (Or.inl nc26)) (g := (mkF m 78 #[.val (.ref a), .val (.int n), .val (.int (1 : Int32)), .val (.int (1 : Int32)), .val (.int i)] [(.ref a)])) rfl rfl (hb hby d1_78)
    refine own_go st31 ?_
    refine own_go (A := T31.setTop (mkF m 85 #[.val (.ref a), .val (.int n), .val (.int (1 : Int32)), .val (.int (1 : Int32)), .val (.int i)] [(.int i), (.int i), (.ref b11)])) (fun t_ k_ => ?_) ?_
    · show Steps p.tables e below (T31.setTop (mkF m 81 #[.val (.ref a), .val (.int n), .val (.int (1 : Int32)), .val (.int (1 : Int32)), .val (.int i)] [(.ref b11)])) t_
      refine XS.iload X31.here hx rfl (hb hby d1_81) rfl ?_
      refine XS.iload X31.here hx rfl (hb hby d1_83) rfl ?_
      exact k_
    obtain ⟨cl32, Ar32, q32, S32, M32, H32, G32⟩ := id (zc17.other W30 (Ne.symm nc25))
    have hin32 : ¬ (i < 0 ∨ cl32.slots.size ≤ (i).toNatClampNeg) := inb_of S32 ⟨own_n0 hi0, own_lt (by have q := Int32.lt_iff_toInt_lt.mp hlt; have h1 := own_nr1 hn; have h2 := own_ns1 hn; omega)⟩
    obtain ⟨T33, h33, X33, e33, W33, st33⟩ := stI X31 hx hZ e31 Ar32 (j := i) hin32 (g := (mkF m 85 #[.val (.ref a), .val (.int n), .val (.int (1 : Int32)), .val (.int (1 : Int32)), .val (.int i)] [(.int i), (.int i), (.ref b11)])) rfl rfl (hb hby d1_85)
    obtain ⟨vs33, hvs33⟩ : ∃ z_ : List Value, z_ = (vu.set (i).toNatClampNeg (.int i)) := ⟨_, rfl⟩
    have B33 : Arv Z h33 b11 k11 .int ((n * (1 : Int32)) + (1 : Int32)) vs33 (.int (0 : Int32)) := hvs33 ▸ Arv.set Ar32 q32 S32 M32 H32 G32 rfl W33 _ rfl (own_ln hi0 (own_lt (by have q := Int32.lt_iff_toInt_lt.mp hlt; have h1 := own_nr1 hn; have h2 := own_ns1 hn; omega)) hvu)
    refine own_go st33 ?_
    have K33 : Keep h0 h33 [a] := K30.wr W33 (Or.inr sc22)
    have O33 := O30.wr W33 gc21
    have N33 := Fr.snoc X33 N30 gc21
    refine own_go (A := T33.setTop (mkF m 58 #[.val (.ref a), .val (.int n), .val (.int (1 : Int32)), .val (.int (1 : Int32)), .val (.int (i + (1 : Int32)))] [])) (fun t_ k_ => ?_) ?_
    · show Steps p.tables e below (T33.setTop (mkF m 86 #[.val (.ref a), .val (.int n), .val (.int (1 : Int32)), .val (.int (1 : Int32)), .val (.int i)] [])) t_
      refine XS.iinc X33.here hx rfl (hb hby d1_86) rfl (l' := #[.val (.ref a), .val (.int n), .val (.int (1 : Int32)), .val (.int (1 : Int32)), .val (.int (i + (1 : Int32)))]) rfl ?_
      refine XS.goto X33.here hx rfl (pc0 := 89) (pc' := 58) rfl (hb hby d1_89) (by decide) (by decide) ?_
      exact k_
    exact ih T33 h33 _ (i + (1 : Int32)) vs30 vs33 X33 e33 N33 K33 O33 zc0 zc1 zc2 zc3 zc4 ((zc5.wr W30).wr W33) ((zc6.other W30 (Or.inl nc26)).other W33 (Or.inl nc27)) ((zc7.other W30 (Or.inl nc26)).other W33 (Or.inl nc27)) ((zc8.other W30 (Or.inl nc26)).other W33 (Or.inl nc27)) ((zc9.other W30 (Or.inl nc26)).other W33 (Or.inl nc27)) ((zc10.other W30 (Or.inl nc26)).other W33 (Or.inl nc27)) ((zc11.other W30 (Or.inl nc26)).other W33 (Or.inl nc27)) ((zc12.wr W30).wr W33) ((zc13.other W30 (Or.inl nc28)).other W33 (Or.inl nc29)) ((zc14.other W30 (Or.inl nc28)).other W33 (Or.inl nc29)) ((zc15.other W30 (Or.inl nc28)).other W33 (Or.inl nc29)) (B30.other W33 nc25) B33 gc18 gc19 sc20 gc21 sc22 gc23 sc24 nc25 nc26 nc27 nc28 nc29 nc30 hbx hn hfc (by rw [own_inc hi0 hlt]; omega) (by rw [own_inc hi0 hlt]; omega) (by rw [hvs30, List.length_set]; exact hvw) (by rw [hvs33, List.length_set]; exact hvu) (by rw [hvs30]; exact own_pset hi0 hlt hvw hpr)
abbrev own_y14 : MethodName := ⟨"com/example/kneiphof/kneiphof/Assignment", "<init>", "(III)V"⟩
theorem ef_rmIni1 (m : MethodId) (a : Addr) (n : Int32) : entryFrame m #[(.ref a), (.int n), (.int (1 : Int32)), (.int (1 : Int32))] 5 = mkF m 0 #[.val (.ref a), .val (.int n), .val (.int (1 : Int32)), .val (.int (1 : Int32)), .unset] [] := by first | (simp [entryFrame, mkF, argsToLocals, Value.category]; done) | rfl
theorem pn_7 : plainName "com/example/kneiphof/kneiphof/Assignment" = true := by first | (simp [plainName, overriddenIn]; done) | decide +kernel
set_option maxRecDepth 65536 in
set_option maxHeartbeats 40000000 in
theorem rmIni1 (l : Launch) (Z : State) (a0 : Array Value) (hw : ∀ d ∈ tables_1, d.before a0 Z = true) (ws : List Jvm.Cond) (a : Addr) (n : Int32) (dc : Addr) (kd : ClassId) (ca : Addr) (bxc : Cell) (el : Addr) (h0 : Heap) (n0 : Nat) (Z0 : n0 ≤ h0.size) (O0 : Old Z n0 h0) (u1 : Sta Z Z.heap "java/util/ArrayList" "DEFAULTCAPACITY_EMPTY_ELEMENTDATA" "[Ljava/lang/Object;" (.ref dc)) (u2 : Arv Z Z.heap dc kd (.object "java/lang/Object") (0 : Int32) [] .null) (u3 : Sta Z Z.heap "java/lang/Integer$IntegerCache" "high" "I" (.int (127 : Int32))) (u4 : Sta Z Z.heap "java/lang/Integer$IntegerCache" "cache" "[Ljava/lang/Integer;" (.ref ca)) (hbx : Bxs Z ca bxc "java/lang/Integer" "I" (256 : Int32) own_bval) (u6 : Sta Z Z.heap "java/util/ImmutableCollections" "EMPTY_LIST" "Ljava/util/ImmutableCollections$ListN;" (.ref el)) (u7 : Exa Z h0 a "com/example/kneiphof/kneiphof/Assignment") (u8 : Fld Z h0 a "com/example/kneiphof/kneiphof/Assignment" "spares" "Ljava/util/List;" .null) (u9 : Fld Z h0 a "com/example/kneiphof/kneiphof/Assignment" "partitions" "I" (.int (0 : Int32))) (u10 : Fld Z h0 a "com/example/kneiphof/kneiphof/Assignment" "replicas" "I" (.int (0 : Int32))) (u11 : Fld Z h0 a "com/example/kneiphof/kneiphof/Assignment" "workers" "[I" .null) (u12 : Fld Z h0 a "com/example/kneiphof/kneiphof/Assignment" "slots" "[I" .null) (u13 : Fld Z h0 a "com/example/kneiphof/kneiphof/Assignment" "partitioning" "Lcom/example/kneiphof/kneiphof/Partitioning;" .null) (u14 : n0 ≤ a) (hn : 1 ≤ n.toInt ∧ n.toInt ≤ 4) :
    MetFree l own_y14 (head1 (Jvm.Cond.code own_y14 prog_5_method_1_code 5 none :: ws) ({ frames := 5, cells := 5, slots := 51, locals := 69 } : Room)) (fun a_ U_ => a_ = #[(.ref a), (.int n), (.int (1 : Int32)), (.int (1 : Int32))] ∧ Z.Warmed39 U_.vm ∧ U_.heap = h0) (fun _ _ _ _ _ => True) (fun _ U_ o_ U2_ => ∃ v_ L_, o_ = .returned v_ ∧ Q_rmIni1 Z a n dc kd ca bxc el h0 n0 v_ U2_.heap L_ ∧ FrameEnd U_ o_ U2_ L_ ({ frames := 5, cells := 5, slots := 51, locals := 69 } : Room).cells ({ frames := 5, cells := 5, slots := 51, locals := 69 } : Room).slots) := by
  refine MetFree.of_bodySF (plainFor_of_name pn_7) hisR ?_
  intro p e s m args below meth c s₁ Bd hml0 hP hK
  obtain ⟨rfl, hZ, hh⟩ := hP
  have hx := Bd.exec
  have hby := Bd.bytes
  have hml : c.maxLocals = 5 := hml0
  have hown : s.vm.findClass "com/example/kneiphof/kneiphof/Assignment" = some m.cls := findClass_of_methodNamed Bd.named
  have hnm := (name_of_methodNamed Bd.named Bd.method).1
  have X0 : Stand p l e ({ frames := 5, cells := 5, slots := 51, locals := 69 } : Room) s m #[(.ref a), (.int n), (.int (1 : Int32)), (.int (1 : Int32))] below meth c s₁ [] 0 0 := Stand.of_body Bd
  have e0 : s₁.heap = h0 := by rw [← hh, Bd.state]; rfl
  have N0 := Fr.nil n0
  refine own_go (A := s₁.setTop (mkF m 0 #[.val (.ref a), .val (.int n), .val (.int (1 : Int32)), .val (.int (1 : Int32)), .unset] [])) (fun t_ k_ => castTop (ef_rmIni1 m a n) k_) ?_
  refine own_go (A := s₁.setTop (mkF m 1 #[.val (.ref a), .val (.int n), .val (.int (1 : Int32)), .val (.int (1 : Int32)), .unset] [(.ref a)])) (fun t_ k_ => ?_) ?_
  · show Steps p.tables e below (s₁.setTop (mkF m 0 #[.val (.ref a), .val (.int n), .val (.int (1 : Int32)), .val (.int (1 : Int32)), .unset] [])) t_
    refine XS.aloadN X0.here hx rfl (hb hby d1_0) rfl rfl ?_
    exact k_
  obtain ⟨T1, X1, e1, st1⟩ := initO X0 hx hZ hown (own_w hw 7 rfl) (own_w hw 8 rfl) (own_w hw 9 rfl) e0 (g := (mkF m 1 #[.val (.ref a), .val (.int n), .val (.int (1 : Int32)), .val (.int (1 : Int32)), .unset] [(.ref a)])) rfl (by rw [hml]; rfl) rfl (hb hby d1_1) (by decide) (W := 0) (by show 2 * 0 + _ ≤ _; exact Nat.le_of_eq rfl) (by decide)
  refine own_go st1 ?_
  refine own_go (A := T1.setTop (mkF m 5 #[.val (.ref a), .val (.int n), .val (.int (1 : Int32)), .val (.int (1 : Int32)), .unset] [(.ref a)])) (fun t_ k_ => ?_) ?_
  · show Steps p.tables e below (T1.setTop (mkF m 4 #[.val (.ref a), .val (.int n), .val (.int (1 : Int32)), .val (.int (1 : Int32)), .unset] [])) t_
    refine XS.aloadN X1.here hx rfl (hb hby d1_4) rfl rfl ?_
    exact k_
  obtain ⟨T2, h2, X2, e2, E2, A2, D2, -, st2⟩ := newO X1 hx hZ hown (own_w hw 10 rfl) (own_w hw 11 rfl) (own_w hw 12 rfl) e1 (g := (mkF m 5 #[.val (.ref a), .val (.int n), .val (.int (1 : Int32)), .val (.int (1 : Int32)), .unset] [(.ref a)])) rfl (hb hby d1_5) (by decide) (by decide)
  obtain ⟨b2, g2⟩ : ∃ z, z = h0.size := ⟨_, rfl⟩
  rw [← g2] at A2 D2 st2
  refine own_go st2 ?_
  have K2 : Keep h0 h2 [a] := (Keep.refl h0 [a]).ext E2
  have O2 := O0.ext E2
  have F2_modCount : Fld Z h2 b2 "java/util/AbstractList" "modCount" "I" (.int (0 : Int32)) := D2 (Or.inl (own_w hw 30 rfl)) (ty := .int) (by decide)
  have F2_elementData : Fld Z h2 b2 "java/util/ArrayList" "elementData" "[Ljava/lang/Object;" .null := D2 (Or.inl (own_w hw 33 rfl)) (ty := (.array (.object "java/lang/Object"))) (by decide)
  have F2_size : Fld Z h2 b2 "java/util/ArrayList" "size" "I" (.int (0 : Int32)) := D2 (Or.inl (own_w hw 68 rfl)) (ty := .int) (by decide)
  refine own_go (A := T2.setTop (mkF m 9 #[.val (.ref a), .val (.int n), .val (.int (1 : Int32)), .val (.int (1 : Int32)), .unset] [(.ref b2), (.ref b2), (.ref a)])) (fun t_ k_ => ?_) ?_
  · show Steps p.tables e below (T2.setTop (mkF m 8 #[.val (.ref a), .val (.int n), .val (.int (1 : Int32)), .val (.int (1 : Int32)), .unset] [(.ref b2), (.ref a)])) t_
    refine XS.dup X2.here hx rfl (hb hby d1_8) rfl rfl ?_
    exact k_
  obtain ⟨_, _, ⟨T3, L3, k3, n3⟩, -, X3, ⟨Lc3, hQ3, l3, y3, z3⟩, st3⟩ := X2.specialBack hx (y := own_y3) rfl hown (mvT hZ (own_w hw 13 rfl)) (mvT hZ (own_w hw 14 rfl)) (mvT hZ (own_w hw 15 rfl)) (by decide) (backOf (W := 2) (rmALI l Z a0 hw [] b2 dc h2 n0 (Nat.le_trans Z0 K2.1) O2 u1 A2 F2_elementData F2_size F2_modCount (Nat.le_trans Z0 (Nat.le_of_eq g2.symm))) hZ (own_w hw 15 rfl) (own_w hw 12 rfl) (by decide) (by decide)) (g := (mkF m 9 #[.val (.ref a), .val (.int n), .val (.int (1 : Int32)), .val (.int (1 : Int32)), .unset] [(.ref b2), (.ref b2), (.ref a)])) rfl (by rw [hml]; rfl) (Steps.refl _) (a := b2) (argsL := []) (rest := [(.ref b2), (.ref a)]) (lenOf pd_0 rfl) rfl (by show 2 * 0 + _ ≤ _; exact Nat.le_of_eq rfl) (hb hby d1_9) (fun _ _ => ⟨rfl, e2, (by decide : 1 + 0 ≤ _), (by decide : 3 + 0 ≤ _)⟩)
  dsimp only [Pt.U, Pt.locs, Pt.cells, Pt.slots] at X3 l3 y3 z3 st3 hQ3
  subst l3 y3 z3
  obtain ⟨rfl, N3q, Kc3, r3_0, r3_1, r3_2⟩ := hQ3
  have N3 := Fr.app N0 N3q
  refine own_via st3 ?_
  have K3 : Keep h0 T3.heap [a] := K2.trans Kc3 (allS (P := fun x => x ∈ _ ∨ _ ≤ x) (Or.inr (Nat.le_of_eq g2.symm)) all0)
  have O3 := O2.keep Kc3 (allS (P := fun x => n0 ≤ x) (Nat.le_trans Z0 (Nat.le_of_eq g2.symm)) all0)
  obtain ⟨T4, h4, X4, e4, W4, st4⟩ := putF X3 hx hZ hown (host := "") (Or.inl (own_w hw 34 rfl)) Via.refl rfl ((u8.ext E2).keep Kc3 (ninS (Nat.ne_of_lt (Nat.lt_of_lt_of_le u7.lt (Nat.le_of_eq g2.symm))) nin0)) ((u7.ext E2).keep Kc3) (Or.inr ⟨(own_w hw 35 rfl), rfl, hnm⟩) (own_w hw 2 rfl) (ty := (.object "java/util/List")) (by decide) rfl rfl (g := (mkF m 12 #[.val (.ref a), .val (.int n), .val (.int (1 : Int32)), .val (.int (1 : Int32)), .unset] [(.ref b2), (.ref a)])) rfl rfl (hb hby d1_12)
  have Fw4 : Fld Z h4 a "com/example/kneiphof/kneiphof/Assignment" "spares" "Ljava/util/List;" (.ref b2) := ((u8.ext E2).keep Kc3 (ninS (Nat.ne_of_lt (Nat.lt_of_lt_of_le u7.lt (Nat.le_of_eq g2.symm))) nin0)).same W4
  refine own_go st4 ?_
  have K4 : Keep h0 h4 [a] := K3.wr W4 (Or.inl (List.mem_of_getElem? (i := 0) rfl))
  have O4 := O3.wr W4 u14
  have N4 := Fr.snoc X4 N3 u14
  refine own_go (A := T4.setTop (mkF m 17 #[.val (.ref a), .val (.int n), .val (.int (1 : Int32)), .val (.int (1 : Int32)), .unset] [(.int n), (.ref a)])) (fun t_ k_ => ?_) ?_
  · show Steps p.tables e below (T4.setTop (mkF m 15 #[.val (.ref a), .val (.int n), .val (.int (1 : Int32)), .val (.int (1 : Int32)), .unset] [])) t_
    refine XS.aloadN X4.here hx rfl (hb hby d1_15) rfl rfl ?_
    refine XS.iloadN X4.here hx rfl (hb hby d1_16) rfl ?_
    exact k_
  obtain ⟨T5, h5, X5, e5, W5, st5⟩ := putF X4 hx hZ hown (host := "") (Or.inl (own_w hw 36 rfl)) Via.refl e4 (((u9.ext E2).keep Kc3 (ninS (Nat.ne_of_lt (Nat.lt_of_lt_of_le u7.lt (Nat.le_of_eq g2.symm))) nin0)).other W4 (Or.inr (slot_ne (Or.inr (own_w hw 37 rfl)) (Or.inr (own_w hw 35 rfl)) (by decide) (t := .int) (t' := (.object "java/util/List")) (by decide) (by decide)))) (((u7.ext E2).keep Kc3).wr W4) (Or.inr ⟨(own_w hw 37 rfl), rfl, hnm⟩) (own_w hw 2 rfl) (ty := .int) (by decide) rfl rfl (g := (mkF m 17 #[.val (.ref a), .val (.int n), .val (.int (1 : Int32)), .val (.int (1 : Int32)), .unset] [(.int n), (.ref a)])) rfl rfl (hb hby d1_17)
  have Fw5 : Fld Z h5 a "com/example/kneiphof/kneiphof/Assignment" "partitions" "I" (.int n) := (((u9.ext E2).keep Kc3 (ninS (Nat.ne_of_lt (Nat.lt_of_lt_of_le u7.lt (Nat.le_of_eq g2.symm))) nin0)).other W4 (Or.inr (slot_ne (Or.inr (own_w hw 37 rfl)) (Or.inr (own_w hw 35 rfl)) (by decide) (t := .int) (t' := (.object "java/util/List")) (by decide) (by decide)))).same W5
  refine own_go st5 ?_
  have K5 : Keep h0 h5 [a] := K4.wr W5 (Or.inl (List.mem_of_getElem? (i := 0) rfl))
  have O5 := O4.wr W5 u14
  have N5 := Fr.snoc X5 N4 u14
  refine own_go (A := T5.setTop (mkF m 22 #[.val (.ref a), .val (.int n), .val (.int (1 : Int32)), .val (.int (1 : Int32)), .unset] [(.int (1 : Int32)), (.ref a)])) (fun t_ k_ => ?_) ?_
  · show Steps p.tables e below (T5.setTop (mkF m 20 #[.val (.ref a), .val (.int n), .val (.int (1 : Int32)), .val (.int (1 : Int32)), .unset] [])) t_
    refine XS.aloadN X5.here hx rfl (hb hby d1_20) rfl rfl ?_
    refine XS.iloadN X5.here hx rfl (hb hby d1_21) rfl ?_
    exact k_
  obtain ⟨T6, h6, X6, e6, W6, st6⟩ := putF X5 hx hZ hown (host := "") (Or.inl (own_w hw 38 rfl)) Via.refl e5 ((((u10.ext E2).keep Kc3 (ninS (Nat.ne_of_lt (Nat.lt_of_lt_of_le u7.lt (Nat.le_of_eq g2.symm))) nin0)).other W4 (Or.inr (slot_ne (Or.inr (own_w hw 39 rfl)) (Or.inr (own_w hw 35 rfl)) (by decide) (t := .int) (t' := (.object "java/util/List")) (by decide) (by decide)))).other W5 (Or.inr (slot_ne (Or.inr (own_w hw 39 rfl)) (Or.inr (own_w hw 37 rfl)) (by decide) (t := .int) (t' := .int) (by decide) (by decide)))) ((((u7.ext E2).keep Kc3).wr W4).wr W5) (Or.inr ⟨(own_w hw 39 rfl), rfl, hnm⟩) (own_w hw 2 rfl) (ty := .int) (by decide) rfl rfl (g := (mkF m 22 #[.val (.ref a), .val (.int n), .val (.int (1 : Int32)), .val (.int (1 : Int32)), .unset] [(.int (1 : Int32)), (.ref a)])) rfl rfl (hb hby d1_22)
  have Fw6 : Fld Z h6 a "com/example/kneiphof/kneiphof/Assignment" "replicas" "I" (.int (1 : Int32)) := ((((u10.ext E2).keep Kc3 (ninS (Nat.ne_of_lt (Nat.lt_of_lt_of_le u7.lt (Nat.le_of_eq g2.symm))) nin0)).other W4 (Or.inr (slot_ne (Or.inr (own_w hw 39 rfl)) (Or.inr (own_w hw 35 rfl)) (by decide) (t := .int) (t' := (.object "java/util/List")) (by decide) (by decide)))).other W5 (Or.inr (slot_ne (Or.inr (own_w hw 39 rfl)) (Or.inr (own_w hw 37 rfl)) (by decide) (t := .int) (t' := .int) (by decide) (by decide)))).same W6
  refine own_go st6 ?_
  have K6 : Keep h0 h6 [a] := K5.wr W6 (Or.inl (List.mem_of_getElem? (i := 0) rfl))
  have O6 := O5.wr W6 u14
  have N6 := Fr.snoc X6 N5 u14
  refine own_go (A := T6.setTop (mkF m 29 #[.val (.ref a), .val (.int n), .val (.int (1 : Int32)), .val (.int (1 : Int32)), .unset] [(.int (n * (1 : Int32))), (.ref a)])) (fun t_ k_ => ?_) ?_
  · show Steps p.tables e below (T6.setTop (mkF m 25 #[.val (.ref a), .val (.int n), .val (.int (1 : Int32)), .val (.int (1 : Int32)), .unset] [])) t_
    refine XS.aloadN X6.here hx rfl (hb hby d1_25) rfl rfl ?_
    refine XS.iloadN X6.here hx rfl (hb hby d1_26) rfl ?_
    refine XS.iloadN X6.here hx rfl (hb hby d1_27) rfl ?_
    refine XS.imul X6.here hx rfl (hb hby d1_28) rfl ?_
    exact k_
  obtain ⟨T7, h7, k7, X7, e7, E7, A7, fc7, st7⟩ := own_newI X6 hx hZ (own_w hw 40 rfl) e6 (g := (mkF m 29 #[.val (.ref a), .val (.int n), .val (.int (1 : Int32)), .val (.int (1 : Int32)), .unset] [(.int (n * (1 : Int32))), (.ref a)])) rfl (hb hby d1_29) rfl (own_n0 (by rw [own_nr1 hn]; omega)) (cap := 16) (by have h := own_nr1 hn; have q := own_tn (x := (n * (1 : Int32))) (by omega); omega) (by decide) (by decide) (by decide)
  obtain ⟨b7, g7⟩ : ∃ z, z = h6.size := ⟨_, rfl⟩
  rw [← g7] at A7 st7
  refine own_go st7 ?_
  have K7 : Keep h0 h7 [a] := K6.ext E7
  have O7 := O6.ext E7
  obtain ⟨vs7, hvs7⟩ : ∃ z_ : List Value, z_ = List.replicate ((n * (1 : Int32))).toNatClampNeg (.int (0 : Int32)) := ⟨_, rfl⟩
  have B7 : Arv Z h7 b7 k7 .int (n * (1 : Int32)) vs7 (.int (0 : Int32)) := hvs7 ▸ (Arv.new A7 (own_n0 (by rw [own_nr1 hn]; omega))).pad (pad_rep [] (.int (0 : Int32)) _)
  have ln7 : vs7.length = ((n * (1 : Int32))).toNatClampNeg := by rw [hvs7]; exact List.length_replicate
  obtain ⟨T8, h8, X8, e8, W8, st8⟩ := putF X7 hx hZ hown (host := "") (Or.inl (own_w hw 41 rfl)) Via.refl e7 ((((((u11.ext E2).keep Kc3 (ninS (Nat.ne_of_lt (Nat.lt_of_lt_of_le u7.lt (Nat.le_of_eq g2.symm))) nin0)).other W4 (Or.inr (slot_ne (Or.inr (own_w hw 42 rfl)) (Or.inr (own_w hw 35 rfl)) (by decide) (t := (.array .int)) (t' := (.object "java/util/List")) (by decide) (by decide)))).other W5 (Or.inr (slot_ne (Or.inr (own_w hw 42 rfl)) (Or.inr (own_w hw 37 rfl)) (by decide) (t := (.array .int)) (t' := .int) (by decide) (by decide)))).other W6 (Or.inr (slot_ne (Or.inr (own_w hw 42 rfl)) (Or.inr (own_w hw 39 rfl)) (by decide) (t := (.array .int)) (t' := .int) (by decide) (by decide)))).ext E7) ((((((u7.ext E2).keep Kc3).wr W4).wr W5).wr W6).ext E7) (Or.inr ⟨(own_w hw 42 rfl), rfl, hnm⟩) (own_w hw 2 rfl) (ty := (.array .int)) (by decide) rfl rfl (g := (mkF m 31 #[.val (.ref a), .val (.int n), .val (.int (1 : Int32)), .val (.int (1 : Int32)), .unset] [(.ref b7), (.ref a)])) rfl rfl (hb hby d1_31)
  have Fw8 : Fld Z h8 a "com/example/kneiphof/kneiphof/Assignment" "workers" "[I" (.ref b7) := ((((((u11.ext E2).keep Kc3 (ninS (Nat.ne_of_lt (Nat.lt_of_lt_of_le u7.lt (Nat.le_of_eq g2.symm))) nin0)).other W4 (Or.inr (slot_ne (Or.inr (own_w hw 42 rfl)) (Or.inr (own_w hw 35 rfl)) (by decide) (t := (.array .int)) (t' := (.object "java/util/List")) (by decide) (by decide)))).other W5 (Or.inr (slot_ne (Or.inr (own_w hw 42 rfl)) (Or.inr (own_w hw 37 rfl)) (by decide) (t := (.array .int)) (t' := .int) (by decide) (by decide)))).other W6 (Or.inr (slot_ne (Or.inr (own_w hw 42 rfl)) (Or.inr (own_w hw 39 rfl)) (by decide) (t := (.array .int)) (t' := .int) (by decide) (by decide)))).ext E7).same W8
  refine own_go st8 ?_
  have K8 : Keep h0 h8 [a] := K7.wr W8 (Or.inl (List.mem_of_getElem? (i := 0) rfl))
  have O8 := O7.wr W8 u14
  have N8 := Fr.snoc X8 N6 u14
  refine own_go (A := T8.setTop (mkF m 36 #[.val (.ref a), .val (.int n), .val (.int (1 : Int32)), .val (.int (1 : Int32)), .unset] [(.ref a), (.ref a)])) (fun t_ k_ => ?_) ?_
  · show Steps p.tables e below (T8.setTop (mkF m 34 #[.val (.ref a), .val (.int n), .val (.int (1 : Int32)), .val (.int (1 : Int32)), .unset] [])) t_
    refine XS.aloadN X8.here hx rfl (hb hby d1_34) rfl rfl ?_
    refine XS.aloadN X8.here hx rfl (hb hby d1_35) rfl rfl ?_
    exact k_
  obtain ⟨T9, X9, e9, st9⟩ := getF X8 hx hZ hown (host := "") (Or.inl (own_w hw 41 rfl)) Via.refl e8 Fw8 (g := (mkF m 36 #[.val (.ref a), .val (.int n), .val (.int (1 : Int32)), .val (.int (1 : Int32)), .unset] [(.ref a), (.ref a)])) rfl rfl (hb hby d1_36)
  refine own_go st9 ?_
  obtain ⟨cl10, Ar10, q10, S10, M10, H10, G10⟩ := id (B7.other W8 (Ne.symm (Nat.ne_of_lt (Nat.lt_of_lt_of_le Fw6.lt (Nat.le_of_eq g7.symm)))))
  refine own_go (A := T9.setTop (mkF m 42 #[.val (.ref a), .val (.int n), .val (.int (1 : Int32)), .val (.int (1 : Int32)), .unset] [(.int ((n * (1 : Int32)) + (1 : Int32))), (.ref a)])) (fun t_ k_ => ?_) ?_
  · show Steps p.tables e below (T9.setTop (mkF m 39 #[.val (.ref a), .val (.int n), .val (.int (1 : Int32)), .val (.int (1 : Int32)), .unset] [(.ref b7), (.ref a)])) t_
    refine X9.arraylength hx (by rw [e9]; exact Ar10.1) (State.isArrayOf_alike hZ.alike Ar10.2.1) (g := (mkF m 39 #[.val (.ref a), .val (.int n), .val (.int (1 : Int32)), .val (.int (1 : Int32)), .unset] [(.ref b7), (.ref a)])) rfl rfl (hb hby d1_39) _ ?_
    rw [len_of S10 M10]
    refine XS.iloadN X9.here hx rfl (hb hby d1_40) rfl ?_
    refine XS.iadd X9.here hx rfl (hb hby d1_41) rfl ?_
    exact k_
  obtain ⟨T11, h11, k11, X11, e11, E11, A11, st11⟩ := newP X9 hx hZ (own_w hw 40 rfl) e9 (g := (mkF m 42 #[.val (.ref a), .val (.int n), .val (.int (1 : Int32)), .val (.int (1 : Int32)), .unset] [(.int ((n * (1 : Int32)) + (1 : Int32))), (.ref a)])) rfl (hb hby d1_42) rfl (own_n0 (by rw [own_ns1 hn]; omega)) (cap := 20) (by have h := own_ns1 hn; have q := own_tn (x := ((n * (1 : Int32)) + (1 : Int32))) (by omega); omega) (by decide) (by decide) (by decide)
  obtain ⟨b11, g11⟩ : ∃ z, z = h8.size := ⟨_, rfl⟩
  rw [← g11] at A11 st11
  refine own_go st11 ?_
  have K11 : Keep h0 h11 [a] := K8.ext E11
  have O11 := O8.ext E11
  obtain ⟨vs11, hvs11⟩ : ∃ z_ : List Value, z_ = List.replicate (((n * (1 : Int32)) + (1 : Int32))).toNatClampNeg (.int (0 : Int32)) := ⟨_, rfl⟩
  have B11 : Arv Z h11 b11 k11 .int ((n * (1 : Int32)) + (1 : Int32)) vs11 (.int (0 : Int32)) := hvs11 ▸ (Arv.new A11 (own_n0 (by rw [own_ns1 hn]; omega))).pad (pad_rep [] (.int (0 : Int32)) _)
  have ln11 : vs11.length = (((n * (1 : Int32)) + (1 : Int32))).toNatClampNeg := by rw [hvs11]; exact List.length_replicate
  obtain ⟨T12, h12, X12, e12, W12, st12⟩ := putF X11 hx hZ hown (host := "") (Or.inl (own_w hw 43 rfl)) Via.refl e11 ((((((((u12.ext E2).keep Kc3 (ninS (Nat.ne_of_lt (Nat.lt_of_lt_of_le u7.lt (Nat.le_of_eq g2.symm))) nin0)).other W4 (Or.inr (slot_ne (Or.inr (own_w hw 44 rfl)) (Or.inr (own_w hw 35 rfl)) (by decide) (t := (.array .int)) (t' := (.object "java/util/List")) (by decide) (by decide)))).other W5 (Or.inr (slot_ne (Or.inr (own_w hw 44 rfl)) (Or.inr (own_w hw 37 rfl)) (by decide) (t := (.array .int)) (t' := .int) (by decide) (by decide)))).other W6 (Or.inr (slot_ne (Or.inr (own_w hw 44 rfl)) (Or.inr (own_w hw 39 rfl)) (by decide) (t := (.array .int)) (t' := .int) (by decide) (by decide)))).ext E7).other W8 (Or.inr (slot_ne (Or.inr (own_w hw 44 rfl)) (Or.inr (own_w hw 42 rfl)) (by decide) (t := (.array .int)) (t' := (.array .int)) (by decide) (by decide)))).ext E11) ((((((((u7.ext E2).keep Kc3).wr W4).wr W5).wr W6).ext E7).wr W8).ext E11) (Or.inr ⟨(own_w hw 44 rfl), rfl, hnm⟩) (own_w hw 2 rfl) (ty := (.array .int)) (by decide) rfl rfl (g := (mkF m 44 #[.val (.ref a), .val (.int n), .val (.int (1 : Int32)), .val (.int (1 : Int32)), .unset] [(.ref b11), (.ref a)])) rfl rfl (hb hby d1_44)
  have Fw12 : Fld Z h12 a "com/example/kneiphof/kneiphof/Assignment" "slots" "[I" (.ref b11) := ((((((((u12.ext E2).keep Kc3 (ninS (Nat.ne_of_lt (Nat.lt_of_lt_of_le u7.lt (Nat.le_of_eq g2.symm))) nin0)).other W4 (Or.inr (slot_ne (Or.inr (own_w hw 44 rfl)) (Or.inr (own_w hw 35 rfl)) (by decide) (t := (.array .int)) (t' := (.object "java/util/List")) (by decide) (by decide)))).other W5 (Or.inr (slot_ne (Or.inr (own_w hw 44 rfl)) (Or.inr (own_w hw 37 rfl)) (by decide) (t := (.array .int)) (t' := .int) (by decide) (by decide)))).other W6 (Or.inr (slot_ne (Or.inr (own_w hw 44 rfl)) (Or.inr (own_w hw 39 rfl)) (by decide) (t := (.array .int)) (t' := .int) (by decide) (by decide)))).ext E7).other W8 (Or.inr (slot_ne (Or.inr (own_w hw 44 rfl)) (Or.inr (own_w hw 42 rfl)) (by decide) (t := (.array .int)) (t' := (.array .int)) (by decide) (by decide)))).ext E11).same W12
  refine own_go st12 ?_
  have K12 : Keep h0 h12 [a] := K11.wr W12 (Or.inl (List.mem_of_getElem? (i := 0) rfl))
  have O12 := O11.wr W12 u14
  have N12 := Fr.snoc X12 N8 u14
  refine own_go (A := T12.setTop (mkF m 48 #[.val (.ref a), .val (.int n), .val (.int (1 : Int32)), .val (.int (1 : Int32)), .unset] [(.ref a)])) (fun t_ k_ => ?_) ?_
  · show Steps p.tables e below (T12.setTop (mkF m 47 #[.val (.ref a), .val (.int n), .val (.int (1 : Int32)), .val (.int (1 : Int32)), .unset] [])) t_
    refine XS.aloadN X12.here hx rfl (hb hby d1_47) rfl rfl ?_
    exact k_
  obtain ⟨T13, X13, e13, st13⟩ := getF X12 hx hZ hown (host := "") (Or.inl (own_w hw 43 rfl)) Via.refl e12 Fw12 (g := (mkF m 48 #[.val (.ref a), .val (.int n), .val (.int (1 : Int32)), .val (.int (1 : Int32)), .unset] [(.ref a)])) rfl rfl (hb hby d1_48)
  refine own_go st13 ?_
  refine own_go (A := T13.setTop (mkF m 52 #[.val (.ref a), .val (.int n), .val (.int (1 : Int32)), .val (.int (1 : Int32)), .unset] [(.int (-1 : Int32)), (.ref b11)])) (fun t_ k_ => ?_) ?_
  · show Steps p.tables e below (T13.setTop (mkF m 51 #[.val (.ref a), .val (.int n), .val (.int (1 : Int32)), .val (.int (1 : Int32)), .unset] [(.ref b11)])) t_
    refine XS.iconst X13.here hx rfl (hb hby d1_51) ?_
    exact k_
  obtain ⟨_, _, ⟨T14, L14, k14, n14⟩, -, X14, ⟨Lc14, hQ14, l14, y14, z14⟩, st14⟩ := Jvm.LawKit.callS X13 hx (y := own_y0) hown (mvT hZ (own_w hw 45 rfl)) (mvT hZ (own_w hw 46 rfl)) (mvT hZ (own_w hw 47 rfl)) (mvT hZ (own_w hw 48 rfl)) (by decide) (backOf (W := 0) (rmFill l Z a0 hw [] b11 (-1 : Int32) k11 ((n * (1 : Int32)) + (1 : Int32)) vs11 h12 n0 (Nat.le_trans Z0 K12.1) (B11.other W12 (Ne.symm (Nat.ne_of_lt (Nat.lt_of_lt_of_le Fw8.lt (Nat.le_of_eq g11.symm))))) (Nat.le_trans Z0 (Nat.le_trans K8.1 (Nat.le_of_eq g11.symm))) ln11 (by rw [own_ns1 hn]; omega)) hZ (own_w hw 48 rfl) (own_w hw 47 rfl) (by decide) (by decide)) (g := (mkF m 52 #[.val (.ref a), .val (.int n), .val (.int (1 : Int32)), .val (.int (1 : Int32)), .unset] [(.int (-1 : Int32)), (.ref b11)])) rfl (by rw [hml]; rfl) (argsL := [(.ref b11), (.int (-1 : Int32))]) (rest := []) (lenOf pd_7 rfl) rfl (by show 2 * 0 + _ ≤ _; exact Nat.le_of_eq rfl) (hb hby d1_52) (fun _ _ => ⟨rfl, e13, (by decide : 3 + 0 ≤ _), (by decide : 39 + 0 ≤ _)⟩)
  dsimp only [Pt.U, Pt.locs, Pt.cells, Pt.slots] at X14 l14 y14 z14 st14 hQ14
  subst l14 y14 z14
  obtain ⟨vr_14, rfl, N14q, Kc14, r14_0, w14_0⟩ := hQ14
  have N14 := Fr.app N12 N14q
  refine own_go st14 ?_
  have K14 : Keep h0 T14.heap [a] := K12.trans Kc14 (allS (P := fun x => x ∈ _ ∨ _ ≤ x) (Or.inr (Nat.le_trans K8.1 (Nat.le_of_eq g11.symm))) all0)
  have O14 := O12.keep Kc14 (allS (P := fun x => n0 ≤ x) (Nat.le_trans Z0 (Nat.le_trans K8.1 (Nat.le_of_eq g11.symm))) all0)
  refine own_go (A := T14.setTop (mkF m 58 #[.val (.ref a), .val (.int n), .val (.int (1 : Int32)), .val (.int (1 : Int32)), .val (.int (0 : Int32))] [])) (fun t_ k_ => ?_) ?_
  · show Steps p.tables e below (T14.setTop (mkF m 55 #[.val (.ref a), .val (.int n), .val (.int (1 : Int32)), .val (.int (1 : Int32)), .unset] [])) t_
    refine XS.iconst X14.here hx rfl (hb hby d1_55) ?_
    refine XS.istore X14.here hx rfl (hb hby d1_56) rfl (l' := #[.val (.ref a), .val (.int n), .val (.int (1 : Int32)), .val (.int (1 : Int32)), .val (.int (0 : Int32))]) rfl ?_
    exact k_
  exact own_ini1 l Z a0 hw a n dc kd ca bxc el b2 b7 b11 k7 k11 h0 n0 Z0 hx hZ hby hml hown Bd.returns (BodyLoose.notSynchronized Bd) hh (((n * (1 : Int32))).toInt).toNat T14 T14.heap _ (0 : Int32) vs7 vr_14 X14 rfl N14 K14 O14 u1 u2 u3 u4 u6 ((((((((((u7.ext E2).keep Kc3).wr W4).wr W5).wr W6).ext E7).wr W8).ext E11).wr W12).keep Kc14) (((((((Fw4.other W5 (Or.inr (slot_ne (Or.inr (own_w hw 35 rfl)) (Or.inr (own_w hw 37 rfl)) (by decide) (t := (.object "java/util/List")) (t' := .int) (by decide) (by decide)))).other W6 (Or.inr (slot_ne (Or.inr (own_w hw 35 rfl)) (Or.inr (own_w hw 39 rfl)) (by decide) (t := (.object "java/util/List")) (t' := .int) (by decide) (by decide)))).ext E7).other W8 (Or.inr (slot_ne (Or.inr (own_w hw 35 rfl)) (Or.inr (own_w hw 42 rfl)) (by decide) (t := (.object "java/util/List")) (t' := (.array .int)) (by decide) (by decide)))).ext E11).other W12 (Or.inr (slot_ne (Or.inr (own_w hw 35 rfl)) (Or.inr (own_w hw 44 rfl)) (by decide) (t := (.object "java/util/List")) (t' := (.array .int)) (by decide) (by decide)))).keep Kc14 (ninS (Nat.ne_of_lt (Nat.lt_of_lt_of_le Fw8.lt (Nat.le_of_eq g11.symm))) nin0)) ((((((Fw5.other W6 (Or.inr (slot_ne (Or.inr (own_w hw 37 rfl)) (Or.inr (own_w hw 39 rfl)) (by decide) (t := .int) (t' := .int) (by decide) (by decide)))).ext E7).other W8 (Or.inr (slot_ne (Or.inr (own_w hw 37 rfl)) (Or.inr (own_w hw 42 rfl)) (by decide) (t := .int) (t' := (.array .int)) (by decide) (by decide)))).ext E11).other W12 (Or.inr (slot_ne (Or.inr (own_w hw 37 rfl)) (Or.inr (own_w hw 44 rfl)) (by decide) (t := .int) (t' := (.array .int)) (by decide) (by decide)))).keep Kc14 (ninS (Nat.ne_of_lt (Nat.lt_of_lt_of_le Fw8.lt (Nat.le_of_eq g11.symm))) nin0)) (((((Fw6.ext E7).other W8 (Or.inr (slot_ne (Or.inr (own_w hw 39 rfl)) (Or.inr (own_w hw 42 rfl)) (by decide) (t := .int) (t' := (.array .int)) (by decide) (by decide)))).ext E11).other W12 (Or.inr (slot_ne (Or.inr (own_w hw 39 rfl)) (Or.inr (own_w hw 44 rfl)) (by decide) (t := .int) (t' := (.array .int)) (by decide) (by decide)))).keep Kc14 (ninS (Nat.ne_of_lt (Nat.lt_of_lt_of_le Fw8.lt (Nat.le_of_eq g11.symm))) nin0)) (((Fw8.ext E11).other W12 (Or.inr (slot_ne (Or.inr (own_w hw 42 rfl)) (Or.inr (own_w hw 44 rfl)) (by decide) (t := (.array .int)) (t' := (.array .int)) (by decide) (by decide)))).keep Kc14 (ninS (Nat.ne_of_lt (Nat.lt_of_lt_of_le Fw8.lt (Nat.le_of_eq g11.symm))) nin0)) (Fw12.keep Kc14 (ninS (Nat.ne_of_lt (Nat.lt_of_lt_of_le Fw8.lt (Nat.le_of_eq g11.symm))) nin0)) ((((((((((u13.ext E2).keep Kc3 (ninS (Nat.ne_of_lt (Nat.lt_of_lt_of_le u7.lt (Nat.le_of_eq g2.symm))) nin0)).other W4 (Or.inr (slot_ne (Or.inl (own_w hw 112 rfl)) (Or.inr (own_w hw 35 rfl)) (by decide) (t := (.object "com/example/kneiphof/kneiphof/Partitioning")) (t' := (.object "java/util/List")) (by decide) (by decide)))).other W5 (Or.inr (slot_ne (Or.inl (own_w hw 112 rfl)) (Or.inr (own_w hw 37 rfl)) (by decide) (t := (.object "com/example/kneiphof/kneiphof/Partitioning")) (t' := .int) (by decide) (by decide)))).other W6 (Or.inr (slot_ne (Or.inl (own_w hw 112 rfl)) (Or.inr (own_w hw 39 rfl)) (by decide) (t := (.object "com/example/kneiphof/kneiphof/Partitioning")) (t' := .int) (by decide) (by decide)))).ext E7).other W8 (Or.inr (slot_ne (Or.inl (own_w hw 112 rfl)) (Or.inr (own_w hw 42 rfl)) (by decide) (t := (.object "com/example/kneiphof/kneiphof/Partitioning")) (t' := (.array .int)) (by decide) (by decide)))).ext E11).other W12 (Or.inr (slot_ne (Or.inl (own_w hw 112 rfl)) (Or.inr (own_w hw 44 rfl)) (by decide) (t := (.object "com/example/kneiphof/kneiphof/Partitioning")) (t' := (.array .int)) (by decide) (by decide)))).keep Kc14 (ninS (Nat.ne_of_lt (Nat.lt_of_lt_of_le Fw8.lt (Nat.le_of_eq g11.symm))) nin0)) (((((((((A2.keep Kc3).wr W4).wr W5).wr W6).ext E7).wr W8).ext E11).wr W12).keep Kc14) ((((((((r3_0.other W4 (Or.inl (Ne.symm (Nat.ne_of_lt (Nat.lt_of_lt_of_le u7.lt (Nat.le_of_eq g2.symm)))))).other W5 (Or.inl (Ne.symm (Nat.ne_of_lt (Nat.lt_of_lt_of_le u7.lt (Nat.le_of_eq g2.symm)))))).other W6 (Or.inl (Ne.symm (Nat.ne_of_lt (Nat.lt_of_lt_of_le u7.lt (Nat.le_of_eq g2.symm)))))).ext E7).other W8 (Or.inl (Ne.symm (Nat.ne_of_lt (Nat.lt_of_lt_of_le u7.lt (Nat.le_of_eq g2.symm)))))).ext E11).other W12 (Or.inl (Ne.symm (Nat.ne_of_lt (Nat.lt_of_lt_of_le u7.lt (Nat.le_of_eq g2.symm)))))).keep Kc14 (ninS (Nat.ne_of_lt (Nat.lt_of_lt_of_le (Nat.lt_of_lt_of_le (Nat.lt_of_lt_of_le (Nat.lt_of_lt_of_le (Nat.lt_of_lt_of_le (Nat.lt_of_lt_of_le r3_0.lt (Keep.of_wr W4).1) (Keep.of_wr W5).1) (Keep.of_wr W6).1) E7.1) (Keep.of_wr W8).1) (Nat.le_of_eq g11.symm))) nin0)) ((((((((r3_1.other W4 (Or.inl (Ne.symm (Nat.ne_of_lt (Nat.lt_of_lt_of_le u7.lt (Nat.le_of_eq g2.symm)))))).other W5 (Or.inl (Ne.symm (Nat.ne_of_lt (Nat.lt_of_lt_of_le u7.lt (Nat.le_of_eq g2.symm)))))).other W6 (Or.inl (Ne.symm (Nat.ne_of_lt (Nat.lt_of_lt_of_le u7.lt (Nat.le_of_eq g2.symm)))))).ext E7).other W8 (Or.inl (Ne.symm (Nat.ne_of_lt (Nat.lt_of_lt_of_le u7.lt (Nat.le_of_eq g2.symm)))))).ext E11).other W12 (Or.inl (Ne.symm (Nat.ne_of_lt (Nat.lt_of_lt_of_le u7.lt (Nat.le_of_eq g2.symm)))))).keep Kc14 (ninS (Nat.ne_of_lt (Nat.lt_of_lt_of_le (Nat.lt_of_lt_of_le (Nat.lt_of_lt_of_le (Nat.lt_of_lt_of_le (Nat.lt_of_lt_of_le (Nat.lt_of_lt_of_le r3_0.lt (Keep.of_wr W4).1) (Keep.of_wr W5).1) (Keep.of_wr W6).1) E7.1) (Keep.of_wr W8).1) (Nat.le_of_eq g11.symm))) nin0)) ((((((((r3_2.other W4 (Or.inl (Ne.symm (Nat.ne_of_lt (Nat.lt_of_lt_of_le u7.lt (Nat.le_of_eq g2.symm)))))).other W5 (Or.inl (Ne.symm (Nat.ne_of_lt (Nat.lt_of_lt_of_le u7.lt (Nat.le_of_eq g2.symm)))))).other W6 (Or.inl (Ne.symm (Nat.ne_of_lt (Nat.lt_of_lt_of_le u7.lt (Nat.le_of_eq g2.symm)))))).ext E7).other W8 (Or.inl (Ne.symm (Nat.ne_of_lt (Nat.lt_of_lt_of_le u7.lt (Nat.le_of_eq g2.symm)))))).ext E11).other W12 (Or.inl (Ne.symm (Nat.ne_of_lt (Nat.lt_of_lt_of_le u7.lt (Nat.le_of_eq g2.symm)))))).keep Kc14 (ninS (Nat.ne_of_lt (Nat.lt_of_lt_of_le (Nat.lt_of_lt_of_le (Nat.lt_of_lt_of_le (Nat.lt_of_lt_of_le (Nat.lt_of_lt_of_le (Nat.lt_of_lt_of_le r3_0.lt (Keep.of_wr W4).1) (Keep.of_wr W5).1) (Keep.of_wr W6).1) E7.1) (Keep.of_wr W8).1) (Nat.le_of_eq g11.symm))) nin0)) ((((B7.other W8 (Ne.symm (Nat.ne_of_lt (Nat.lt_of_lt_of_le Fw6.lt (Nat.le_of_eq g7.symm))))).ext E11).other W12 (Ne.symm (Nat.ne_of_lt (Nat.lt_of_lt_of_le Fw6.lt (Nat.le_of_eq g7.symm))))).keep Kc14 (ninS (Nat.ne_of_lt (Nat.lt_of_lt_of_le (Nat.lt_of_lt_of_le B7.lt (Keep.of_wr W8).1) (Nat.le_of_eq g11.symm))) nin0)) r14_0 u14 (Nat.le_trans Z0 (Nat.le_trans K6.1 (Nat.le_of_eq g7.symm))) (Nat.le_trans K6.1 (Nat.le_of_eq g7.symm)) (Nat.le_trans Z0 (Nat.le_trans K8.1 (Nat.le_of_eq g11.symm))) (Nat.le_trans K8.1 (Nat.le_of_eq g11.symm)) (Nat.le_trans Z0 (Nat.le_of_eq g2.symm)) (Nat.le_of_eq g2.symm) (Nat.ne_of_lt (Nat.lt_of_lt_of_le (Nat.lt_of_lt_of_le B7.lt (Keep.of_wr W8).1) (Nat.le_of_eq g11.symm))) (Nat.ne_of_lt (Nat.lt_of_lt_of_le Fw6.lt (Nat.le_of_eq g7.symm))) (Nat.ne_of_lt (Nat.lt_of_lt_of_le Fw8.lt (Nat.le_of_eq g11.symm))) (Nat.ne_of_lt (Nat.lt_of_lt_of_le (Nat.lt_of_lt_of_le (Nat.lt_of_lt_of_le (Nat.lt_of_lt_of_le r3_0.lt (Keep.of_wr W4).1) (Keep.of_wr W5).1) (Keep.of_wr W6).1) (Nat.le_of_eq g7.symm))) (Nat.ne_of_lt (Nat.lt_of_lt_of_le (Nat.lt_of_lt_of_le (Nat.lt_of_lt_of_le (Nat.lt_of_lt_of_le (Nat.lt_of_lt_of_le (Nat.lt_of_lt_of_le r3_0.lt (Keep.of_wr W4).1) (Keep.of_wr W5).1) (Keep.of_wr W6).1) E7.1) (Keep.of_wr W8).1) (Nat.le_of_eq g11.symm))) (Nat.ne_of_lt (Nat.lt_of_lt_of_le u7.lt (Nat.le_of_eq g2.symm))) hbx hn fc7 (by show (0 : Int) + _ = _; have := own_nr1 hn; omega) (Int.le_refl 0) ln7 w14_0 (fun j hj => absurd hj (by show ¬ ((j : Int) < 0); omega))
def Q_rmIni2 (Z : State) (a : Addr) (n : Int32) (dc : Addr) (kd : ClassId) (ca : Addr) (bxc : Cell) (el : Addr) (h0 : Heap) (n0 : Nat) (v_ : Option Value) (h_ : Heap) (L_ : List Loc) : Prop := ∃ wk : Addr, ∃ kw : ClassId, ∃ sl : Addr, ∃ ks : ClassId, ∃ al : Addr, ∃ ed : Addr, ∃ kk : ClassId, ∃ mc : Int32, ∃ vw : List Value, ∃ vu : List Value, ∃ x0_ : Addr, ∃ x1_ : Addr, v_ = none ∧ Fr n0 L_ ∧ Keep h0 h_ [a] ∧ h0.size ≤ wk ∧ h0.size ≤ sl ∧ h0.size ≤ al ∧ h0.size ≤ ed ∧ Fld Z h_ a "com/example/kneiphof/kneiphof/Assignment" "workers" "[I" (.ref wk) ∧ Fld Z h_ a "com/example/kneiphof/kneiphof/Assignment" "slots" "[I" (.ref sl) ∧ Fld Z h_ a "com/example/kneiphof/kneiphof/Assignment" "spares" "Ljava/util/List;" (.ref al) ∧ Fld Z h_ a "com/example/kneiphof/kneiphof/Assignment" "replicas" "I" (.int (2 : Int32)) ∧ Arv Z h_ wk kw .int (n * (2 : Int32)) vw (.int (0 : Int32)) ∧ Arv Z h_ sl ks .int ((n * (2 : Int32)) + (2 : Int32)) vu (.int (0 : Int32)) ∧ Exa Z h_ al "java/util/ArrayList" ∧ Fld Z h_ al "java/util/ArrayList" "elementData" "[Ljava/lang/Object;" (.ref ed) ∧ Fld Z h_ al "java/util/ArrayList" "size" "I" (.int (2 : Int32)) ∧ Fld Z h_ al "java/util/AbstractList" "modCount" "I" (.int mc) ∧ Arv Z h_ ed kk (.object "java/lang/Object") (10 : Int32) [(.ref x0_), (.ref x1_), .null, .null, .null, .null, .null, .null, .null, .null] .null ∧ Ovr Z kk "java/lang/Object" ∧ wk ≠ sl ∧ wk ≠ al ∧ wk ≠ ed ∧ sl ≠ al ∧ sl ≠ ed ∧ al ≠ ed ∧ Exa Z Z.heap x0_ "java/lang/Integer" ∧ Fld Z Z.heap x0_ "java/lang/Integer" "value" "I" (.int (n * (2 : Int32))) ∧ Exa Z Z.heap x1_ "java/lang/Integer" ∧ Fld Z Z.heap x1_ "java/lang/Integer" "value" "I" (.int ((n * (2 : Int32)) + (1 : Int32))) ∧ (vw.length = ((n * (2 : Int32))).toNatClampNeg) ∧ (vu.length = (((n * (2 : Int32)) + (2 : Int32))).toNatClampNeg) ∧ (own_pre vw ((n * (2 : Int32))).toInt) ∧ (Z.vm.findClass "[I" = some kw)
set_option maxRecDepth 65536 in
set_option maxHeartbeats 40000000 in
theorem own_ini2 (l : Launch) (Z : State) (a0 : Array Value) (hw : ∀ d ∈ tables_1, d.before a0 Z = true) (a : Addr) (n : Int32) (dc : Addr) (kd : ClassId) (ca : Addr) (bxc : Cell) (el : Addr) (b2 : Addr) (b7 : Addr) (b11 : Addr) (k7 : ClassId) (k11 : ClassId) (h0 : Heap) (n0 : Nat) (Z0 : n0 ≤ h0.size) {p : Program} {e : Env} {s : State} {m : MethodId} {below : List Frame} {meth : Method} {c : Code} (hx : p.tables.exec = Jvm.exec) (hZ : Z.Warmed39 s.vm) (hby : c.code = prog_5_method_1_code) (hml : c.maxLocals = 5) (hown : s.vm.findClass "com/example/kneiphof/kneiphof/Assignment" = some m.cls) (hret : meth.sig.returnType = none) (hlk : meth.locks = false) (hh : s.heap = h0) (k_ : Nat) :
    ∀ (Tc : State) (Hc : Heap) (locsc : List Loc) (i : Int32) (vw : List Value) (vu : List Value) (Xc : Stand p l e ({ frames := 5, cells := 5, slots := 51, locals := 69 } : Room) s m #[(.ref a), (.int n), (.int (2 : Int32)), (.int (2 : Int32))] below meth c Tc locsc 3 39) (ec : Tc.heap = Hc) (Nc : Fr n0 locsc) (Kc0 : Keep h0 Hc [a]) (Oc : Old Z n0 Hc) (zc0 : Sta Z Z.heap "java/util/ArrayList" "DEFAULTCAPACITY_EMPTY_ELEMENTDATA" "[Ljava/lang/Object;" (.ref dc)) (zc1 : Arv Z Z.heap dc kd (.object "java/lang/Object") (0 : Int32) [] .null) (zc2 : Sta Z Z.heap "java/lang/Integer$IntegerCache" "high" "I" (.int (127 : Int32))) (zc3 : Sta Z Z.heap "java/lang/Integer$IntegerCache" "cache" "[Ljava/lang/Integer;" (.ref ca)) (zc4 : Sta Z Z.heap "java/util/ImmutableCollections" "EMPTY_LIST" "Ljava/util/ImmutableCollections$ListN;" (.ref el)) (zc5 : Exa Z Hc a "com/example/kneiphof/kneiphof/Assignment") (zc6 : Fld Z Hc a "com/example/kneiphof/kneiphof/Assignment" "spares" "Ljava/util/List;" (.ref b2)) (zc7 : Fld Z Hc a "com/example/kneiphof/kneiphof/Assignment" "partitions" "I" (.int n)) (zc8 : Fld Z Hc a "com/example/kneiphof/kneiphof/Assignment" "replicas" "I" (.int (2 : Int32))) (zc9 : Fld Z Hc a "com/example/kneiphof/kneiphof/Assignment" "workers" "[I" (.ref b7)) (zc10 : Fld Z Hc a "com/example/kneiphof/kneiphof/Assignment" "slots" "[I" (.ref b11)) (zc11 : Fld Z Hc a "com/example/kneiphof/kneiphof/Assignment" "partitioning" "Lcom/example/kneiphof/kneiphof/Partitioning;" .null) (zc12 : Exa Z Hc b2 "java/util/ArrayList") (zc13 : Fld Z Hc b2 "java/util/ArrayList" "elementData" "[Ljava/lang/Object;" (.ref dc)) (zc14 : Fld Z Hc b2 "java/util/ArrayList" "size" "I" (.int (0 : Int32))) (zc15 : Fld Z Hc b2 "java/util/AbstractList" "modCount" "I" (.int (0 : Int32))) (zc16 : Arv Z Hc b7 k7 .int (n * (2 : Int32)) vw (.int (0 : Int32))) (zc17 : Arv Z Hc b11 k11 .int ((n * (2 : Int32)) + (2 : Int32)) vu (.int (0 : Int32))) (gc18 : n0 ≤ a) (gc19 : n0 ≤ b7) (sc20 : h0.size ≤ b7) (gc21 : n0 ≤ b11) (sc22 : h0.size ≤ b11) (gc23 : n0 ≤ b2) (sc24 : h0.size ≤ b2) (nc25 : b7 ≠ b11) (nc26 : a ≠ b7) (nc27 : a ≠ b11) (nc28 : b2 ≠ b7) (nc29 : b2 ≠ b11) (nc30 : a ≠ b2) (hbx : Bxs Z ca bxc "java/lang/Integer" "I" (256 : Int32) own_bval) (hn : 1 ≤ n.toInt ∧ n.toInt ≤ 4) (hfc : Z.vm.findClass "[I" = some k7) (hms : i.toInt + (k_ : Int) = ((n * (2 : Int32))).toInt) (hi0 : 0 ≤ i.toInt) (hvw : vw.length = ((n * (2 : Int32))).toNatClampNeg) (hvu : vu.length = (((n * (2 : Int32)) + (2 : Int32))).toNatClampNeg) (hpr : own_pre vw i.toInt),
    ∃ U_ o_, Steps p.tables e below (Tc.setTop (mkF m 58 #[.val (.ref a), .val (.int n), .val (.int (2 : Int32)), .val (.int (2 : Int32)), .val (.int i)] [])) U_ ∧ U_.status = .running ∧ Ended U_ below o_ ∧ (∃ v_ L_, o_ = .returned v_ ∧ Q_rmIni2 Z a n dc kd ca bxc el h0 n0 v_ U_.heap L_ ∧ FrameEnd s o_ U_ L_ ({ frames := 5, cells := 5, slots := 51, locals := 69 } : Room).cells ({ frames := 5, cells := 5, slots := 51, locals := 69 } : Room).slots) := by
  induction k_ with
  | zero =>
    intro Tc Hc locsc i vw vu Xc ec Nc Kc0 Oc zc0 zc1 zc2 zc3 zc4 zc5 zc6 zc7 zc8 zc9 zc10 zc11 zc12 zc13 zc14 zc15 zc16 zc17 gc18 gc19 sc20 gc21 sc22 gc23 sc24 nc25 nc26 nc27 nc28 nc29 nc30 hbx hn hfc hms hi0 hvw hvu hpr
    have hge : ¬ (i < (n * (2 : Int32))) := by rw [Int32.lt_iff_toInt_lt]; omega
    refine own_go (A := Tc.setTop (mkF m 61 #[.val (.ref a), .val (.int n), .val (.int (2 : Int32)), .val (.int (2 : Int32)), .val (.int i)] [(.ref a), (.int i)])) (fun t_ k_ => ?_) ?_
    · show Steps p.tables e below (Tc.setTop (mkF m 58 #[.val (.ref a), .val (.int n), .val (.int (2 : Int32)), .val (.int (2 : Int32)), .val (.int i)] [])) t_
      refine XS.iload Xc.here hx rfl (hb hby d1_58) rfl ?_
      refine XS.aloadN Xc.here hx rfl (hb hby d1_60) rfl rfl ?_
      exact k_
    obtain ⟨T15, X15, e15, st15⟩ := getF Xc hx hZ hown (host := "") (Or.inl (own_w hw 41 rfl)) Via.refl ec zc9 (g := (mkF m 61 #[.val (.ref a), .val (.int n), .val (.int (2 : Int32)), .val (.int (2 : Int32)), .val (.int i)] [(.ref a), (.int i)])) rfl rfl (hb hby d1_61)
    refine own_go st15 ?_
    obtain ⟨cl16, Ar16, q16, S16, M16, H16, G16⟩ := id zc16
    refine own_go (A := T15.setTop (mkF m 102 #[.val (.ref a), .val (.int n), .val (.int (2 : Int32)), .val (.int (2 : Int32)), .val (.int (0 : Int32))] [(.ref a)])) (fun t_ k_ => ?_) ?_
    · show Steps p.tables e below (T15.setTop (mkF m 64 #[.val (.ref a), .val (.int n), .val (.int (2 : Int32)), .val (.int (2 : Int32)), .val (.int i)] [(.ref b7), (.int i)])) t_
      refine X15.arraylength hx (by rw [e15]; exact Ar16.1) (State.isArrayOf_alike hZ.alike Ar16.2.1) (g := (mkF m 64 #[.val (.ref a), .val (.int n), .val (.int (2 : Int32)), .val (.int (2 : Int32)), .val (.int i)] [(.ref b7), (.int i)])) rfl rfl (hb hby d1_64) _ ?_
      rw [len_of S16 M16]
      refine XS.icmpYes X15.here hx rfl (pc0 := 65) (pc' := 92) rfl (hb hby d1_65) rfl (flt hge).2.1 (by decide) (by decide) ?_
      refine XS.iconst X15.here hx rfl (hb hby d1_92) ?_
      refine XS.istore X15.here hx rfl (hb hby d1_93) rfl (l' := #[.val (.ref a), .val (.int n), .val (.int (2 : Int32)), .val (.int (2 : Int32)), .val (.int (0 : Int32))]) rfl ?_
      show Steps p.tables e below (T15.setTop (mkF m 95 #[.val (.ref a), .val (.int n), .val (.int (2 : Int32)), .val (.int (2 : Int32)), .val (.int (0 : Int32))] [])) t_
      refine XS.iload X15.here hx rfl (hb hby d1_95) rfl ?_
      refine XS.iloadN X15.here hx rfl (hb hby d1_97) rfl ?_
      refine XS.icmpNo X15.here hx rfl (hb hby d1_98) rfl (tlt (by decide : (0 : Int32) < (2 : Int32))).2.1 ?_
      refine XS.aloadN X15.here hx rfl (hb hby d1_101) rfl rfl ?_
      exact k_
    obtain ⟨T17, X17, e17, st17⟩ := getF X15 hx hZ hown (host := "") (Or.inl (own_w hw 34 rfl)) Via.refl e15 zc6 (g := (mkF m 102 #[.val (.ref a), .val (.int n), .val (.int (2 : Int32)), .val (.int (2 : Int32)), .val (.int (0 : Int32))] [(.ref a)])) rfl rfl (hb hby d1_102)
    refine own_go st17 ?_
    refine own_go (A := T17.setTop (mkF m 106 #[.val (.ref a), .val (.int n), .val (.int (2 : Int32)), .val (.int (2 : Int32)), .val (.int (0 : Int32))] [(.ref a), (.ref b2)])) (fun t_ k_ => ?_) ?_
    · show Steps p.tables e below (T17.setTop (mkF m 105 #[.val (.ref a), .val (.int n), .val (.int (2 : Int32)), .val (.int (2 : Int32)), .val (.int (0 : Int32))] [(.ref b2)])) t_
      refine XS.aloadN X17.here hx rfl (hb hby d1_105) rfl rfl ?_
      exact k_
    obtain ⟨T18, X18, e18, st18⟩ := getF X17 hx hZ hown (host := "") (Or.inl (own_w hw 41 rfl)) Via.refl e17 zc9 (g := (mkF m 106 #[.val (.ref a), .val (.int n), .val (.int (2 : Int32)), .val (.int (2 : Int32)), .val (.int (0 : Int32))] [(.ref a), (.ref b2)])) rfl rfl (hb hby d1_106)
    refine own_go st18 ?_
    obtain ⟨cl19, Ar19, q19, S19, M19, H19, G19⟩ := id zc16
    refine own_go (A := T18.setTop (mkF m 113 #[.val (.ref a), .val (.int n), .val (.int (2 : Int32)), .val (.int (2 : Int32)), .val (.int (0 : Int32))] [(.int ((n * (2 : Int32)) + (0 : Int32))), (.ref b2)])) (fun t_ k_ => ?_) ?_
    · show Steps p.tables e below (T18.setTop (mkF m 109 #[.val (.ref a), .val (.int n), .val (.int (2 : Int32)), .val (.int (2 : Int32)), .val (.int (0 : Int32))] [(.ref b7), (.ref b2)])) t_
      refine X18.arraylength hx (by rw [e18]; exact Ar19.1) (State.isArrayOf_alike hZ.alike Ar19.2.1) (g := (mkF m 109 #[.val (.ref a), .val (.int n), .val (.int (2 : Int32)), .val (.int (2 : Int32)), .val (.int (0 : Int32))] [(.ref b7), (.ref b2)])) rfl rfl (hb hby d1_109) _ ?_
      rw [len_of S19 M19]
      refine XS.iload X18.here hx rfl (hb hby d1_110) rfl ?_
      refine XS.iadd X18.here hx rfl (hb hby d1_112) rfl ?_
      exact k_
    obtain ⟨_, _, ⟨T20, L20, k20, n20⟩, -, X20, ⟨Lc20, hQ20, l20, y20, z20⟩, st20⟩ := Jvm.LawKit.callS X18 hx (y := own_y9) hown (mvT hZ (own_w hw 49 rfl)) (mvT hZ (own_w hw 50 rfl)) (mvT hZ (own_w hw 51 rfl)) (mvT hZ (own_w hw 52 rfl)) (by decide) (backOf (W := 1) (rmVO l Z a0 hw [] ((n * (2 : Int32)) + (0 : Int32)) ca bxc Hc n0 (Nat.le_trans Z0 Kc0.1) Oc zc2 zc3 hbx (own_c1 (by have h := own_vi2_0 hn; omega)) (own_c2 (by have h := own_vi2_0 hn; omega))) hZ (own_w hw 52 rfl) (own_w hw 51 rfl) (by decide) (by decide)) (g := (mkF m 113 #[.val (.ref a), .val (.int n), .val (.int (2 : Int32)), .val (.int (2 : Int32)), .val (.int (0 : Int32))] [(.int ((n * (2 : Int32)) + (0 : Int32))), (.ref b2)])) rfl (by rw [hml]; rfl) (argsL := [(.int ((n * (2 : Int32)) + (0 : Int32)))]) (rest := [(.ref b2)]) (lenOf pd_8 rfl) rfl (by show 2 * 0 + _ ≤ _; exact Nat.le_of_eq rfl) (hb hby d1_113) (fun _ _ => ⟨rfl, e18, (by decide : 3 + 0 ≤ _), (by decide : 39 + 0 ≤ _)⟩)
    dsimp only [Pt.U, Pt.locs, Pt.cells, Pt.slots] at X20 l20 y20 z20 st20 hQ20
    subst l20 y20 z20
    obtain ⟨r_20, rfl, N20q, Kc20, r20_0, r20_1⟩ := hQ20
    have N20 := Fr.app Nc N20q
    refine own_go st20 ?_
    have K20 : Keep h0 T20.heap [a] := Kc0.trans Kc20 all0
    have O20 := Oc.keep Kc20 all0
    obtain ⟨cq21, kq21, q21a, q21b, q21c⟩ := isOf hZ rfl (zc12.keep Kc20)
    obtain ⟨_, _, ⟨T21, L21, k21, n21⟩, -, X21, ⟨Lc21, hQ21, l21, y21, z21⟩, st21⟩ := X20.interfaceBack hx (xi := own_y13) (y := own_y8) hown (mvT hZ (own_w hw 56 rfl)) (mvT hZ (own_w hw 57 rfl)) (mvT hZ (own_w hw 58 rfl)) (mvT hZ (own_w hw 59 rfl)) (mvT hZ (own_w hw 60 rfl)) (mvT hZ (own_w hw 61 rfl)) (mvT hZ (own_w hw 62 rfl)) (mvT hZ (own_w hw 63 rfl)) (by decide) (backOf (W := 0) (rmAdd0 l Z a0 hw [] b2 r_20 dc kd (0 : Int32) T20.heap n0 (Nat.le_trans Z0 K20.1) O20 zc0 (zc12.keep Kc20) (zc13.keep Kc20 nin0) (zc14.keep Kc20 nin0) (zc15.keep Kc20 nin0) zc1 gc23 (r20_0.ext O20.2)) hZ (own_w hw 64 rfl) (own_w hw 12 rfl) (by decide) (by decide)) q21a q21b q21c (g := (mkF m 116 #[.val (.ref a), .val (.int n), .val (.int (2 : Int32)), .val (.int (2 : Int32)), .val (.int (0 : Int32))] [(.ref r_20), (.ref b2)])) rfl (by rw [hml]; rfl) (Steps.refl _) (argsL := [(.ref r_20)]) (rest := []) (lenOf pd_9 rfl) rfl (by show 2 * 0 + _ ≤ _; exact Nat.le_of_eq rfl) (hb hby d1_116) (fun _ _ => ⟨rfl, rfl, (by decide : 3 + 1 ≤ _), (by decide : 39 + 10 ≤ _)⟩)
    dsimp only [Pt.U, Pt.locs, Pt.cells, Pt.slots] at X21 l21 y21 z21 st21 hQ21
    subst l21 y21 z21
    obtain ⟨ed_21, k_21, rfl, N21q, Kc21, r21_0, r21_1, r21_2, r21_3, r21_4, r21_5⟩ := hQ21
    have N21 := Fr.app N20 N21q
    refine own_via st21 ?_
    have K21 : Keep h0 T21.heap [a] := K20.trans Kc21 (allS (P := fun x => x ∈ _ ∨ _ ≤ x) (Or.inr sc24) all0)
    have O21 := O20.keep Kc21 (allS (P := fun x => n0 ≤ x) gc23 all0)
    refine own_go (A := T21.setTop (mkF m 102 #[.val (.ref a), .val (.int n), .val (.int (2 : Int32)), .val (.int (2 : Int32)), .val (.int (1 : Int32))] [(.ref a)])) (fun t_ k_ => ?_) ?_
    · show Steps p.tables e below (T21.setTop (mkF m 121 #[.val (.ref a), .val (.int n), .val (.int (2 : Int32)), .val (.int (2 : Int32)), .val (.int (0 : Int32))] [(.int (1 : Int32))])) t_
      refine XS.pop X21.here hx rfl (hb hby d1_121) rfl rfl ?_
      refine XS.iinc X21.here hx rfl (hb hby d1_122) rfl (l' := #[.val (.ref a), .val (.int n), .val (.int (2 : Int32)), .val (.int (2 : Int32)), .val (.int (1 : Int32))]) rfl ?_
      refine XS.goto X21.here hx rfl (pc0 := 125) (pc' := 95) rfl (hb hby d1_125) (by decide) (by decide) ?_
      refine XS.iload X21.here hx rfl (hb hby d1_95) rfl ?_
      show Steps p.tables e below (T21.setTop (mkF m 97 #[.val (.ref a), .val (.int n), .val (.int (2 : Int32)), .val (.int (2 : Int32)), .val (.int (1 : Int32))] [(.int (1 : Int32))])) t_
      refine XS.iloadN X21.here hx rfl (hb hby d1_97) rfl ?_
      refine XS.icmpNo X21.here hx rfl (hb hby d1_98) rfl (tlt (by decide : (1 : Int32) < (2 : Int32))).2.1 ?_
      refine XS.aloadN X21.here hx rfl (hb hby d1_101) rfl rfl ?_
      exact k_
    obtain ⟨T22, X22, e22, st22⟩ := getF X21 hx hZ hown (host := "") (Or.inl (own_w hw 34 rfl)) Via.refl rfl ((zc6.keep Kc20 nin0).keep Kc21 (ninS nc30 nin0)) (g := (mkF m 102 #[.val (.ref a), .val (.int n), .val (.int (2 : Int32)), .val (.int (2 : Int32)), .val (.int (1 : Int32))] [(.ref a)])) rfl rfl (hb hby d1_102)
    refine own_go st22 ?_
    refine own_go (A := T22.setTop (mkF m 106 #[.val (.ref a), .val (.int n), .val (.int (2 : Int32)), .val (.int (2 : Int32)), .val (.int (1 : Int32))] [(.ref a), (.ref b2)])) (fun t_ k_ => ?_) ?_
    · show Steps p.tables e below (T22.setTop (mkF m 105 #[.val (.ref a), .val (.int n), .val (.int (2 : Int32)), .val (.int (2 : Int32)), .val (.int (1 : Int32))] [(.ref b2)])) t_
      refine XS.aloadN X22.here hx rfl (hb hby d1_105) rfl rfl ?_
      exact k_
    obtain ⟨T23, X23, e23, st23⟩ := getF X22 hx hZ hown (host := "") (Or.inl (own_w hw 41 rfl)) Via.refl e22 ((zc9.keep Kc20 nin0).keep Kc21 (ninS nc30 nin0)) (g := (mkF m 106 #[.val (.ref a), .val (.int n), .val (.int (2 : Int32)), .val (.int (2 : Int32)), .val (.int (1 : Int32))] [(.ref a), (.ref b2)])) rfl rfl (hb hby d1_106)
    refine own_go st23 ?_
    obtain ⟨cl24, Ar24, q24, S24, M24, H24, G24⟩ := id ((zc16.keep Kc20 nin0).keep Kc21 (ninS (Ne.symm nc28) nin0))
    refine own_go (A := T23.setTop (mkF m 113 #[.val (.ref a), .val (.int n), .val (.int (2 : Int32)), .val (.int (2 : Int32)), .val (.int (1 : Int32))] [(.int ((n * (2 : Int32)) + (1 : Int32))), (.ref b2)])) (fun t_ k_ => ?_) ?_
    · show Steps p.tables e below (T23.setTop (mkF m 109 #[.val (.ref a), .val (.int n), .val (.int (2 : Int32)), .val (.int (2 : Int32)), .val (.int (1 : Int32))] [(.ref b7), (.ref b2)])) t_
      refine X23.arraylength hx (by rw [e23]; exact Ar24.1) (State.isArrayOf_alike hZ.alike Ar24.2.1) (g := (mkF m 109 #[.val (.ref a), .val (.int n), .val (.int (2 : Int32)), .val (.int (2 : Int32)), .val (.int (1 : Int32))] [(.ref b7), (.ref b2)])) rfl rfl (hb hby d1_109) _ ?_
      rw [len_of S24 M24]
      refine XS.iload X23.here hx rfl (hb hby d1_110) rfl ?_
      refine XS.iadd X23.here hx rfl (hb hby d1_112) rfl ?_
      exact k_
    obtain ⟨_, _, ⟨T25, L25, k25, n25⟩, -, X25, ⟨Lc25, hQ25, l25, y25, z25⟩, st25⟩ := Jvm.LawKit.callS X23 hx (y := own_y9) hown (mvT hZ (own_w hw 49 rfl)) (mvT hZ (own_w hw 50 rfl)) (mvT hZ (own_w hw 51 rfl)) (mvT hZ (own_w hw 52 rfl)) (by decide) (backOf (W := 1) (rmVO l Z a0 hw [] ((n * (2 : Int32)) + (1 : Int32)) ca bxc T21.heap n0 (Nat.le_trans Z0 K21.1) O21 zc2 zc3 hbx (own_c1 (by have h := own_vi2_1 hn; omega)) (own_c2 (by have h := own_vi2_1 hn; omega))) hZ (own_w hw 52 rfl) (own_w hw 51 rfl) (by decide) (by decide)) (g := (mkF m 113 #[.val (.ref a), .val (.int n), .val (.int (2 : Int32)), .val (.int (2 : Int32)), .val (.int (1 : Int32))] [(.int ((n * (2 : Int32)) + (1 : Int32))), (.ref b2)])) rfl (by rw [hml]; rfl) (argsL := [(.int ((n * (2 : Int32)) + (1 : Int32)))]) (rest := [(.ref b2)]) (lenOf pd_8 rfl) rfl (by show 2 * 0 + _ ≤ _; exact Nat.le_of_eq rfl) (hb hby d1_113) (fun _ _ => ⟨rfl, e23, (by decide : 4 + 0 ≤ _), (by decide : 49 + 0 ≤ _)⟩)
    dsimp only [Pt.U, Pt.locs, Pt.cells, Pt.slots] at X25 l25 y25 z25 st25 hQ25
    subst l25 y25 z25
    obtain ⟨r_25, rfl, N25q, Kc25, r25_0, r25_1⟩ := hQ25
    have N25 := Fr.app N21 N25q
    refine own_go st25 ?_
    have K25 : Keep h0 T25.heap [a] := K21.trans Kc25 all0
    have O25 := O21.keep Kc25 all0
    obtain ⟨cq26, kq26, q26a, q26b, q26c⟩ := isOf hZ rfl (((zc12.keep Kc20).keep Kc21).keep Kc25)
    obtain ⟨_, _, ⟨T26, L26, k26, n26⟩, -, X26, ⟨Lc26, hQ26, l26, y26, z26⟩, st26⟩ := X25.interfaceBack hx (xi := own_y13) (y := own_y8) hown (mvT hZ (own_w hw 56 rfl)) (mvT hZ (own_w hw 57 rfl)) (mvT hZ (own_w hw 58 rfl)) (mvT hZ (own_w hw 59 rfl)) (mvT hZ (own_w hw 60 rfl)) (mvT hZ (own_w hw 61 rfl)) (mvT hZ (own_w hw 62 rfl)) (mvT hZ (own_w hw 63 rfl)) (by decide) (backOf (W := 0) (rmAdd1 l Z a0 hw [] b2 r_25 ed_21 k_21 ((0 : Int32) + (1 : Int32)) r_20 T25.heap n0 (Nat.le_trans Z0 K25.1) (((zc12.keep Kc20).keep Kc21).keep Kc25) (r21_3.keep Kc25 nin0) (r21_4.keep Kc25 nin0) (r21_5.keep Kc25 nin0) (r21_1.keep Kc25 nin0) r21_2 gc23 (Nat.le_trans Z0 (Nat.le_trans K20.1 r21_0)) (Nat.ne_of_lt (Nat.lt_of_lt_of_le (Nat.lt_of_lt_of_le zc12.lt Kc20.1) r21_0)) (r25_0.ext O25.2)) hZ (own_w hw 64 rfl) (own_w hw 12 rfl) (by decide) (by decide)) q26a q26b q26c (g := (mkF m 116 #[.val (.ref a), .val (.int n), .val (.int (2 : Int32)), .val (.int (2 : Int32)), .val (.int (1 : Int32))] [(.ref r_25), (.ref b2)])) rfl (by rw [hml]; rfl) (Steps.refl _) (argsL := [(.ref r_25)]) (rest := []) (lenOf pd_9 rfl) rfl (by show 2 * 0 + _ ≤ _; exact Nat.le_of_eq rfl) (hb hby d1_116) (fun _ _ => ⟨rfl, rfl, (by decide : 4 + 0 ≤ _), (by decide : 49 + 0 ≤ _)⟩)
    dsimp only [Pt.U, Pt.locs, Pt.cells, Pt.slots] at X26 l26 y26 z26 st26 hQ26
    subst l26 y26 z26
    obtain ⟨rfl, N26q, Kc26, r26_0, r26_1, r26_2, r26_3⟩ := hQ26
    have N26 := Fr.app N25 N26q
    refine own_via st26 ?_
    have K26 : Keep h0 T26.heap [a] := K25.trans Kc26 (allS (P := fun x => x ∈ _ ∨ _ ≤ x) (Or.inr sc24) (allS (P := fun x => x ∈ _ ∨ _ ≤ x) (Or.inr (Nat.le_trans K20.1 r21_0)) all0))
    have O26 := O25.keep Kc26 (allS (P := fun x => n0 ≤ x) gc23 (allS (P := fun x => n0 ≤ x) (Nat.le_trans Z0 (Nat.le_trans K20.1 r21_0)) all0))
    refine own_go (A := T26.setTop (mkF m 129 #[.val (.ref a), .val (.int n), .val (.int (2 : Int32)), .val (.int (2 : Int32)), .val (.int (2 : Int32))] [(.ref a)])) (fun t_ k_ => ?_) ?_
    · show Steps p.tables e below (T26.setTop (mkF m 121 #[.val (.ref a), .val (.int n), .val (.int (2 : Int32)), .val (.int (2 : Int32)), .val (.int (1 : Int32))] [(.int (1 : Int32))])) t_
      refine XS.pop X26.here hx rfl (hb hby d1_121) rfl rfl ?_
      refine XS.iinc X26.here hx rfl (hb hby d1_122) rfl (l' := #[.val (.ref a), .val (.int n), .val (.int (2 : Int32)), .val (.int (2 : Int32)), .val (.int (2 : Int32))]) rfl ?_
      refine XS.goto X26.here hx rfl (pc0 := 125) (pc' := 95) rfl (hb hby d1_125) (by decide) (by decide) ?_
      refine XS.iload X26.here hx rfl (hb hby d1_95) rfl ?_
      show Steps p.tables e below (T26.setTop (mkF m 97 #[.val (.ref a), .val (.int n), .val (.int (2 : Int32)), .val (.int (2 : Int32)), .val (.int (2 : Int32))] [(.int (2 : Int32))])) t_
      refine XS.iloadN X26.here hx rfl (hb hby d1_97) rfl ?_
      refine XS.icmpYes X26.here hx rfl (pc0 := 98) (pc' := 128) rfl (hb hby d1_98) rfl (flt (by decide : ¬ ((2 : Int32) < (2 : Int32)))).2.1 (by decide) (by decide) ?_
      refine XS.aloadN X26.here hx rfl (hb hby d1_128) rfl rfl ?_
      exact k_
    obtain ⟨T27, h27, X27, e27, E27, A27, D27, -, st27⟩ := newO X26 hx hZ hown (own_w hw 91 rfl) (own_w hw 92 rfl) (own_w hw 93 rfl) rfl (g := (mkF m 129 #[.val (.ref a), .val (.int n), .val (.int (2 : Int32)), .val (.int (2 : Int32)), .val (.int (2 : Int32))] [(.ref a)])) rfl (hb hby d1_129) (by decide) (by decide)
    obtain ⟨b27, g27⟩ : ∃ z, z = T26.heap.size := ⟨_, rfl⟩
    rw [← g27] at A27 D27 st27
    refine own_go st27 ?_
    have K27 : Keep h0 h27 [a] := K26.ext E27
    have O27 := O26.ext E27
    have F27_partitions : Fld Z h27 b27 "com/example/kneiphof/kneiphof/Partitioning" "partitions" "I" (.int (0 : Int32)) := D27 (Or.inr (own_w hw 108 rfl)) (ty := .int) (by decide)
    have F27_spreads : Fld Z h27 b27 "com/example/kneiphof/kneiphof/Partitioning" "spreads" "Ljava/util/List;" .null := D27 (Or.inr (own_w hw 110 rfl)) (ty := (.object "java/util/List")) (by decide)
    refine own_go (A := T27.setTop (mkF m 134 #[.val (.ref a), .val (.int n), .val (.int (2 : Int32)), .val (.int (2 : Int32)), .val (.int (2 : Int32))] [(.int n), (.ref b27), (.ref b27), (.ref a)])) (fun t_ k_ => ?_) ?_
    · show Steps p.tables e below (T27.setTop (mkF m 132 #[.val (.ref a), .val (.int n), .val (.int (2 : Int32)), .val (.int (2 : Int32)), .val (.int (2 : Int32))] [(.ref b27), (.ref a)])) t_
      refine XS.dup X27.here hx rfl (hb hby d1_132) rfl rfl ?_
      refine XS.iloadN X27.here hx rfl (hb hby d1_133) rfl ?_
      exact k_
    obtain ⟨_, _, ⟨T28, L28, k28, n28⟩, -, X28, ⟨Lc28, hQ28, l28, y28, z28⟩, st28⟩ := X27.specialBack hx (y := own_y12) rfl hown (mvT hZ (own_w hw 94 rfl)) (mvT hZ (own_w hw 95 rfl)) (mvT hZ (own_w hw 96 rfl)) (by decide) (backOf (W := 2) (rmPt1 l Z a0 hw [] b27 n el h27 n0 (Nat.le_trans Z0 K27.1) O27 zc4 A27 F27_partitions F27_spreads (Nat.le_trans Z0 (Nat.le_trans K26.1 (Nat.le_of_eq g27.symm)))) hZ (own_w hw 96 rfl) (own_w hw 93 rfl) (by decide) (by decide)) (g := (mkF m 134 #[.val (.ref a), .val (.int n), .val (.int (2 : Int32)), .val (.int (2 : Int32)), .val (.int (2 : Int32))] [(.int n), (.ref b27), (.ref b27), (.ref a)])) rfl (by rw [hml]; rfl) (Steps.refl _) (a := b27) (argsL := [(.int n)]) (rest := [(.ref b27), (.ref a)]) (lenOf pd_10 rfl) rfl (by show 2 * 0 + _ ≤ _; exact Nat.le_of_eq rfl) (hb hby d1_134) (fun _ _ => ⟨rfl, e27, (by decide : 5 + 0 ≤ _), (by decide : 51 + 0 ≤ _)⟩)
    dsimp only [Pt.U, Pt.locs, Pt.cells, Pt.slots] at X28 l28 y28 z28 st28 hQ28
    subst l28 y28 z28
    obtain ⟨rfl, N28q, Kc28⟩ := hQ28
    have N28 := Fr.app N26 N28q
    refine own_via st28 ?_
    have K28 : Keep h0 T28.heap [a] := K27.trans Kc28 (allS (P := fun x => x ∈ _ ∨ _ ≤ x) (Or.inr (Nat.le_trans K26.1 (Nat.le_of_eq g27.symm))) all0)
    have O28 := O27.keep Kc28 (allS (P := fun x => n0 ≤ x) (Nat.le_trans Z0 (Nat.le_trans K26.1 (Nat.le_of_eq g27.symm))) all0)
    obtain ⟨T29, h29, X29, e29, W29, st29⟩ := putF X28 hx hZ hown (host := "") (Or.inl (own_w hw 111 rfl)) Via.refl rfl ((((((zc11.keep Kc20 nin0).keep Kc21 (ninS nc30 nin0)).keep Kc25 nin0).keep Kc26 (ninS nc30 (ninS (Nat.ne_of_lt (Nat.lt_of_lt_of_le (Nat.lt_of_lt_of_le zc5.lt Kc20.1) r21_0)) nin0))).ext E27).keep Kc28 (ninS (Nat.ne_of_lt (Nat.lt_of_lt_of_le (Nat.lt_of_lt_of_le (Nat.lt_of_lt_of_le (Nat.lt_of_lt_of_le (Nat.lt_of_lt_of_le zc5.lt Kc20.1) Kc21.1) Kc25.1) Kc26.1) (Nat.le_of_eq g27.symm))) nin0)) ((((((zc5.keep Kc20).keep Kc21).keep Kc25).keep Kc26).ext E27).keep Kc28) (Or.inl (own_w hw 112 rfl)) (own_w hw 2 rfl) (ty := (.object "com/example/kneiphof/kneiphof/Partitioning")) (by decide) rfl rfl (g := (mkF m 137 #[.val (.ref a), .val (.int n), .val (.int (2 : Int32)), .val (.int (2 : Int32)), .val (.int (2 : Int32))] [(.ref b27), (.ref a)])) rfl rfl (hb hby d1_137)
    have Fw29 : Fld Z h29 a "com/example/kneiphof/kneiphof/Assignment" "partitioning" "Lcom/example/kneiphof/kneiphof/Partitioning;" (.ref b27) := ((((((zc11.keep Kc20 nin0).keep Kc21 (ninS nc30 nin0)).keep Kc25 nin0).keep Kc26 (ninS nc30 (ninS (Nat.ne_of_lt (Nat.lt_of_lt_of_le (Nat.lt_of_lt_of_le zc5.lt Kc20.1) r21_0)) nin0))).ext E27).keep Kc28 (ninS (Nat.ne_of_lt (Nat.lt_of_lt_of_le (Nat.lt_of_lt_of_le (Nat.lt_of_lt_of_le (Nat.lt_of_lt_of_le (Nat.lt_of_lt_of_le zc5.lt Kc20.1) Kc21.1) Kc25.1) Kc26.1) (Nat.le_of_eq g27.symm))) nin0)).same W29
    refine own_go st29 ?_
    have K29 : Keep h0 h29 [a] := K28.wr W29 (Or.inl (List.mem_of_getElem? (i := 0) rfl))
    have O29 := O28.wr W29 gc18
    have N29 := Fr.snoc X29 N28 gc18
    obtain ⟨fs30, hr30, hrun30, hended30, hW30, hsame30⟩ := X29.leave (v := none) (fun _ => rfl)
    refine ⟨_, _, ?_, hrun30, hended30, _, _, rfl, ?_, ⟨_, rfl⟩, hW30, hsame30.mono (by decide) (by decide)⟩
    · exact X29.returnOut hx hret (hb hby d1_140) hr30
    · show Q_rmIni2 Z a n dc kd ca bxc el h0 n0 _ T29.heap _
      rw [e29]
      exact ⟨b7, k7, b11, k11, b2, ed_21, k_21, (((0 : Int32) + (1 : Int32)) + (1 : Int32)), vw, vu, r_20, r_25, rfl, N29, K29, sc20, sc22, sc24, (Nat.le_trans K20.1 r21_0), (((((((zc9.keep Kc20 nin0).keep Kc21 (ninS nc30 nin0)).keep Kc25 nin0).keep Kc26 (ninS nc30 (ninS (Nat.ne_of_lt (Nat.lt_of_lt_of_le (Nat.lt_of_lt_of_le zc5.lt Kc20.1) r21_0)) nin0))).ext E27).keep Kc28 (ninS (Nat.ne_of_lt (Nat.lt_of_lt_of_le (Nat.lt_of_lt_of_le (Nat.lt_of_lt_of_le (Nat.lt_of_lt_of_le (Nat.lt_of_lt_of_le zc5.lt Kc20.1) Kc21.1) Kc25.1) Kc26.1) (Nat.le_of_eq g27.symm))) nin0)).other W29 (Or.inr (slot_ne (Or.inr (own_w hw 42 rfl)) (Or.inl (own_w hw 112 rfl)) (by decide) (t := (.array .int)) (t' := (.object "com/example/kneiphof/kneiphof/Partitioning")) (by decide) (by decide)))), (((((((zc10.keep Kc20 nin0).keep Kc21 (ninS nc30 nin0)).keep Kc25 nin0).keep Kc26 (ninS nc30 (ninS (Nat.ne_of_lt (Nat.lt_of_lt_of_le (Nat.lt_of_lt_of_le zc5.lt Kc20.1) r21_0)) nin0))).ext E27).keep Kc28 (ninS (Nat.ne_of_lt (Nat.lt_of_lt_of_le (Nat.lt_of_lt_of_le (Nat.lt_of_lt_of_le (Nat.lt_of_lt_of_le (Nat.lt_of_lt_of_le zc5.lt Kc20.1) Kc21.1) Kc25.1) Kc26.1) (Nat.le_of_eq g27.symm))) nin0)).other W29 (Or.inr (slot_ne (Or.inr (own_w hw 44 rfl)) (Or.inl (own_w hw 112 rfl)) (by decide) (t := (.array .int)) (t' := (.object "com/example/kneiphof/kneiphof/Partitioning")) (by decide) (by decide)))), (((((((zc6.keep Kc20 nin0).keep Kc21 (ninS nc30 nin0)).keep Kc25 nin0).keep Kc26 (ninS nc30 (ninS (Nat.ne_of_lt (Nat.lt_of_lt_of_le (Nat.lt_of_lt_of_le zc5.lt Kc20.1) r21_0)) nin0))).ext E27).keep Kc28 (ninS (Nat.ne_of_lt (Nat.lt_of_lt_of_le (Nat.lt_of_lt_of_le (Nat.lt_of_lt_of_le (Nat.lt_of_lt_of_le (Nat.lt_of_lt_of_le zc5.lt Kc20.1) Kc21.1) Kc25.1) Kc26.1) (Nat.le_of_eq g27.symm))) nin0)).other W29 (Or.inr (slot_ne (Or.inr (own_w hw 35 rfl)) (Or.inl (own_w hw 112 rfl)) (by decide) (t := (.object "java/util/List")) (t' := (.object "com/example/kneiphof/kneiphof/Partitioning")) (by decide) (by decide)))), (((((((zc8.keep Kc20 nin0).keep Kc21 (ninS nc30 nin0)).keep Kc25 nin0).keep Kc26 (ninS nc30 (ninS (Nat.ne_of_lt (Nat.lt_of_lt_of_le (Nat.lt_of_lt_of_le zc5.lt Kc20.1) r21_0)) nin0))).ext E27).keep Kc28 (ninS (Nat.ne_of_lt (Nat.lt_of_lt_of_le (Nat.lt_of_lt_of_le (Nat.lt_of_lt_of_le (Nat.lt_of_lt_of_le (Nat.lt_of_lt_of_le zc5.lt Kc20.1) Kc21.1) Kc25.1) Kc26.1) (Nat.le_of_eq g27.symm))) nin0)).other W29 (Or.inr (slot_ne (Or.inr (own_w hw 39 rfl)) (Or.inl (own_w hw 112 rfl)) (by decide) (t := .int) (t' := (.object "com/example/kneiphof/kneiphof/Partitioning")) (by decide) (by decide)))), (((((((zc16.keep Kc20 nin0).keep Kc21 (ninS (Ne.symm nc28) nin0)).keep Kc25 nin0).keep Kc26 (ninS (Ne.symm nc28) (ninS (Nat.ne_of_lt (Nat.lt_of_lt_of_le (Nat.lt_of_lt_of_le zc16.lt Kc20.1) r21_0)) nin0))).ext E27).keep Kc28 (ninS (Nat.ne_of_lt (Nat.lt_of_lt_of_le (Nat.lt_of_lt_of_le (Nat.lt_of_lt_of_le (Nat.lt_of_lt_of_le (Nat.lt_of_lt_of_le zc16.lt Kc20.1) Kc21.1) Kc25.1) Kc26.1) (Nat.le_of_eq g27.symm))) nin0)).other W29 (Ne.symm nc26)), (((((((zc17.keep Kc20 nin0).keep Kc21 (ninS (Ne.symm nc29) nin0)).keep Kc25 nin0).keep Kc26 (ninS (Ne.symm nc29) (ninS (Nat.ne_of_lt (Nat.lt_of_lt_of_le (Nat.lt_of_lt_of_le zc17.lt Kc20.1) r21_0)) nin0))).ext E27).keep Kc28 (ninS (Nat.ne_of_lt (Nat.lt_of_lt_of_le (Nat.lt_of_lt_of_le (Nat.lt_of_lt_of_le (Nat.lt_of_lt_of_le (Nat.lt_of_lt_of_le zc17.lt Kc20.1) Kc21.1) Kc25.1) Kc26.1) (Nat.le_of_eq g27.symm))) nin0)).other W29 (Ne.symm nc27)), (((((((zc12.keep Kc20).keep Kc21).keep Kc25).keep Kc26).ext E27).keep Kc28).wr W29), (((r26_1.ext E27).keep Kc28 (ninS (Nat.ne_of_lt (Nat.lt_of_lt_of_le r26_1.lt (Nat.le_of_eq g27.symm))) nin0)).other W29 (Or.inl (Ne.symm nc30))), (((r26_2.ext E27).keep Kc28 (ninS (Nat.ne_of_lt (Nat.lt_of_lt_of_le r26_1.lt (Nat.le_of_eq g27.symm))) nin0)).other W29 (Or.inl (Ne.symm nc30))), (((r26_3.ext E27).keep Kc28 (ninS (Nat.ne_of_lt (Nat.lt_of_lt_of_le r26_1.lt (Nat.le_of_eq g27.symm))) nin0)).other W29 (Or.inl (Ne.symm nc30))), (((r26_0.ext E27).keep Kc28 (ninS (Nat.ne_of_lt (Nat.lt_of_lt_of_le r26_0.lt (Nat.le_of_eq g27.symm))) nin0)).other W29 (Ne.symm (Nat.ne_of_lt (Nat.lt_of_lt_of_le (Nat.lt_of_lt_of_le zc5.lt Kc20.1) r21_0)))), r21_2, nc25, (Ne.symm nc28), (Nat.ne_of_lt (Nat.lt_of_lt_of_le (Nat.lt_of_lt_of_le zc16.lt Kc20.1) r21_0)), (Ne.symm nc29), (Nat.ne_of_lt (Nat.lt_of_lt_of_le (Nat.lt_of_lt_of_le zc17.lt Kc20.1) r21_0)), (Nat.ne_of_lt (Nat.lt_of_lt_of_le (Nat.lt_of_lt_of_le zc12.lt Kc20.1) r21_0)), r20_0, (by have q := r20_1; rw [own_a0] at q; exact q), r25_0, r25_1, hvw, hvu, (own_eqp hpr (by omega)), hfc⟩
  | succ k_ ih =>
    intro Tc Hc locsc i vw vu Xc ec Nc Kc0 Oc zc0 zc1 zc2 zc3 zc4 zc5 zc6 zc7 zc8 zc9 zc10 zc11 zc12 zc13 zc14 zc15 zc16 zc17 gc18 gc19 sc20 gc21 sc22 gc23 sc24 nc25 nc26 nc27 nc28 nc29 nc30 hbx hn hfc hms hi0 hvw hvu hpr
    have hlt : i < (n * (2 : Int32)) := own_lt (by omega)
    refine own_go (A := Tc.setTop (mkF m 61 #[.val (.ref a), .val (.int n), .val (.int (2 : Int32)), .val (.int (2 : Int32)), .val (.int i)] [(.ref a), (.int i)])) (fun t_ k_ => ?_) ?_
    · show Steps p.tables e below (Tc.setTop (mkF m 58 #[.val (.ref a), .val (.int n), .val (.int (2 : Int32)), .val (.int (2 : Int32)), .val (.int i)] [])) t_
      refine XS.iload Xc.here hx rfl (hb hby d1_58) rfl ?_
      refine XS.aloadN Xc.here hx rfl (hb hby d1_60) rfl rfl ?_
      exact k_
    obtain ⟨T31, X31, e31, st31⟩ := getF Xc hx hZ hown (host := "") (Or.inl (own_w hw 41 rfl)) Via.refl ec zc9 (g := (mkF m 61 #[.val (.ref a), .val (.int n), .val (.int (2 : Int32)), .val (.int (2 : Int32)), .val (.int i)] [(.ref a), (.int i)])) rfl rfl (hb hby d1_61)
    refine own_go st31 ?_
    obtain ⟨cl32, Ar32, q32, S32, M32, H32, G32⟩ := id zc16
    refine own_go (A := T31.setTop (mkF m 69 #[.val (.ref a), .val (.int n), .val (.int (2 : Int32)), .val (.int (2 : Int32)), .val (.int i)] [(.ref a)])) (fun t_ k_ => ?_) ?_
    · show Steps p.tables e below (T31.setTop (mkF m 64 #[.val (.ref a), .val (.int n), .val (.int (2 : Int32)), .val (.int (2 : Int32)), .val (.int i)] [(.ref b7), (.int i)])) t_
      refine X31.arraylength hx (by rw [e31]; exact Ar32.1) (State.isArrayOf_alike hZ.alike Ar32.2.1) (g := (mkF m 64 #[.val (.ref a), .val (.int n), .val (.int (2 : Int32)), .val (.int (2 : Int32)), .val (.int i)] [(.ref b7), (.int i)])) rfl rfl (hb hby d1_64) _ ?_
      rw [len_of S32 M32]
      refine XS.icmpNo X31.here hx rfl (hb hby d1_65) rfl (tlt hlt).2.1 ?_
      refine XS.aloadN X31.here hx rfl (hb hby d1_68) rfl rfl ?_
      exact k_
    obtain ⟨T33, X33, e33, st33⟩ := getF X31 hx hZ hown (host := "") (Or.inl (own_w hw 41 rfl)) Via.refl e31 zc9 (g := (mkF m 69 #[.val (.ref a), .val (.int n), .val (.int (2 : Int32)), .val (.int (2 : Int32)), .val (.int i)] [(.ref a)])) rfl rfl (hb hby d1_69)
    refine own_go st33 ?_
    refine own_go (A := T33.setTop (mkF m 76 #[.val (.ref a), .val (.int n), .val (.int (2 : Int32)), .val (.int (2 : Int32)), .val (.int i)] [(.int i), (.int i), (.ref b7)])) (fun t_ k_ => ?_) ?_
    · show Steps p.tables e below (T33.setTop (mkF m 72 #[.val (.ref a), .val (.int n), .val (.int (2 : Int32)), .val (.int (2 : Int32)), .val (.int i)] [(.ref b7)])) t_
      refine XS.iload X33.here hx rfl (hb hby d1_72) rfl ?_
      refine XS.iload X33.here hx rfl (hb hby d1_74) rfl ?_
      exact k_
    obtain ⟨cl34, Ar34, q34, S34, M34, H34, G34⟩ := id zc16
    have hin34 : ¬ (i < 0 ∨ cl34.slots.size ≤ (i).toNatClampNeg) := inb_of S34 ⟨own_n0 hi0, hlt⟩
    obtain ⟨T35, h35, X35, e35, W35, st35⟩ := stI X33 hx hZ e33 Ar34 (j := i) hin34 (g := (mkF m 76 #[.val (.ref a), .val (.int n), .val (.int (2 : Int32)), .val (.int (2 : Int32)), .val (.int i)] [(.int i), (.int i), (.ref b7)])) rfl rfl (hb hby d1_76)
    obtain ⟨vs35, hvs35⟩ : ∃ z_ : List Value, z_ = (vw.set (i).toNatClampNeg (.int i)) := ⟨_, rfl⟩
    have B35 : Arv Z h35 b7 k7 .int (n * (2 : Int32)) vs35 (.int (0 : Int32)) := hvs35 ▸ Arv.set Ar34 q34 S34 M34 H34 G34 rfl W35 _ rfl (own_ln hi0 hlt hvw)
    refine own_go st35 ?_
    have K35 : Keep h0 h35 [a] := Kc0.wr W35 (Or.inr sc20)
    have O35 := Oc.wr W35 gc19
    have N35 := Fr.snoc X35 Nc gc19
    refine own_go (A := T35.setTop (mkF m 78 #[.val (.ref a), .val (.int n), .val (.int (2 : Int32)), .val (.int (2 : Int32)), .val (.int i)] [(.ref a)])) (fun t_ k_ => ?_) ?_
    · show Steps p.tables e below (T35.setTop (mkF m 77 #[.val (.ref a), .val (.int n), .val (.int (2 : Int32)), .val (.int (2 : Int32)), .val (.int i)] [])) t_
      refine XS.aloadN X35.here hx rfl (hb hby d1_77) rfl rfl ?_
      exact k_
    obtain ⟨T36, X36, e36, st36⟩ := getF X35 hx hZ hown (host := "") (Or.inl (own_w hw 43 rfl)) Via.refl e35 (zc10.other W35 (Or.inl nc26)) (g := (mkF m 78 #[.val (.ref a), .val (.int n), .val (.int (2 : Int32)), .val (.int (2 : Int32)), .val (.int i)] [(.ref a)])) rfl rfl (hb hby d1_78)
    refine own_go st36 ?_
    refine own_go (A := T36.setTop (mkF m 85 #[.val (.ref a), .val (.int n), .val (.int (2 : Int32)), .val (.int (2 : Int32)), .val (.int i)] [(.int i), (.int i), (.ref b11)])) (fun t_ k_ => ?_) ?_
    · show Steps p.tables e below (T36.setTop (mkF m 81 #[.val (.ref a), .val (.int n), .val (.int (2 : Int32)), .val (.int (2 : Int32)), .val (.int i)] [(.ref b11)])) t_
      refine XS.iload X36.here hx rfl (hb hby d1_81) rfl ?_
      refine XS.iload X36.here hx rfl (hb hby d1_83) rfl ?_
      exact k_
    obtain ⟨cl37, Ar37, q37, S37, M37, H37, G37⟩ := id (zc17.other W35 (Ne.symm nc25))
    have hin37 : ¬ (i < 0 ∨ cl37.slots.size ≤ (i).toNatClampNeg) := inb_of S37 ⟨own_n0 hi0, own_lt (by have q := Int32.lt_iff_toInt_lt.mp hlt; have h1 := own_nr2 hn; have h2 := own_ns2 hn; omega)⟩
    obtain ⟨T38, h38, X38, e38, W38, st38⟩ := stI X36 hx hZ e36 Ar37 (j := i) hin37 (g := (mkF m 85 #[.val (.ref a), .val (.int n), .val (.int (2 : Int32)), .val (.int (2 : Int32)), .val (.int i)] [(.int i), (.int i), (.ref b11)])) rfl rfl (hb hby d1_85)
    obtain ⟨vs38, hvs38⟩ : ∃ z_ : List Value, z_ = (vu.set (i).toNatClampNeg (.int i)) := ⟨_, rfl⟩
    have B38 : Arv Z h38 b11 k11 .int ((n * (2 : Int32)) + (2 : Int32)) vs38 (.int (0 : Int32)) := hvs38 ▸ Arv.set Ar37 q37 S37 M37 H37 G37 rfl W38 _ rfl (own_ln hi0 (own_lt (by have q := Int32.lt_iff_toInt_lt.mp hlt; have h1 := own_nr2 hn; have h2 := own_ns2 hn; omega)) hvu)
    refine own_go st38 ?_
    have K38 : Keep h0 h38 [a] := K35.wr W38 (Or.inr sc22)
    have O38 := O35.wr W38 gc21
    have N38 := Fr.snoc X38 N35 gc21
    refine own_go (A := T38.setTop (mkF m 58 #[.val (.ref a), .val (.int n), .val (.int (2 : Int32)), .val (.int (2 : Int32)), .val (.int (i + (1 : Int32)))] [])) (fun t_ k_ => ?_) ?_
    · show Steps p.tables e below (T38.setTop (mkF m 86 #[.val (.ref a), .val (.int n), .val (.int (2 : Int32)), .val (.int (2 : Int32)), .val (.int i)] [])) t_
      refine XS.iinc X38.here hx rfl (hb hby d1_86) rfl (l' := #[.val (.ref a), .val (.int n), .val (.int (2 : Int32)), .val (.int (2 : Int32)), .val (.int (i + (1 : Int32)))]) rfl ?_
      refine XS.goto X38.here hx rfl (pc0 := 89) (pc' := 58) rfl (hb hby d1_89) (by decide) (by decide) ?_
      exact k_
    exact ih T38 h38 _ (i + (1 : Int32)) vs35 vs38 X38 e38 N38 K38 O38 zc0 zc1 zc2 zc3 zc4 ((zc5.wr W35).wr W38) ((zc6.other W35 (Or.inl nc26)).other W38 (Or.inl nc27)) ((zc7.other W35 (Or.inl nc26)).other W38 (Or.inl nc27)) ((zc8.other W35 (Or.inl nc26)).other W38 (Or.inl nc27)) ((zc9.other W35 (Or.inl nc26)).other W38 (Or.inl nc27)) ((zc10.other W35 (Or.inl nc26)).other W38 (Or.inl nc27)) ((zc11.other W35 (Or.inl nc26)).other W38 (Or.inl nc27)) ((zc12.wr W35).wr W38) ((zc13.other W35 (Or.inl nc28)).other W38 (Or.inl nc29)) ((zc14.other W35 (Or.inl nc28)).other W38 (Or.inl nc29)) ((zc15.other W35 (Or.inl nc28)).other W38 (Or.inl nc29)) (B35.other W38 nc25) B38 gc18 gc19 sc20 gc21 sc22 gc23 sc24 nc25 nc26 nc27 nc28 nc29 nc30 hbx hn hfc (by rw [own_inc hi0 hlt]; omega) (by rw [own_inc hi0 hlt]; omega) (by rw [hvs35, List.length_set]; exact hvw) (by rw [hvs38, List.length_set]; exact hvu) (by rw [hvs35]; exact own_pset hi0 hlt hvw hpr)
theorem ef_rmIni2 (m : MethodId) (a : Addr) (n : Int32) : entryFrame m #[(.ref a), (.int n), (.int (2 : Int32)), (.int (2 : Int32))] 5 = mkF m 0 #[.val (.ref a), .val (.int n), .val (.int (2 : Int32)), .val (.int (2 : Int32)), .unset] [] := by first | (simp [entryFrame, mkF, argsToLocals, Value.category]; done) | rfl
set_option maxRecDepth 65536 in
set_option maxHeartbeats 40000000 in
theorem rmIni2 (l : Launch) (Z : State) (a0 : Array Value) (hw : ∀ d ∈ tables_1, d.before a0 Z = true) (ws : List Jvm.Cond) (a : Addr) (n : Int32) (dc : Addr) (kd : ClassId) (ca : Addr) (bxc : Cell) (el : Addr) (h0 : Heap) (n0 : Nat) (Z0 : n0 ≤ h0.size) (O0 : Old Z n0 h0) (u1 : Sta Z Z.heap "java/util/ArrayList" "DEFAULTCAPACITY_EMPTY_ELEMENTDATA" "[Ljava/lang/Object;" (.ref dc)) (u2 : Arv Z Z.heap dc kd (.object "java/lang/Object") (0 : Int32) [] .null) (u3 : Sta Z Z.heap "java/lang/Integer$IntegerCache" "high" "I" (.int (127 : Int32))) (u4 : Sta Z Z.heap "java/lang/Integer$IntegerCache" "cache" "[Ljava/lang/Integer;" (.ref ca)) (hbx : Bxs Z ca bxc "java/lang/Integer" "I" (256 : Int32) own_bval) (u6 : Sta Z Z.heap "java/util/ImmutableCollections" "EMPTY_LIST" "Ljava/util/ImmutableCollections$ListN;" (.ref el)) (u7 : Exa Z h0 a "com/example/kneiphof/kneiphof/Assignment") (u8 : Fld Z h0 a "com/example/kneiphof/kneiphof/Assignment" "spares" "Ljava/util/List;" .null) (u9 : Fld Z h0 a "com/example/kneiphof/kneiphof/Assignment" "partitions" "I" (.int (0 : Int32))) (u10 : Fld Z h0 a "com/example/kneiphof/kneiphof/Assignment" "replicas" "I" (.int (0 : Int32))) (u11 : Fld Z h0 a "com/example/kneiphof/kneiphof/Assignment" "workers" "[I" .null) (u12 : Fld Z h0 a "com/example/kneiphof/kneiphof/Assignment" "slots" "[I" .null) (u13 : Fld Z h0 a "com/example/kneiphof/kneiphof/Assignment" "partitioning" "Lcom/example/kneiphof/kneiphof/Partitioning;" .null) (u14 : n0 ≤ a) (hn : 1 ≤ n.toInt ∧ n.toInt ≤ 4) :
    MetFree l own_y14 (head1 (Jvm.Cond.code own_y14 prog_5_method_1_code 5 none :: ws) ({ frames := 5, cells := 5, slots := 51, locals := 69 } : Room)) (fun a_ U_ => a_ = #[(.ref a), (.int n), (.int (2 : Int32)), (.int (2 : Int32))] ∧ Z.Warmed39 U_.vm ∧ U_.heap = h0) (fun _ _ _ _ _ => True) (fun _ U_ o_ U2_ => ∃ v_ L_, o_ = .returned v_ ∧ Q_rmIni2 Z a n dc kd ca bxc el h0 n0 v_ U2_.heap L_ ∧ FrameEnd U_ o_ U2_ L_ ({ frames := 5, cells := 5, slots := 51, locals := 69 } : Room).cells ({ frames := 5, cells := 5, slots := 51, locals := 69 } : Room).slots) := by
  refine MetFree.of_bodySF (plainFor_of_name pn_7) hisR ?_
  intro p e s m args below meth c s₁ Bd hml0 hP hK
  obtain ⟨rfl, hZ, hh⟩ := hP
  have hx := Bd.exec
  have hby := Bd.bytes
  have hml : c.maxLocals = 5 := hml0
  have hown : s.vm.findClass "com/example/kneiphof/kneiphof/Assignment" = some m.cls := findClass_of_methodNamed Bd.named
  have hnm := (name_of_methodNamed Bd.named Bd.method).1
  have X0 : Stand p l e ({ frames := 5, cells := 5, slots := 51, locals := 69 } : Room) s m #[(.ref a), (.int n), (.int (2 : Int32)), (.int (2 : Int32))] below meth c s₁ [] 0 0 := Stand.of_body Bd
  have e0 : s₁.heap = h0 := by rw [← hh, Bd.state]; rfl
  have N0 := Fr.nil n0
  refine own_go (A := s₁.setTop (mkF m 0 #[.val (.ref a), .val (.int n), .val (.int (2 : Int32)), .val (.int (2 : Int32)), .unset] [])) (fun t_ k_ => castTop (ef_rmIni2 m a n) k_) ?_
  refine own_go (A := s₁.setTop (mkF m 1 #[.val (.ref a), .val (.int n), .val (.int (2 : Int32)), .val (.int (2 : Int32)), .unset] [(.ref a)])) (fun t_ k_ => ?_) ?_
  · show Steps p.tables e below (s₁.setTop (mkF m 0 #[.val (.ref a), .val (.int n), .val (.int (2 : Int32)), .val (.int (2 : Int32)), .unset] [])) t_
    refine XS.aloadN X0.here hx rfl (hb hby d1_0) rfl rfl ?_
    exact k_
  obtain ⟨T1, X1, e1, st1⟩ := initO X0 hx hZ hown (own_w hw 7 rfl) (own_w hw 8 rfl) (own_w hw 9 rfl) e0 (g := (mkF m 1 #[.val (.ref a), .val (.int n), .val (.int (2 : Int32)), .val (.int (2 : Int32)), .unset] [(.ref a)])) rfl (by rw [hml]; rfl) rfl (hb hby d1_1) (by decide) (W := 0) (by show 2 * 0 + _ ≤ _; exact Nat.le_of_eq rfl) (by decide)
  refine own_go st1 ?_
  refine own_go (A := T1.setTop (mkF m 5 #[.val (.ref a), .val (.int n), .val (.int (2 : Int32)), .val (.int (2 : Int32)), .unset] [(.ref a)])) (fun t_ k_ => ?_) ?_
  · show Steps p.tables e below (T1.setTop (mkF m 4 #[.val (.ref a), .val (.int n), .val (.int (2 : Int32)), .val (.int (2 : Int32)), .unset] [])) t_
    refine XS.aloadN X1.here hx rfl (hb hby d1_4) rfl rfl ?_
    exact k_
  obtain ⟨T2, h2, X2, e2, E2, A2, D2, -, st2⟩ := newO X1 hx hZ hown (own_w hw 10 rfl) (own_w hw 11 rfl) (own_w hw 12 rfl) e1 (g := (mkF m 5 #[.val (.ref a), .val (.int n), .val (.int (2 : Int32)), .val (.int (2 : Int32)), .unset] [(.ref a)])) rfl (hb hby d1_5) (by decide) (by decide)
  obtain ⟨b2, g2⟩ : ∃ z, z = h0.size := ⟨_, rfl⟩
  rw [← g2] at A2 D2 st2
  refine own_go st2 ?_
  have K2 : Keep h0 h2 [a] := (Keep.refl h0 [a]).ext E2
  have O2 := O0.ext E2
  have F2_modCount : Fld Z h2 b2 "java/util/AbstractList" "modCount" "I" (.int (0 : Int32)) := D2 (Or.inl (own_w hw 30 rfl)) (ty := .int) (by decide)
  have F2_elementData : Fld Z h2 b2 "java/util/ArrayList" "elementData" "[Ljava/lang/Object;" .null := D2 (Or.inl (own_w hw 33 rfl)) (ty := (.array (.object "java/lang/Object"))) (by decide)
  have F2_size : Fld Z h2 b2 "java/util/ArrayList" "size" "I" (.int (0 : Int32)) := D2 (Or.inl (own_w hw 68 rfl)) (ty := .int) (by decide)
  refine own_go (A := T2.setTop (mkF m 9 #[.val (.ref a), .val (.int n), .val (.int (2 : Int32)), .val (.int (2 : Int32)), .unset] [(.ref b2), (.ref b2), (.ref a)])) (fun t_ k_ => ?_) ?_
  · show Steps p.tables e below (T2.setTop (mkF m 8 #[.val (.ref a), .val (.int n), .val (.int (2 : Int32)), .val (.int (2 : Int32)), .unset] [(.ref b2), (.ref a)])) t_
    refine XS.dup X2.here hx rfl (hb hby d1_8) rfl rfl ?_
    exact k_
  obtain ⟨_, _, ⟨T3, L3, k3, n3⟩, -, X3, ⟨Lc3, hQ3, l3, y3, z3⟩, st3⟩ := X2.specialBack hx (y := own_y3) rfl hown (mvT hZ (own_w hw 13 rfl)) (mvT hZ (own_w hw 14 rfl)) (mvT hZ (own_w hw 15 rfl)) (by decide) (backOf (W := 2) (rmALI l Z a0 hw [] b2 dc h2 n0 (Nat.le_trans Z0 K2.1) O2 u1 A2 F2_elementData F2_size F2_modCount (Nat.le_trans Z0 (Nat.le_of_eq g2.symm))) hZ (own_w hw 15 rfl) (own_w hw 12 rfl) (by decide) (by decide)) (g := (mkF m 9 #[.val (.ref a), .val (.int n), .val (.int (2 : Int32)), .val (.int (2 : Int32)), .unset] [(.ref b2), (.ref b2), (.ref a)])) rfl (by rw [hml]; rfl) (Steps.refl _) (a := b2) (argsL := []) (rest := [(.ref b2), (.ref a)]) (lenOf pd_0 rfl) rfl (by show 2 * 0 + _ ≤ _; exact Nat.le_of_eq rfl) (hb hby d1_9) (fun _ _ => ⟨rfl, e2, (by decide : 1 + 0 ≤ _), (by decide : 3 + 0 ≤ _)⟩)
  dsimp only [Pt.U, Pt.locs, Pt.cells, Pt.slots] at X3 l3 y3 z3 st3 hQ3
  subst l3 y3 z3
  obtain ⟨rfl, N3q, Kc3, r3_0, r3_1, r3_2⟩ := hQ3
  have N3 := Fr.app N0 N3q
  refine own_via st3 ?_
  have K3 : Keep h0 T3.heap [a] := K2.trans Kc3 (allS (P := fun x => x ∈ _ ∨ _ ≤ x) (Or.inr (Nat.le_of_eq g2.symm)) all0)
  have O3 := O2.keep Kc3 (allS (P := fun x => n0 ≤ x) (Nat.le_trans Z0 (Nat.le_of_eq g2.symm)) all0)
  obtain ⟨T4, h4, X4, e4, W4, st4⟩ := putF X3 hx hZ hown (host := "") (Or.inl (own_w hw 34 rfl)) Via.refl rfl ((u8.ext E2).keep Kc3 (ninS (Nat.ne_of_lt (Nat.lt_of_lt_of_le u7.lt (Nat.le_of_eq g2.symm))) nin0)) ((u7.ext E2).keep Kc3) (Or.inr ⟨(own_w hw 35 rfl), rfl, hnm⟩) (own_w hw 2 rfl) (ty := (.object "java/util/List")) (by decide) rfl rfl (g := (mkF m 12 #[.val (.ref a), .val (.int n), .val (.int (2 : Int32)), .val (.int (2 : Int32)), .unset] [(.ref b2), (.ref a)])) rfl rfl (hb hby d1_12)
  have Fw4 : Fld Z h4 a "com/example/kneiphof/kneiphof/Assignment" "spares" "Ljava/util/List;" (.ref b2) := ((u8.ext E2).keep Kc3 (ninS (Nat.ne_of_lt (Nat.lt_of_lt_of_le u7.lt (Nat.le_of_eq g2.symm))) nin0)).same W4
  refine own_go st4 ?_
  have K4 : Keep h0 h4 [a] := K3.wr W4 (Or.inl (List.mem_of_getElem? (i := 0) rfl))
  have O4 := O3.wr W4 u14
  have N4 := Fr.snoc X4 N3 u14
  refine own_go (A := T4.setTop (mkF m 17 #[.val (.ref a), .val (.int n), .val (.int (2 : Int32)), .val (.int (2 : Int32)), .unset] [(.int n), (.ref a)])) (fun t_ k_ => ?_) ?_
  · show Steps p.tables e below (T4.setTop (mkF m 15 #[.val (.ref a), .val (.int n), .val (.int (2 : Int32)), .val (.int (2 : Int32)), .unset] [])) t_
    refine XS.aloadN X4.here hx rfl (hb hby d1_15) rfl rfl ?_
    refine XS.iloadN X4.here hx rfl (hb hby d1_16) rfl ?_
    exact k_
  obtain ⟨T5, h5, X5, e5, W5, st5⟩ := putF X4 hx hZ hown (host := "") (Or.inl (own_w hw 36 rfl)) Via.refl e4 (((u9.ext E2).keep Kc3 (ninS (Nat.ne_of_lt (Nat.lt_of_lt_of_le u7.lt (Nat.le_of_eq g2.symm))) nin0)).other W4 (Or.inr (slot_ne (Or.inr (own_w hw 37 rfl)) (Or.inr (own_w hw 35 rfl)) (by decide) (t := .int) (t' := (.object "java/util/List")) (by decide) (by decide)))) (((u7.ext E2).keep Kc3).wr W4) (Or.inr ⟨(own_w hw 37 rfl), rfl, hnm⟩) (own_w hw 2 rfl) (ty := .int) (by decide) rfl rfl (g := (mkF m 17 #[.val (.ref a), .val (.int n), .val (.int (2 : Int32)), .val (.int (2 : Int32)), .unset] [(.int n), (.ref a)])) rfl rfl (hb hby d1_17)
  have Fw5 : Fld Z h5 a "com/example/kneiphof/kneiphof/Assignment" "partitions" "I" (.int n) := (((u9.ext E2).keep Kc3 (ninS (Nat.ne_of_lt (Nat.lt_of_lt_of_le u7.lt (Nat.le_of_eq g2.symm))) nin0)).other W4 (Or.inr (slot_ne (Or.inr (own_w hw 37 rfl)) (Or.inr (own_w hw 35 rfl)) (by decide) (t := .int) (t' := (.object "java/util/List")) (by decide) (by decide)))).same W5
  refine own_go st5 ?_
  have K5 : Keep h0 h5 [a] := K4.wr W5 (Or.inl (List.mem_of_getElem? (i := 0) rfl))
  have O5 := O4.wr W5 u14
  have N5 := Fr.snoc X5 N4 u14
  refine own_go (A := T5.setTop (mkF m 22 #[.val (.ref a), .val (.int n), .val (.int (2 : Int32)), .val (.int (2 : Int32)), .unset] [(.int (2 : Int32)), (.ref a)])) (fun t_ k_ => ?_) ?_
  · show Steps p.tables e below (T5.setTop (mkF m 20 #[.val (.ref a), .val (.int n), .val (.int (2 : Int32)), .val (.int (2 : Int32)), .unset] [])) t_
    refine XS.aloadN X5.here hx rfl (hb hby d1_20) rfl rfl ?_
    refine XS.iloadN X5.here hx rfl (hb hby d1_21) rfl ?_
    exact k_
  obtain ⟨T6, h6, X6, e6, W6, st6⟩ := putF X5 hx hZ hown (host := "") (Or.inl (own_w hw 38 rfl)) Via.refl e5 ((((u10.ext E2).keep Kc3 (ninS (Nat.ne_of_lt (Nat.lt_of_lt_of_le u7.lt (Nat.le_of_eq g2.symm))) nin0)).other W4 (Or.inr (slot_ne (Or.inr (own_w hw 39 rfl)) (Or.inr (own_w hw 35 rfl)) (by decide) (t := .int) (t' := (.object "java/util/List")) (by decide) (by decide)))).other W5 (Or.inr (slot_ne (Or.inr (own_w hw 39 rfl)) (Or.inr (own_w hw 37 rfl)) (by decide) (t := .int) (t' := .int) (by decide) (by decide)))) ((((u7.ext E2).keep Kc3).wr W4).wr W5) (Or.inr ⟨(own_w hw 39 rfl), rfl, hnm⟩) (own_w hw 2 rfl) (ty := .int) (by decide) rfl rfl (g := (mkF m 22 #[.val (.ref a), .val (.int n), .val (.int (2 : Int32)), .val (.int (2 : Int32)), .unset] [(.int (2 : Int32)), (.ref a)])) rfl rfl (hb hby d1_22)
  have Fw6 : Fld Z h6 a "com/example/kneiphof/kneiphof/Assignment" "replicas" "I" (.int (2 : Int32)) := ((((u10.ext E2).keep Kc3 (ninS (Nat.ne_of_lt (Nat.lt_of_lt_of_le u7.lt (Nat.le_of_eq g2.symm))) nin0)).other W4 (Or.inr (slot_ne (Or.inr (own_w hw 39 rfl)) (Or.inr (own_w hw 35 rfl)) (by decide) (t := .int) (t' := (.object "java/util/List")) (by decide) (by decide)))).other W5 (Or.inr (slot_ne (Or.inr (own_w hw 39 rfl)) (Or.inr (own_w hw 37 rfl)) (by decide) (t := .int) (t' := .int) (by decide) (by decide)))).same W6
  refine own_go st6 ?_
  have K6 : Keep h0 h6 [a] := K5.wr W6 (Or.inl (List.mem_of_getElem? (i := 0) rfl))
  have O6 := O5.wr W6 u14
  have N6 := Fr.snoc X6 N5 u14
  refine own_go (A := T6.setTop (mkF m 29 #[.val (.ref a), .val (.int n), .val (.int (2 : Int32)), .val (.int (2 : Int32)), .unset] [(.int (n * (2 : Int32))), (.ref a)])) (fun t_ k_ => ?_) ?_
  · show Steps p.tables e below (T6.setTop (mkF m 25 #[.val (.ref a), .val (.int n), .val (.int (2 : Int32)), .val (.int (2 : Int32)), .unset] [])) t_
    refine XS.aloadN X6.here hx rfl (hb hby d1_25) rfl rfl ?_
    refine XS.iloadN X6.here hx rfl (hb hby d1_26) rfl ?_
    refine XS.iloadN X6.here hx rfl (hb hby d1_27) rfl ?_
    refine XS.imul X6.here hx rfl (hb hby d1_28) rfl ?_
    exact k_
  obtain ⟨T7, h7, k7, X7, e7, E7, A7, fc7, st7⟩ := own_newI X6 hx hZ (own_w hw 40 rfl) e6 (g := (mkF m 29 #[.val (.ref a), .val (.int n), .val (.int (2 : Int32)), .val (.int (2 : Int32)), .unset] [(.int (n * (2 : Int32))), (.ref a)])) rfl (hb hby d1_29) rfl (own_n0 (by rw [own_nr2 hn]; omega)) (cap := 16) (by have h := own_nr2 hn; have q := own_tn (x := (n * (2 : Int32))) (by omega); omega) (by decide) (by decide) (by decide)
  obtain ⟨b7, g7⟩ : ∃ z, z = h6.size := ⟨_, rfl⟩
  rw [← g7] at A7 st7
  refine own_go st7 ?_
  have K7 : Keep h0 h7 [a] := K6.ext E7
  have O7 := O6.ext E7
  obtain ⟨vs7, hvs7⟩ : ∃ z_ : List Value, z_ = List.replicate ((n * (2 : Int32))).toNatClampNeg (.int (0 : Int32)) := ⟨_, rfl⟩
  have B7 : Arv Z h7 b7 k7 .int (n * (2 : Int32)) vs7 (.int (0 : Int32)) := hvs7 ▸ (Arv.new A7 (own_n0 (by rw [own_nr2 hn]; omega))).pad (pad_rep [] (.int (0 : Int32)) _)
  have ln7 : vs7.length = ((n * (2 : Int32))).toNatClampNeg := by rw [hvs7]; exact List.length_replicate
  obtain ⟨T8, h8, X8, e8, W8, st8⟩ := putF X7 hx hZ hown (host := "") (Or.inl (own_w hw 41 rfl)) Via.refl e7 ((((((u11.ext E2).keep Kc3 (ninS (Nat.ne_of_lt (Nat.lt_of_lt_of_le u7.lt (Nat.le_of_eq g2.symm))) nin0)).other W4 (Or.inr (slot_ne (Or.inr (own_w hw 42 rfl)) (Or.inr (own_w hw 35 rfl)) (by decide) (t := (.array .int)) (t' := (.object "java/util/List")) (by decide) (by decide)))).other W5 (Or.inr (slot_ne (Or.inr (own_w hw 42 rfl)) (Or.inr (own_w hw 37 rfl)) (by decide) (t := (.array .int)) (t' := .int) (by decide) (by decide)))).other W6 (Or.inr (slot_ne (Or.inr (own_w hw 42 rfl)) (Or.inr (own_w hw 39 rfl)) (by decide) (t := (.array .int)) (t' := .int) (by decide) (by decide)))).ext E7) ((((((u7.ext E2).keep Kc3).wr W4).wr W5).wr W6).ext E7) (Or.inr ⟨(own_w hw 42 rfl), rfl, hnm⟩) (own_w hw 2 rfl) (ty := (.array .int)) (by decide) rfl rfl (g := (mkF m 31 #[.val (.ref a), .val (.int n), .val (.int (2 : Int32)), .val (.int (2 : Int32)), .unset] [(.ref b7), (.ref a)])) rfl rfl (hb hby d1_31)
  have Fw8 : Fld Z h8 a "com/example/kneiphof/kneiphof/Assignment" "workers" "[I" (.ref b7) := ((((((u11.ext E2).keep Kc3 (ninS (Nat.ne_of_lt (Nat.lt_of_lt_of_le u7.lt (Nat.le_of_eq g2.symm))) nin0)).other W4 (Or.inr (slot_ne (Or.inr (own_w hw 42 rfl)) (Or.inr (own_w hw 35 rfl)) (by decide) (t := (.array .int)) (t' := (.object "java/util/List")) (by decide) (by decide)))).other W5 (Or.inr (slot_ne (Or.inr (own_w hw 42 rfl)) (Or.inr (own_w hw 37 rfl)) (by decide) (t := (.array .int)) (t' := .int) (by decide) (by decide)))).other W6 (Or.inr (slot_ne (Or.inr (own_w hw 42 rfl)) (Or.inr (own_w hw 39 rfl)) (by decide) (t := (.array .int)) (t' := .int) (by decide) (by decide)))).ext E7).same W8
  refine own_go st8 ?_
  have K8 : Keep h0 h8 [a] := K7.wr W8 (Or.inl (List.mem_of_getElem? (i := 0) rfl))
  have O8 := O7.wr W8 u14
  have N8 := Fr.snoc X8 N6 u14
  refine own_go (A := T8.setTop (mkF m 36 #[.val (.ref a), .val (.int n), .val (.int (2 : Int32)), .val (.int (2 : Int32)), .unset] [(.ref a), (.ref a)])) (fun t_ k_ => ?_) ?_
  · show Steps p.tables e below (T8.setTop (mkF m 34 #[.val (.ref a), .val (.int n), .val (.int (2 : Int32)), .val (.int (2 : Int32)), .unset] [])) t_
    refine XS.aloadN X8.here hx rfl (hb hby d1_34) rfl rfl ?_
    refine XS.aloadN X8.here hx rfl (hb hby d1_35) rfl rfl ?_
    exact k_
  obtain ⟨T9, X9, e9, st9⟩ := getF X8 hx hZ hown (host := "") (Or.inl (own_w hw 41 rfl)) Via.refl e8 Fw8 (g := (mkF m 36 #[.val (.ref a), .val (.int n), .val (.int (2 : Int32)), .val (.int (2 : Int32)), .unset] [(.ref a), (.ref a)])) rfl rfl (hb hby d1_36)
  refine own_go st9 ?_
  obtain ⟨cl10, Ar10, q10, S10, M10, H10, G10⟩ := id (B7.other W8 (Ne.symm (Nat.ne_of_lt (Nat.lt_of_lt_of_le Fw6.lt (Nat.le_of_eq g7.symm)))))
  refine own_go (A := T9.setTop (mkF m 42 #[.val (.ref a), .val (.int n), .val (.int (2 : Int32)), .val (.int (2 : Int32)), .unset] [(.int ((n * (2 : Int32)) + (2 : Int32))), (.ref a)])) (fun t_ k_ => ?_) ?_
  · show Steps p.tables e below (T9.setTop (mkF m 39 #[.val (.ref a), .val (.int n), .val (.int (2 : Int32)), .val (.int (2 : Int32)), .unset] [(.ref b7), (.ref a)])) t_
    refine X9.arraylength hx (by rw [e9]; exact Ar10.1) (State.isArrayOf_alike hZ.alike Ar10.2.1) (g := (mkF m 39 #[.val (.ref a), .val (.int n), .val (.int (2 : Int32)), .val (.int (2 : Int32)), .unset] [(.ref b7), (.ref a)])) rfl rfl (hb hby d1_39) _ ?_
    rw [len_of S10 M10]
    refine XS.iloadN X9.here hx rfl (hb hby d1_40) rfl ?_
    refine XS.iadd X9.here hx rfl (hb hby d1_41) rfl ?_
    exact k_
  obtain ⟨T11, h11, k11, X11, e11, E11, A11, st11⟩ := newP X9 hx hZ (own_w hw 40 rfl) e9 (g := (mkF m 42 #[.val (.ref a), .val (.int n), .val (.int (2 : Int32)), .val (.int (2 : Int32)), .unset] [(.int ((n * (2 : Int32)) + (2 : Int32))), (.ref a)])) rfl (hb hby d1_42) rfl (own_n0 (by rw [own_ns2 hn]; omega)) (cap := 20) (by have h := own_ns2 hn; have q := own_tn (x := ((n * (2 : Int32)) + (2 : Int32))) (by omega); omega) (by decide) (by decide) (by decide)
  obtain ⟨b11, g11⟩ : ∃ z, z = h8.size := ⟨_, rfl⟩
  rw [← g11] at A11 st11
  refine own_go st11 ?_
  have K11 : Keep h0 h11 [a] := K8.ext E11
  have O11 := O8.ext E11
  obtain ⟨vs11, hvs11⟩ : ∃ z_ : List Value, z_ = List.replicate (((n * (2 : Int32)) + (2 : Int32))).toNatClampNeg (.int (0 : Int32)) := ⟨_, rfl⟩
  have B11 : Arv Z h11 b11 k11 .int ((n * (2 : Int32)) + (2 : Int32)) vs11 (.int (0 : Int32)) := hvs11 ▸ (Arv.new A11 (own_n0 (by rw [own_ns2 hn]; omega))).pad (pad_rep [] (.int (0 : Int32)) _)
  have ln11 : vs11.length = (((n * (2 : Int32)) + (2 : Int32))).toNatClampNeg := by rw [hvs11]; exact List.length_replicate
  obtain ⟨T12, h12, X12, e12, W12, st12⟩ := putF X11 hx hZ hown (host := "") (Or.inl (own_w hw 43 rfl)) Via.refl e11 ((((((((u12.ext E2).keep Kc3 (ninS (Nat.ne_of_lt (Nat.lt_of_lt_of_le u7.lt (Nat.le_of_eq g2.symm))) nin0)).other W4 (Or.inr (slot_ne (Or.inr (own_w hw 44 rfl)) (Or.inr (own_w hw 35 rfl)) (by decide) (t := (.array .int)) (t' := (.object "java/util/List")) (by decide) (by decide)))).other W5 (Or.inr (slot_ne (Or.inr (own_w hw 44 rfl)) (Or.inr (own_w hw 37 rfl)) (by decide) (t := (.array .int)) (t' := .int) (by decide) (by decide)))).other W6 (Or.inr (slot_ne (Or.inr (own_w hw 44 rfl)) (Or.inr (own_w hw 39 rfl)) (by decide) (t := (.array .int)) (t' := .int) (by decide) (by decide)))).ext E7).other W8 (Or.inr (slot_ne (Or.inr (own_w hw 44 rfl)) (Or.inr (own_w hw 42 rfl)) (by decide) (t := (.array .int)) (t' := (.array .int)) (by decide) (by decide)))).ext E11) ((((((((u7.ext E2).keep Kc3).wr W4).wr W5).wr W6).ext E7).wr W8).ext E11) (Or.inr ⟨(own_w hw 44 rfl), rfl, hnm⟩) (own_w hw 2 rfl) (ty := (.array .int)) (by decide) rfl rfl (g := (mkF m 44 #[.val (.ref a), .val (.int n), .val (.int (2 : Int32)), .val (.int (2 : Int32)), .unset] [(.ref b11), (.ref a)])) rfl rfl (hb hby d1_44)
  have Fw12 : Fld Z h12 a "com/example/kneiphof/kneiphof/Assignment" "slots" "[I" (.ref b11) := ((((((((u12.ext E2).keep Kc3 (ninS (Nat.ne_of_lt (Nat.lt_of_lt_of_le u7.lt (Nat.le_of_eq g2.symm))) nin0)).other W4 (Or.inr (slot_ne (Or.inr (own_w hw 44 rfl)) (Or.inr (own_w hw 35 rfl)) (by decide) (t := (.array .int)) (t' := (.object "java/util/List")) (by decide) (by decide)))).other W5 (Or.inr (slot_ne (Or.inr (own_w hw 44 rfl)) (Or.inr (own_w hw 37 rfl)) (by decide) (t := (.array .int)) (t' := .int) (by decide) (by decide)))).other W6 (Or.inr (slot_ne (Or.inr (own_w hw 44 rfl)) (Or.inr (own_w hw 39 rfl)) (by decide) (t := (.array .int)) (t' := .int) (by decide) (by decide)))).ext E7).other W8 (Or.inr (slot_ne (Or.inr (own_w hw 44 rfl)) (Or.inr (own_w hw 42 rfl)) (by decide) (t := (.array .int)) (t' := (.array .int)) (by decide) (by decide)))).ext E11).same W12
  refine own_go st12 ?_
  have K12 : Keep h0 h12 [a] := K11.wr W12 (Or.inl (List.mem_of_getElem? (i := 0) rfl))
  have O12 := O11.wr W12 u14
  have N12 := Fr.snoc X12 N8 u14
  refine own_go (A := T12.setTop (mkF m 48 #[.val (.ref a), .val (.int n), .val (.int (2 : Int32)), .val (.int (2 : Int32)), .unset] [(.ref a)])) (fun t_ k_ => ?_) ?_
  · show Steps p.tables e below (T12.setTop (mkF m 47 #[.val (.ref a), .val (.int n), .val (.int (2 : Int32)), .val (.int (2 : Int32)), .unset] [])) t_
    refine XS.aloadN X12.here hx rfl (hb hby d1_47) rfl rfl ?_
    exact k_
  obtain ⟨T13, X13, e13, st13⟩ := getF X12 hx hZ hown (host := "") (Or.inl (own_w hw 43 rfl)) Via.refl e12 Fw12 (g := (mkF m 48 #[.val (.ref a), .val (.int n), .val (.int (2 : Int32)), .val (.int (2 : Int32)), .unset] [(.ref a)])) rfl rfl (hb hby d1_48)
  refine own_go st13 ?_
  refine own_go (A := T13.setTop (mkF m 52 #[.val (.ref a), .val (.int n), .val (.int (2 : Int32)), .val (.int (2 : Int32)), .unset] [(.int (-1 : Int32)), (.ref b11)])) (fun t_ k_ => ?_) ?_
  · show Steps p.tables e below (T13.setTop (mkF m 51 #[.val (.ref a), .val (.int n), .val (.int (2 : Int32)), .val (.int (2 : Int32)), .unset] [(.ref b11)])) t_
    refine XS.iconst X13.here hx rfl (hb hby d1_51) ?_
    exact k_
  obtain ⟨_, _, ⟨T14, L14, k14, n14⟩, -, X14, ⟨Lc14, hQ14, l14, y14, z14⟩, st14⟩ := Jvm.LawKit.callS X13 hx (y := own_y0) hown (mvT hZ (own_w hw 45 rfl)) (mvT hZ (own_w hw 46 rfl)) (mvT hZ (own_w hw 47 rfl)) (mvT hZ (own_w hw 48 rfl)) (by decide) (backOf (W := 0) (rmFill l Z a0 hw [] b11 (-1 : Int32) k11 ((n * (2 : Int32)) + (2 : Int32)) vs11 h12 n0 (Nat.le_trans Z0 K12.1) (B11.other W12 (Ne.symm (Nat.ne_of_lt (Nat.lt_of_lt_of_le Fw8.lt (Nat.le_of_eq g11.symm))))) (Nat.le_trans Z0 (Nat.le_trans K8.1 (Nat.le_of_eq g11.symm))) ln11 (by rw [own_ns2 hn]; omega)) hZ (own_w hw 48 rfl) (own_w hw 47 rfl) (by decide) (by decide)) (g := (mkF m 52 #[.val (.ref a), .val (.int n), .val (.int (2 : Int32)), .val (.int (2 : Int32)), .unset] [(.int (-1 : Int32)), (.ref b11)])) rfl (by rw [hml]; rfl) (argsL := [(.ref b11), (.int (-1 : Int32))]) (rest := []) (lenOf pd_7 rfl) rfl (by show 2 * 0 + _ ≤ _; exact Nat.le_of_eq rfl) (hb hby d1_52) (fun _ _ => ⟨rfl, e13, (by decide : 3 + 0 ≤ _), (by decide : 39 + 0 ≤ _)⟩)
  dsimp only [Pt.U, Pt.locs, Pt.cells, Pt.slots] at X14 l14 y14 z14 st14 hQ14
  subst l14 y14 z14
  obtain ⟨vr_14, rfl, N14q, Kc14, r14_0, w14_0⟩ := hQ14
  have N14 := Fr.app N12 N14q
  refine own_go st14 ?_
  have K14 : Keep h0 T14.heap [a] := K12.trans Kc14 (allS (P := fun x => x ∈ _ ∨ _ ≤ x) (Or.inr (Nat.le_trans K8.1 (Nat.le_of_eq g11.symm))) all0)
  have O14 := O12.keep Kc14 (allS (P := fun x => n0 ≤ x) (Nat.le_trans Z0 (Nat.le_trans K8.1 (Nat.le_of_eq g11.symm))) all0)
  refine own_go (A := T14.setTop (mkF m 58 #[.val (.ref a), .val (.int n), .val (.int (2 : Int32)), .val (.int (2 : Int32)), .val (.int (0 : Int32))] [])) (fun t_ k_ => ?_) ?_
  · show Steps p.tables e below (T14.setTop (mkF m 55 #[.val (.ref a), .val (.int n), .val (.int (2 : Int32)), .val (.int (2 : Int32)), .unset] [])) t_
    refine XS.iconst X14.here hx rfl (hb hby d1_55) ?_
    refine XS.istore X14.here hx rfl (hb hby d1_56) rfl (l' := #[.val (.ref a), .val (.int n), .val (.int (2 : Int32)), .val (.int (2 : Int32)), .val (.int (0 : Int32))]) rfl ?_
    exact k_
  exact own_ini2 l Z a0 hw a n dc kd ca bxc el b2 b7 b11 k7 k11 h0 n0 Z0 hx hZ hby hml hown Bd.returns (BodyLoose.notSynchronized Bd) hh (((n * (2 : Int32))).toInt).toNat T14 T14.heap _ (0 : Int32) vs7 vr_14 X14 rfl N14 K14 O14 u1 u2 u3 u4 u6 ((((((((((u7.ext E2).keep Kc3).wr W4).wr W5).wr W6).ext E7).wr W8).ext E11).wr W12).keep Kc14) (((((((Fw4.other W5 (Or.inr (slot_ne (Or.inr (own_w hw 35 rfl)) (Or.inr (own_w hw 37 rfl)) (by decide) (t := (.object "java/util/List")) (t' := .int) (by decide) (by decide)))).other W6 (Or.inr (slot_ne (Or.inr (own_w hw 35 rfl)) (Or.inr (own_w hw 39 rfl)) (by decide) (t := (.object "java/util/List")) (t' := .int) (by decide) (by decide)))).ext E7).other W8 (Or.inr (slot_ne (Or.inr (own_w hw 35 rfl)) (Or.inr (own_w hw 42 rfl)) (by decide) (t := (.object "java/util/List")) (t' := (.array .int)) (by decide) (by decide)))).ext E11).other W12 (Or.inr (slot_ne (Or.inr (own_w hw 35 rfl)) (Or.inr (own_w hw 44 rfl)) (by decide) (t := (.object "java/util/List")) (t' := (.array .int)) (by decide) (by decide)))).keep Kc14 (ninS (Nat.ne_of_lt (Nat.lt_of_lt_of_le Fw8.lt (Nat.le_of_eq g11.symm))) nin0)) ((((((Fw5.other W6 (Or.inr (slot_ne (Or.inr (own_w hw 37 rfl)) (Or.inr (own_w hw 39 rfl)) (by decide) (t := .int) (t' := .int) (by decide) (by decide)))).ext E7).other W8 (Or.inr (slot_ne (Or.inr (own_w hw 37 rfl)) (Or.inr (own_w hw 42 rfl)) (by decide) (t := .int) (t' := (.array .int)) (by decide) (by decide)))).ext E11).other W12 (Or.inr (slot_ne (Or.inr (own_w hw 37 rfl)) (Or.inr (own_w hw 44 rfl)) (by decide) (t := .int) (t' := (.array .int)) (by decide) (by decide)))).keep Kc14 (ninS (Nat.ne_of_lt (Nat.lt_of_lt_of_le Fw8.lt (Nat.le_of_eq g11.symm))) nin0)) (((((Fw6.ext E7).other W8 (Or.inr (slot_ne (Or.inr (own_w hw 39 rfl)) (Or.inr (own_w hw 42 rfl)) (by decide) (t := .int) (t' := (.array .int)) (by decide) (by decide)))).ext E11).other W12 (Or.inr (slot_ne (Or.inr (own_w hw 39 rfl)) (Or.inr (own_w hw 44 rfl)) (by decide) (t := .int) (t' := (.array .int)) (by decide) (by decide)))).keep Kc14 (ninS (Nat.ne_of_lt (Nat.lt_of_lt_of_le Fw8.lt (Nat.le_of_eq g11.symm))) nin0)) (((Fw8.ext E11).other W12 (Or.inr (slot_ne (Or.inr (own_w hw 42 rfl)) (Or.inr (own_w hw 44 rfl)) (by decide) (t := (.array .int)) (t' := (.array .int)) (by decide) (by decide)))).keep Kc14 (ninS (Nat.ne_of_lt (Nat.lt_of_lt_of_le Fw8.lt (Nat.le_of_eq g11.symm))) nin0)) (Fw12.keep Kc14 (ninS (Nat.ne_of_lt (Nat.lt_of_lt_of_le Fw8.lt (Nat.le_of_eq g11.symm))) nin0)) ((((((((((u13.ext E2).keep Kc3 (ninS (Nat.ne_of_lt (Nat.lt_of_lt_of_le u7.lt (Nat.le_of_eq g2.symm))) nin0)).other W4 (Or.inr (slot_ne (Or.inl (own_w hw 112 rfl)) (Or.inr (own_w hw 35 rfl)) (by decide) (t := (.object "com/example/kneiphof/kneiphof/Partitioning")) (t' := (.object "java/util/List")) (by decide) (by decide)))).other W5 (Or.inr (slot_ne (Or.inl (own_w hw 112 rfl)) (Or.inr (own_w hw 37 rfl)) (by decide) (t := (.object "com/example/kneiphof/kneiphof/Partitioning")) (t' := .int) (by decide) (by decide)))).other W6 (Or.inr (slot_ne (Or.inl (own_w hw 112 rfl)) (Or.inr (own_w hw 39 rfl)) (by decide) (t := (.object "com/example/kneiphof/kneiphof/Partitioning")) (t' := .int) (by decide) (by decide)))).ext E7).other W8 (Or.inr (slot_ne (Or.inl (own_w hw 112 rfl)) (Or.inr (own_w hw 42 rfl)) (by decide) (t := (.object "com/example/kneiphof/kneiphof/Partitioning")) (t' := (.array .int)) (by decide) (by decide)))).ext E11).other W12 (Or.inr (slot_ne (Or.inl (own_w hw 112 rfl)) (Or.inr (own_w hw 44 rfl)) (by decide) (t := (.object "com/example/kneiphof/kneiphof/Partitioning")) (t' := (.array .int)) (by decide) (by decide)))).keep Kc14 (ninS (Nat.ne_of_lt (Nat.lt_of_lt_of_le Fw8.lt (Nat.le_of_eq g11.symm))) nin0)) (((((((((A2.keep Kc3).wr W4).wr W5).wr W6).ext E7).wr W8).ext E11).wr W12).keep Kc14) ((((((((r3_0.other W4 (Or.inl (Ne.symm (Nat.ne_of_lt (Nat.lt_of_lt_of_le u7.lt (Nat.le_of_eq g2.symm)))))).other W5 (Or.inl (Ne.symm (Nat.ne_of_lt (Nat.lt_of_lt_of_le u7.lt (Nat.le_of_eq g2.symm)))))).other W6 (Or.inl (Ne.symm (Nat.ne_of_lt (Nat.lt_of_lt_of_le u7.lt (Nat.le_of_eq g2.symm)))))).ext E7).other W8 (Or.inl (Ne.symm (Nat.ne_of_lt (Nat.lt_of_lt_of_le u7.lt (Nat.le_of_eq g2.symm)))))).ext E11).other W12 (Or.inl (Ne.symm (Nat.ne_of_lt (Nat.lt_of_lt_of_le u7.lt (Nat.le_of_eq g2.symm)))))).keep Kc14 (ninS (Nat.ne_of_lt (Nat.lt_of_lt_of_le (Nat.lt_of_lt_of_le (Nat.lt_of_lt_of_le (Nat.lt_of_lt_of_le (Nat.lt_of_lt_of_le (Nat.lt_of_lt_of_le r3_0.lt (Keep.of_wr W4).1) (Keep.of_wr W5).1) (Keep.of_wr W6).1) E7.1) (Keep.of_wr W8).1) (Nat.le_of_eq g11.symm))) nin0)) ((((((((r3_1.other W4 (Or.inl (Ne.symm (Nat.ne_of_lt (Nat.lt_of_lt_of_le u7.lt (Nat.le_of_eq g2.symm)))))).other W5 (Or.inl (Ne.symm (Nat.ne_of_lt (Nat.lt_of_lt_of_le u7.lt (Nat.le_of_eq g2.symm)))))).other W6 (Or.inl (Ne.symm (Nat.ne_of_lt (Nat.lt_of_lt_of_le u7.lt (Nat.le_of_eq g2.symm)))))).ext E7).other W8 (Or.inl (Ne.symm (Nat.ne_of_lt (Nat.lt_of_lt_of_le u7.lt (Nat.le_of_eq g2.symm)))))).ext E11).other W12 (Or.inl (Ne.symm (Nat.ne_of_lt (Nat.lt_of_lt_of_le u7.lt (Nat.le_of_eq g2.symm)))))).keep Kc14 (ninS (Nat.ne_of_lt (Nat.lt_of_lt_of_le (Nat.lt_of_lt_of_le (Nat.lt_of_lt_of_le (Nat.lt_of_lt_of_le (Nat.lt_of_lt_of_le (Nat.lt_of_lt_of_le r3_0.lt (Keep.of_wr W4).1) (Keep.of_wr W5).1) (Keep.of_wr W6).1) E7.1) (Keep.of_wr W8).1) (Nat.le_of_eq g11.symm))) nin0)) ((((((((r3_2.other W4 (Or.inl (Ne.symm (Nat.ne_of_lt (Nat.lt_of_lt_of_le u7.lt (Nat.le_of_eq g2.symm)))))).other W5 (Or.inl (Ne.symm (Nat.ne_of_lt (Nat.lt_of_lt_of_le u7.lt (Nat.le_of_eq g2.symm)))))).other W6 (Or.inl (Ne.symm (Nat.ne_of_lt (Nat.lt_of_lt_of_le u7.lt (Nat.le_of_eq g2.symm)))))).ext E7).other W8 (Or.inl (Ne.symm (Nat.ne_of_lt (Nat.lt_of_lt_of_le u7.lt (Nat.le_of_eq g2.symm)))))).ext E11).other W12 (Or.inl (Ne.symm (Nat.ne_of_lt (Nat.lt_of_lt_of_le u7.lt (Nat.le_of_eq g2.symm)))))).keep Kc14 (ninS (Nat.ne_of_lt (Nat.lt_of_lt_of_le (Nat.lt_of_lt_of_le (Nat.lt_of_lt_of_le (Nat.lt_of_lt_of_le (Nat.lt_of_lt_of_le (Nat.lt_of_lt_of_le r3_0.lt (Keep.of_wr W4).1) (Keep.of_wr W5).1) (Keep.of_wr W6).1) E7.1) (Keep.of_wr W8).1) (Nat.le_of_eq g11.symm))) nin0)) ((((B7.other W8 (Ne.symm (Nat.ne_of_lt (Nat.lt_of_lt_of_le Fw6.lt (Nat.le_of_eq g7.symm))))).ext E11).other W12 (Ne.symm (Nat.ne_of_lt (Nat.lt_of_lt_of_le Fw6.lt (Nat.le_of_eq g7.symm))))).keep Kc14 (ninS (Nat.ne_of_lt (Nat.lt_of_lt_of_le (Nat.lt_of_lt_of_le B7.lt (Keep.of_wr W8).1) (Nat.le_of_eq g11.symm))) nin0)) r14_0 u14 (Nat.le_trans Z0 (Nat.le_trans K6.1 (Nat.le_of_eq g7.symm))) (Nat.le_trans K6.1 (Nat.le_of_eq g7.symm)) (Nat.le_trans Z0 (Nat.le_trans K8.1 (Nat.le_of_eq g11.symm))) (Nat.le_trans K8.1 (Nat.le_of_eq g11.symm)) (Nat.le_trans Z0 (Nat.le_of_eq g2.symm)) (Nat.le_of_eq g2.symm) (Nat.ne_of_lt (Nat.lt_of_lt_of_le (Nat.lt_of_lt_of_le B7.lt (Keep.of_wr W8).1) (Nat.le_of_eq g11.symm))) (Nat.ne_of_lt (Nat.lt_of_lt_of_le Fw6.lt (Nat.le_of_eq g7.symm))) (Nat.ne_of_lt (Nat.lt_of_lt_of_le Fw8.lt (Nat.le_of_eq g11.symm))) (Nat.ne_of_lt (Nat.lt_of_lt_of_le (Nat.lt_of_lt_of_le (Nat.lt_of_lt_of_le (Nat.lt_of_lt_of_le r3_0.lt (Keep.of_wr W4).1) (Keep.of_wr W5).1) (Keep.of_wr W6).1) (Nat.le_of_eq g7.symm))) (Nat.ne_of_lt (Nat.lt_of_lt_of_le (Nat.lt_of_lt_of_le (Nat.lt_of_lt_of_le (Nat.lt_of_lt_of_le (Nat.lt_of_lt_of_le (Nat.lt_of_lt_of_le r3_0.lt (Keep.of_wr W4).1) (Keep.of_wr W5).1) (Keep.of_wr W6).1) E7.1) (Keep.of_wr W8).1) (Nat.le_of_eq g11.symm))) (Nat.ne_of_lt (Nat.lt_of_lt_of_le u7.lt (Nat.le_of_eq g2.symm))) hbx hn fc7 (by show (0 : Int) + _ = _; have := own_nr2 hn; omega) (Int.le_refl 0) ln7 w14_0 (fun j hj => absurd hj (by show ¬ ((j : Int) < 0); omega))
def Q_rmIni3 (Z : State) (a : Addr) (n : Int32) (dc : Addr) (kd : ClassId) (ca : Addr) (bxc : Cell) (el : Addr) (h0 : Heap) (n0 : Nat) (v_ : Option Value) (h_ : Heap) (L_ : List Loc) : Prop := ∃ wk : Addr, ∃ kw : ClassId, ∃ sl : Addr, ∃ ks : ClassId, ∃ al : Addr, ∃ ed : Addr, ∃ kk : ClassId, ∃ mc : Int32, ∃ vw : List Value, ∃ vu : List Value, ∃ x0_ : Addr, ∃ x1_ : Addr, ∃ x2_ : Addr, v_ = none ∧ Fr n0 L_ ∧ Keep h0 h_ [a] ∧ h0.size ≤ wk ∧ h0.size ≤ sl ∧ h0.size ≤ al ∧ h0.size ≤ ed ∧ Fld Z h_ a "com/example/kneiphof/kneiphof/Assignment" "workers" "[I" (.ref wk) ∧ Fld Z h_ a "com/example/kneiphof/kneiphof/Assignment" "slots" "[I" (.ref sl) ∧ Fld Z h_ a "com/example/kneiphof/kneiphof/Assignment" "spares" "Ljava/util/List;" (.ref al) ∧ Fld Z h_ a "com/example/kneiphof/kneiphof/Assignment" "replicas" "I" (.int (3 : Int32)) ∧ Arv Z h_ wk kw .int (n * (3 : Int32)) vw (.int (0 : Int32)) ∧ Arv Z h_ sl ks .int ((n * (3 : Int32)) + (3 : Int32)) vu (.int (0 : Int32)) ∧ Exa Z h_ al "java/util/ArrayList" ∧ Fld Z h_ al "java/util/ArrayList" "elementData" "[Ljava/lang/Object;" (.ref ed) ∧ Fld Z h_ al "java/util/ArrayList" "size" "I" (.int (3 : Int32)) ∧ Fld Z h_ al "java/util/AbstractList" "modCount" "I" (.int mc) ∧ Arv Z h_ ed kk (.object "java/lang/Object") (10 : Int32) [(.ref x0_), (.ref x1_), (.ref x2_), .null, .null, .null, .null, .null, .null, .null] .null ∧ Ovr Z kk "java/lang/Object" ∧ wk ≠ sl ∧ wk ≠ al ∧ wk ≠ ed ∧ sl ≠ al ∧ sl ≠ ed ∧ al ≠ ed ∧ Exa Z Z.heap x0_ "java/lang/Integer" ∧ Fld Z Z.heap x0_ "java/lang/Integer" "value" "I" (.int (n * (3 : Int32))) ∧ Exa Z Z.heap x1_ "java/lang/Integer" ∧ Fld Z Z.heap x1_ "java/lang/Integer" "value" "I" (.int ((n * (3 : Int32)) + (1 : Int32))) ∧ Exa Z Z.heap x2_ "java/lang/Integer" ∧ Fld Z Z.heap x2_ "java/lang/Integer" "value" "I" (.int ((n * (3 : Int32)) + (2 : Int32))) ∧ (vw.length = ((n * (3 : Int32))).toNatClampNeg) ∧ (vu.length = (((n * (3 : Int32)) + (3 : Int32))).toNatClampNeg) ∧ (own_pre vw ((n * (3 : Int32))).toInt) ∧ (Z.vm.findClass "[I" = some kw)
set_option maxRecDepth 65536 in
set_option maxHeartbeats 40000000 in
theorem own_ini3 (l : Launch) (Z : State) (a0 : Array Value) (hw : ∀ d ∈ tables_1, d.before a0 Z = true) (a : Addr) (n : Int32) (dc : Addr) (kd : ClassId) (ca : Addr) (bxc : Cell) (el : Addr) (b2 : Addr) (b7 : Addr) (b11 : Addr) (k7 : ClassId) (k11 : ClassId) (h0 : Heap) (n0 : Nat) (Z0 : n0 ≤ h0.size) {p : Program} {e : Env} {s : State} {m : MethodId} {below : List Frame} {meth : Method} {c : Code} (hx : p.tables.exec = Jvm.exec) (hZ : Z.Warmed39 s.vm) (hby : c.code = prog_5_method_1_code) (hml : c.maxLocals = 5) (hown : s.vm.findClass "com/example/kneiphof/kneiphof/Assignment" = some m.cls) (hret : meth.sig.returnType = none) (hlk : meth.locks = false) (hh : s.heap = h0) (k_ : Nat) :
    ∀ (Tc : State) (Hc : Heap) (locsc : List Loc) (i : Int32) (vw : List Value) (vu : List Value) (Xc : Stand p l e ({ frames := 5, cells := 5, slots := 51, locals := 69 } : Room) s m #[(.ref a), (.int n), (.int (3 : Int32)), (.int (3 : Int32))] below meth c Tc locsc 3 39) (ec : Tc.heap = Hc) (Nc : Fr n0 locsc) (Kc0 : Keep h0 Hc [a]) (Oc : Old Z n0 Hc) (zc0 : Sta Z Z.heap "java/util/ArrayList" "DEFAULTCAPACITY_EMPTY_ELEMENTDATA" "[Ljava/lang/Object;" (.ref dc)) (zc1 : Arv Z Z.heap dc kd (.object "java/lang/Object") (0 : Int32) [] .null) (zc2 : Sta Z Z.heap "java/lang/Integer$IntegerCache" "high" "I" (.int (127 : Int32))) (zc3 : Sta Z Z.heap "java/lang/Integer$IntegerCache" "cache" "[Ljava/lang/Integer;" (.ref ca)) (zc4 : Sta Z Z.heap "java/util/ImmutableCollections" "EMPTY_LIST" "Ljava/util/ImmutableCollections$ListN;" (.ref el)) (zc5 : Exa Z Hc a "com/example/kneiphof/kneiphof/Assignment") (zc6 : Fld Z Hc a "com/example/kneiphof/kneiphof/Assignment" "spares" "Ljava/util/List;" (.ref b2)) (zc7 : Fld Z Hc a "com/example/kneiphof/kneiphof/Assignment" "partitions" "I" (.int n)) (zc8 : Fld Z Hc a "com/example/kneiphof/kneiphof/Assignment" "replicas" "I" (.int (3 : Int32))) (zc9 : Fld Z Hc a "com/example/kneiphof/kneiphof/Assignment" "workers" "[I" (.ref b7)) (zc10 : Fld Z Hc a "com/example/kneiphof/kneiphof/Assignment" "slots" "[I" (.ref b11)) (zc11 : Fld Z Hc a "com/example/kneiphof/kneiphof/Assignment" "partitioning" "Lcom/example/kneiphof/kneiphof/Partitioning;" .null) (zc12 : Exa Z Hc b2 "java/util/ArrayList") (zc13 : Fld Z Hc b2 "java/util/ArrayList" "elementData" "[Ljava/lang/Object;" (.ref dc)) (zc14 : Fld Z Hc b2 "java/util/ArrayList" "size" "I" (.int (0 : Int32))) (zc15 : Fld Z Hc b2 "java/util/AbstractList" "modCount" "I" (.int (0 : Int32))) (zc16 : Arv Z Hc b7 k7 .int (n * (3 : Int32)) vw (.int (0 : Int32))) (zc17 : Arv Z Hc b11 k11 .int ((n * (3 : Int32)) + (3 : Int32)) vu (.int (0 : Int32))) (gc18 : n0 ≤ a) (gc19 : n0 ≤ b7) (sc20 : h0.size ≤ b7) (gc21 : n0 ≤ b11) (sc22 : h0.size ≤ b11) (gc23 : n0 ≤ b2) (sc24 : h0.size ≤ b2) (nc25 : b7 ≠ b11) (nc26 : a ≠ b7) (nc27 : a ≠ b11) (nc28 : b2 ≠ b7) (nc29 : b2 ≠ b11) (nc30 : a ≠ b2) (hbx : Bxs Z ca bxc "java/lang/Integer" "I" (256 : Int32) own_bval) (hn : 1 ≤ n.toInt ∧ n.toInt ≤ 4) (hfc : Z.vm.findClass "[I" = some k7) (hms : i.toInt + (k_ : Int) = ((n * (3 : Int32))).toInt) (hi0 : 0 ≤ i.toInt) (hvw : vw.length = ((n * (3 : Int32))).toNatClampNeg) (hvu : vu.length = (((n * (3 : Int32)) + (3 : Int32))).toNatClampNeg) (hpr : own_pre vw i.toInt),
    ∃ U_ o_, Steps p.tables e below (Tc.setTop (mkF m 58 #[.val (.ref a), .val (.int n), .val (.int (3 : Int32)), .val (.int (3 : Int32)), .val (.int i)] [])) U_ ∧ U_.status = .running ∧ Ended U_ below o_ ∧ (∃ v_ L_, o_ = .returned v_ ∧ Q_rmIni3 Z a n dc kd ca bxc el h0 n0 v_ U_.heap L_ ∧ FrameEnd s o_ U_ L_ ({ frames := 5, cells := 5, slots := 51, locals := 69 } : Room).cells ({ frames := 5, cells := 5, slots := 51, locals := 69 } : Room).slots) := by
  induction k_ with
  | zero =>
    intro Tc Hc locsc i vw vu Xc ec Nc Kc0 Oc zc0 zc1 zc2 zc3 zc4 zc5 zc6 zc7 zc8 zc9 zc10 zc11 zc12 zc13 zc14 zc15 zc16 zc17 gc18 gc19 sc20 gc21 sc22 gc23 sc24 nc25 nc26 nc27 nc28 nc29 nc30 hbx hn hfc hms hi0 hvw hvu hpr
    have hge : ¬ (i < (n * (3 : Int32))) := by rw [Int32.lt_iff_toInt_lt]; omega
    refine own_go (A := Tc.setTop (mkF m 61 #[.val (.ref a), .val (.int n), .val (.int (3 : Int32)), .val (.int (3 : Int32)), .val (.int i)] [(.ref a), (.int i)])) (fun t_ k_ => ?_) ?_
    · show Steps p.tables e below (Tc.setTop (mkF m 58 #[.val (.ref a), .val (.int n), .val (.int (3 : Int32)), .val (.int (3 : Int32)), .val (.int i)] [])) t_
      refine XS.iload Xc.here hx rfl (hb hby d1_58) rfl ?_
      refine XS.aloadN Xc.here hx rfl (hb hby d1_60) rfl rfl ?_
      exact k_
    obtain ⟨T15, X15, e15, st15⟩ := getF Xc hx hZ hown (host := "") (Or.inl (own_w hw 41 rfl)) Via.refl ec zc9 (g := (mkF m 61 #[.val (.ref a), .val (.int n), .val (.int (3 : Int32)), .val (.int (3 : Int32)), .val (.int i)] [(.ref a), (.int i)])) rfl rfl (hb hby d1_61)
    refine own_go st15 ?_
    obtain ⟨cl16, Ar16, q16, S16, M16, H16, G16⟩ := id zc16
    refine own_go (A := T15.setTop (mkF m 102 #[.val (.ref a), .val (.int n), .val (.int (3 : Int32)), .val (.int (3 : Int32)), .val (.int (0 : Int32))] [(.ref a)])) (fun t_ k_ => ?_) ?_
    · show Steps p.tables e below (T15.setTop (mkF m 64 #[.val (.ref a), .val (.int n), .val (.int (3 : Int32)), .val (.int (3 : Int32)), .val (.int i)] [(.ref b7), (.int i)])) t_
      refine X15.arraylength hx (by rw [e15]; exact Ar16.1) (State.isArrayOf_alike hZ.alike Ar16.2.1) (g := (mkF m 64 #[.val (.ref a), .val (.int n), .val (.int (3 : Int32)), .val (.int (3 : Int32)), .val (.int i)] [(.ref b7), (.int i)])) rfl rfl (hb hby d1_64) _ ?_
      rw [len_of S16 M16]
      refine XS.icmpYes X15.here hx rfl (pc0 := 65) (pc' := 92) rfl (hb hby d1_65) rfl (flt hge).2.1 (by decide) (by decide) ?_
      refine XS.iconst X15.here hx rfl (hb hby d1_92) ?_
      refine XS.istore X15.here hx rfl (hb hby d1_93) rfl (l' := #[.val (.ref a), .val (.int n), .val (.int (3 : Int32)), .val (.int (3 : Int32)), .val (.int (0 : Int32))]) rfl ?_
      show Steps p.tables e below (T15.setTop (mkF m 95 #[.val (.ref a), .val (.int n), .val (.int (3 : Int32)), .val (.int (3 : Int32)), .val (.int (0 : Int32))] [])) t_
      refine XS.iload X15.here hx rfl (hb hby d1_95) rfl ?_
      refine XS.iloadN X15.here hx rfl (hb hby d1_97) rfl ?_
      refine XS.icmpNo X15.here hx rfl (hb hby d1_98) rfl (tlt (by decide : (0 : Int32) < (3 : Int32))).2.1 ?_
      refine XS.aloadN X15.here hx rfl (hb hby d1_101) rfl rfl ?_
      exact k_
    obtain ⟨T17, X17, e17, st17⟩ := getF X15 hx hZ hown (host := "") (Or.inl (own_w hw 34 rfl)) Via.refl e15 zc6 (g := (mkF m 102 #[.val (.ref a), .val (.int n), .val (.int (3 : Int32)), .val (.int (3 : Int32)), .val (.int (0 : Int32))] [(.ref a)])) rfl rfl (hb hby d1_102)
    refine own_go st17 ?_
    refine own_go (A := T17.setTop (mkF m 106 #[.val (.ref a), .val (.int n), .val (.int (3 : Int32)), .val (.int (3 : Int32)), .val (.int (0 : Int32))] [(.ref a), (.ref b2)])) (fun t_ k_ => ?_) ?_
    · show Steps p.tables e below (T17.setTop (mkF m 105 #[.val (.ref a), .val (.int n), .val (.int (3 : Int32)), .val (.int (3 : Int32)), .val (.int (0 : Int32))] [(.ref b2)])) t_
      refine XS.aloadN X17.here hx rfl (hb hby d1_105) rfl rfl ?_
      exact k_
    obtain ⟨T18, X18, e18, st18⟩ := getF X17 hx hZ hown (host := "") (Or.inl (own_w hw 41 rfl)) Via.refl e17 zc9 (g := (mkF m 106 #[.val (.ref a), .val (.int n), .val (.int (3 : Int32)), .val (.int (3 : Int32)), .val (.int (0 : Int32))] [(.ref a), (.ref b2)])) rfl rfl (hb hby d1_106)
    refine own_go st18 ?_
    obtain ⟨cl19, Ar19, q19, S19, M19, H19, G19⟩ := id zc16
    refine own_go (A := T18.setTop (mkF m 113 #[.val (.ref a), .val (.int n), .val (.int (3 : Int32)), .val (.int (3 : Int32)), .val (.int (0 : Int32))] [(.int ((n * (3 : Int32)) + (0 : Int32))), (.ref b2)])) (fun t_ k_ => ?_) ?_
    · show Steps p.tables e below (T18.setTop (mkF m 109 #[.val (.ref a), .val (.int n), .val (.int (3 : Int32)), .val (.int (3 : Int32)), .val (.int (0 : Int32))] [(.ref b7), (.ref b2)])) t_
      refine X18.arraylength hx (by rw [e18]; exact Ar19.1) (State.isArrayOf_alike hZ.alike Ar19.2.1) (g := (mkF m 109 #[.val (.ref a), .val (.int n), .val (.int (3 : Int32)), .val (.int (3 : Int32)), .val (.int (0 : Int32))] [(.ref b7), (.ref b2)])) rfl rfl (hb hby d1_109) _ ?_
      rw [len_of S19 M19]
      refine XS.iload X18.here hx rfl (hb hby d1_110) rfl ?_
      refine XS.iadd X18.here hx rfl (hb hby d1_112) rfl ?_
      exact k_
    obtain ⟨_, _, ⟨T20, L20, k20, n20⟩, -, X20, ⟨Lc20, hQ20, l20, y20, z20⟩, st20⟩ := Jvm.LawKit.callS X18 hx (y := own_y9) hown (mvT hZ (own_w hw 49 rfl)) (mvT hZ (own_w hw 50 rfl)) (mvT hZ (own_w hw 51 rfl)) (mvT hZ (own_w hw 52 rfl)) (by decide) (backOf (W := 1) (rmVO l Z a0 hw [] ((n * (3 : Int32)) + (0 : Int32)) ca bxc Hc n0 (Nat.le_trans Z0 Kc0.1) Oc zc2 zc3 hbx (own_c1 (by have h := own_vi3_0 hn; omega)) (own_c2 (by have h := own_vi3_0 hn; omega))) hZ (own_w hw 52 rfl) (own_w hw 51 rfl) (by decide) (by decide)) (g := (mkF m 113 #[.val (.ref a), .val (.int n), .val (.int (3 : Int32)), .val (.int (3 : Int32)), .val (.int (0 : Int32))] [(.int ((n * (3 : Int32)) + (0 : Int32))), (.ref b2)])) rfl (by rw [hml]; rfl) (argsL := [(.int ((n * (3 : Int32)) + (0 : Int32)))]) (rest := [(.ref b2)]) (lenOf pd_8 rfl) rfl (by show 2 * 0 + _ ≤ _; exact Nat.le_of_eq rfl) (hb hby d1_113) (fun _ _ => ⟨rfl, e18, (by decide : 3 + 0 ≤ _), (by decide : 39 + 0 ≤ _)⟩)
    dsimp only [Pt.U, Pt.locs, Pt.cells, Pt.slots] at X20 l20 y20 z20 st20 hQ20
    subst l20 y20 z20
    obtain ⟨r_20, rfl, N20q, Kc20, r20_0, r20_1⟩ := hQ20
    have N20 := Fr.app Nc N20q
    refine own_go st20 ?_
    have K20 : Keep h0 T20.heap [a] := Kc0.trans Kc20 all0
    have O20 := Oc.keep Kc20 all0
    obtain ⟨cq21, kq21, q21a, q21b, q21c⟩ := isOf hZ rfl (zc12.keep Kc20)
    obtain ⟨_, _, ⟨T21, L21, k21, n21⟩, -, X21, ⟨Lc21, hQ21, l21, y21, z21⟩, st21⟩ := X20.interfaceBack hx (xi := own_y13) (y := own_y8) hown (mvT hZ (own_w hw 56 rfl)) (mvT hZ (own_w hw 57 rfl)) (mvT hZ (own_w hw 58 rfl)) (mvT hZ (own_w hw 59 rfl)) (mvT hZ (own_w hw 60 rfl)) (mvT hZ (own_w hw 61 rfl)) (mvT hZ (own_w hw 62 rfl)) (mvT hZ (own_w hw 63 rfl)) (by decide) (backOf (W := 0) (rmAdd0 l Z a0 hw [] b2 r_20 dc kd (0 : Int32) T20.heap n0 (Nat.le_trans Z0 K20.1) O20 zc0 (zc12.keep Kc20) (zc13.keep Kc20 nin0) (zc14.keep Kc20 nin0) (zc15.keep Kc20 nin0) zc1 gc23 (r20_0.ext O20.2)) hZ (own_w hw 64 rfl) (own_w hw 12 rfl) (by decide) (by decide)) q21a q21b q21c (g := (mkF m 116 #[.val (.ref a), .val (.int n), .val (.int (3 : Int32)), .val (.int (3 : Int32)), .val (.int (0 : Int32))] [(.ref r_20), (.ref b2)])) rfl (by rw [hml]; rfl) (Steps.refl _) (argsL := [(.ref r_20)]) (rest := []) (lenOf pd_9 rfl) rfl (by show 2 * 0 + _ ≤ _; exact Nat.le_of_eq rfl) (hb hby d1_116) (fun _ _ => ⟨rfl, rfl, (by decide : 3 + 1 ≤ _), (by decide : 39 + 10 ≤ _)⟩)
    dsimp only [Pt.U, Pt.locs, Pt.cells, Pt.slots] at X21 l21 y21 z21 st21 hQ21
    subst l21 y21 z21
    obtain ⟨ed_21, k_21, rfl, N21q, Kc21, r21_0, r21_1, r21_2, r21_3, r21_4, r21_5⟩ := hQ21
    have N21 := Fr.app N20 N21q
    refine own_via st21 ?_
    have K21 : Keep h0 T21.heap [a] := K20.trans Kc21 (allS (P := fun x => x ∈ _ ∨ _ ≤ x) (Or.inr sc24) all0)
    have O21 := O20.keep Kc21 (allS (P := fun x => n0 ≤ x) gc23 all0)
    refine own_go (A := T21.setTop (mkF m 102 #[.val (.ref a), .val (.int n), .val (.int (3 : Int32)), .val (.int (3 : Int32)), .val (.int (1 : Int32))] [(.ref a)])) (fun t_ k_ => ?_) ?_
    · show Steps p.tables e below (T21.setTop (mkF m 121 #[.val (.ref a), .val (.int n), .val (.int (3 : Int32)), .val (.int (3 : Int32)), .val (.int (0 : Int32))] [(.int (1 : Int32))])) t_
      refine XS.pop X21.here hx rfl (hb hby d1_121) rfl rfl ?_
      refine XS.iinc X21.here hx rfl (hb hby d1_122) rfl (l' := #[.val (.ref a), .val (.int n), .val (.int (3 : Int32)), .val (.int (3 : Int32)), .val (.int (1 : Int32))]) rfl ?_
      refine XS.goto X21.here hx rfl (pc0 := 125) (pc' := 95) rfl (hb hby d1_125) (by decide) (by decide) ?_
      refine XS.iload X21.here hx rfl (hb hby d1_95) rfl ?_
      show Steps p.tables e below (T21.setTop (mkF m 97 #[.val (.ref a), .val (.int n), .val (.int (3 : Int32)), .val (.int (3 : Int32)), .val (.int (1 : Int32))] [(.int (1 : Int32))])) t_
      refine XS.iloadN X21.here hx rfl (hb hby d1_97) rfl ?_
      refine XS.icmpNo X21.here hx rfl (hb hby d1_98) rfl (tlt (by decide : (1 : Int32) < (3 : Int32))).2.1 ?_
      refine XS.aloadN X21.here hx rfl (hb hby d1_101) rfl rfl ?_
      exact k_
    obtain ⟨T22, X22, e22, st22⟩ := getF X21 hx hZ hown (host := "") (Or.inl (own_w hw 34 rfl)) Via.refl rfl ((zc6.keep Kc20 nin0).keep Kc21 (ninS nc30 nin0)) (g := (mkF m 102 #[.val (.ref a), .val (.int n), .val (.int (3 : Int32)), .val (.int (3 : Int32)), .val (.int (1 : Int32))] [(.ref a)])) rfl rfl (hb hby d1_102)
    refine own_go st22 ?_
    refine own_go (A := T22.setTop (mkF m 106 #[.val (.ref a), .val (.int n), .val (.int (3 : Int32)), .val (.int (3 : Int32)), .val (.int (1 : Int32))] [(.ref a), (.ref b2)])) (fun t_ k_ => ?_) ?_
    · show Steps p.tables e below (T22.setTop (mkF m 105 #[.val (.ref a), .val (.int n), .val (.int (3 : Int32)), .val (.int (3 : Int32)), .val (.int (1 : Int32))] [(.ref b2)])) t_
      refine XS.aloadN X22.here hx rfl (hb hby d1_105) rfl rfl ?_
      exact k_
    obtain ⟨T23, X23, e23, st23⟩ := getF X22 hx hZ hown (host := "") (Or.inl (own_w hw 41 rfl)) Via.refl e22 ((zc9.keep Kc20 nin0).keep Kc21 (ninS nc30 nin0)) (g := (mkF m 106 #[.val (.ref a), .val (.int n), .val (.int (3 : Int32)), .val (.int (3 : Int32)), .val (.int (1 : Int32))] [(.ref a), (.ref b2)])) rfl rfl (hb hby d1_106)
    refine own_go st23 ?_
    obtain ⟨cl24, Ar24, q24, S24, M24, H24, G24⟩ := id ((zc16.keep Kc20 nin0).keep Kc21 (ninS (Ne.symm nc28) nin0))
    refine own_go (A := T23.setTop (mkF m 113 #[.val (.ref a), .val (.int n), .val (.int (3 : Int32)), .val (.int (3 : Int32)), .val (.int (1 : Int32))] [(.int ((n * (3 : Int32)) + (1 : Int32))), (.ref b2)])) (fun t_ k_ => ?_) ?_
    · show Steps p.tables e below (T23.setTop (mkF m 109 #[.val (.ref a), .val (.int n), .val (.int (3 : Int32)), .val (.int (3 : Int32)), .val (.int (1 : Int32))] [(.ref b7), (.ref b2)])) t_
      refine X23.arraylength hx (by rw [e23]; exact Ar24.1) (State.isArrayOf_alike hZ.alike Ar24.2.1) (g := (mkF m 109 #[.val (.ref a), .val (.int n), .val (.int (3 : Int32)), .val (.int (3 : Int32)), .val (.int (1 : Int32))] [(.ref b7), (.ref b2)])) rfl rfl (hb hby d1_109) _ ?_
      rw [len_of S24 M24]
      refine XS.iload X23.here hx rfl (hb hby d1_110) rfl ?_
      refine XS.iadd X23.here hx rfl (hb hby d1_112) rfl ?_
      exact k_
    obtain ⟨_, _, ⟨T25, L25, k25, n25⟩, -, X25, ⟨Lc25, hQ25, l25, y25, z25⟩, st25⟩ := Jvm.LawKit.callS X23 hx (y := own_y9) hown (mvT hZ (own_w hw 49 rfl)) (mvT hZ (own_w hw 50 rfl)) (mvT hZ (own_w hw 51 rfl)) (mvT hZ (own_w hw 52 rfl)) (by decide) (backOf (W := 1) (rmVO l Z a0 hw [] ((n * (3 : Int32)) + (1 : Int32)) ca bxc T21.heap n0 (Nat.le_trans Z0 K21.1) O21 zc2 zc3 hbx (own_c1 (by have h := own_vi3_1 hn; omega)) (own_c2 (by have h := own_vi3_1 hn; omega))) hZ (own_w hw 52 rfl) (own_w hw 51 rfl) (by decide) (by decide)) (g := (mkF m 113 #[.val (.ref a), .val (.int n), .val (.int (3 : Int32)), .val (.int (3 : Int32)), .val (.int (1 : Int32))] [(.int ((n * (3 : Int32)) + (1 : Int32))), (.ref b2)])) rfl (by rw [hml]; rfl) (argsL := [(.int ((n * (3 : Int32)) + (1 : Int32)))]) (rest := [(.ref b2)]) (lenOf pd_8 rfl) rfl (by show 2 * 0 + _ ≤ _; exact Nat.le_of_eq rfl) (hb hby d1_113) (fun _ _ => ⟨rfl, e23, (by decide : 4 + 0 ≤ _), (by decide : 49 + 0 ≤ _)⟩)
    dsimp only [Pt.U, Pt.locs, Pt.cells, Pt.slots] at X25 l25 y25 z25 st25 hQ25
    subst l25 y25 z25
    obtain ⟨r_25, rfl, N25q, Kc25, r25_0, r25_1⟩ := hQ25
    have N25 := Fr.app N21 N25q
    refine own_go st25 ?_
    have K25 : Keep h0 T25.heap [a] := K21.trans Kc25 all0
    have O25 := O21.keep Kc25 all0
    obtain ⟨cq26, kq26, q26a, q26b, q26c⟩ := isOf hZ rfl (((zc12.keep Kc20).keep Kc21).keep Kc25)
    obtain ⟨_, _, ⟨T26, L26, k26, n26⟩, -, X26, ⟨Lc26, hQ26, l26, y26, z26⟩, st26⟩ := X25.interfaceBack hx (xi := own_y13) (y := own_y8) hown (mvT hZ (own_w hw 56 rfl)) (mvT hZ (own_w hw 57 rfl)) (mvT hZ (own_w hw 58 rfl)) (mvT hZ (own_w hw 59 rfl)) (mvT hZ (own_w hw 60 rfl)) (mvT hZ (own_w hw 61 rfl)) (mvT hZ (own_w hw 62 rfl)) (mvT hZ (own_w hw 63 rfl)) (by decide) (backOf (W := 0) (rmAdd1 l Z a0 hw [] b2 r_25 ed_21 k_21 ((0 : Int32) + (1 : Int32)) r_20 T25.heap n0 (Nat.le_trans Z0 K25.1) (((zc12.keep Kc20).keep Kc21).keep Kc25) (r21_3.keep Kc25 nin0) (r21_4.keep Kc25 nin0) (r21_5.keep Kc25 nin0) (r21_1.keep Kc25 nin0) r21_2 gc23 (Nat.le_trans Z0 (Nat.le_trans K20.1 r21_0)) (Nat.ne_of_lt (Nat.lt_of_lt_of_le (Nat.lt_of_lt_of_le zc12.lt Kc20.1) r21_0)) (r25_0.ext O25.2)) hZ (own_w hw 64 rfl) (own_w hw 12 rfl) (by decide) (by decide)) q26a q26b q26c (g := (mkF m 116 #[.val (.ref a), .val (.int n), .val (.int (3 : Int32)), .val (.int (3 : Int32)), .val (.int (1 : Int32))] [(.ref r_25), (.ref b2)])) rfl (by rw [hml]; rfl) (Steps.refl _) (argsL := [(.ref r_25)]) (rest := []) (lenOf pd_9 rfl) rfl (by show 2 * 0 + _ ≤ _; exact Nat.le_of_eq rfl) (hb hby d1_116) (fun _ _ => ⟨rfl, rfl, (by decide : 4 + 0 ≤ _), (by decide : 49 + 0 ≤ _)⟩)
    dsimp only [Pt.U, Pt.locs, Pt.cells, Pt.slots] at X26 l26 y26 z26 st26 hQ26
    subst l26 y26 z26
    obtain ⟨rfl, N26q, Kc26, r26_0, r26_1, r26_2, r26_3⟩ := hQ26
    have N26 := Fr.app N25 N26q
    refine own_via st26 ?_
    have K26 : Keep h0 T26.heap [a] := K25.trans Kc26 (allS (P := fun x => x ∈ _ ∨ _ ≤ x) (Or.inr sc24) (allS (P := fun x => x ∈ _ ∨ _ ≤ x) (Or.inr (Nat.le_trans K20.1 r21_0)) all0))
    have O26 := O25.keep Kc26 (allS (P := fun x => n0 ≤ x) gc23 (allS (P := fun x => n0 ≤ x) (Nat.le_trans Z0 (Nat.le_trans K20.1 r21_0)) all0))
    refine own_go (A := T26.setTop (mkF m 102 #[.val (.ref a), .val (.int n), .val (.int (3 : Int32)), .val (.int (3 : Int32)), .val (.int (2 : Int32))] [(.ref a)])) (fun t_ k_ => ?_) ?_
    · show Steps p.tables e below (T26.setTop (mkF m 121 #[.val (.ref a), .val (.int n), .val (.int (3 : Int32)), .val (.int (3 : Int32)), .val (.int (1 : Int32))] [(.int (1 : Int32))])) t_
      refine XS.pop X26.here hx rfl (hb hby d1_121) rfl rfl ?_
      refine XS.iinc X26.here hx rfl (hb hby d1_122) rfl (l' := #[.val (.ref a), .val (.int n), .val (.int (3 : Int32)), .val (.int (3 : Int32)), .val (.int (2 : Int32))]) rfl ?_
      refine XS.goto X26.here hx rfl (pc0 := 125) (pc' := 95) rfl (hb hby d1_125) (by decide) (by decide) ?_
      refine XS.iload X26.here hx rfl (hb hby d1_95) rfl ?_
      show Steps p.tables e below (T26.setTop (mkF m 97 #[.val (.ref a), .val (.int n), .val (.int (3 : Int32)), .val (.int (3 : Int32)), .val (.int (2 : Int32))] [(.int (2 : Int32))])) t_
      refine XS.iloadN X26.here hx rfl (hb hby d1_97) rfl ?_
      refine XS.icmpNo X26.here hx rfl (hb hby d1_98) rfl (tlt (by decide : (2 : Int32) < (3 : Int32))).2.1 ?_
      refine XS.aloadN X26.here hx rfl (hb hby d1_101) rfl rfl ?_
      exact k_
    obtain ⟨T27, X27, e27, st27⟩ := getF X26 hx hZ hown (host := "") (Or.inl (own_w hw 34 rfl)) Via.refl rfl ((((zc6.keep Kc20 nin0).keep Kc21 (ninS nc30 nin0)).keep Kc25 nin0).keep Kc26 (ninS nc30 (ninS (Nat.ne_of_lt (Nat.lt_of_lt_of_le (Nat.lt_of_lt_of_le zc5.lt Kc20.1) r21_0)) nin0))) (g := (mkF m 102 #[.val (.ref a), .val (.int n), .val (.int (3 : Int32)), .val (.int (3 : Int32)), .val (.int (2 : Int32))] [(.ref a)])) rfl rfl (hb hby d1_102)
    refine own_go st27 ?_
    refine own_go (A := T27.setTop (mkF m 106 #[.val (.ref a), .val (.int n), .val (.int (3 : Int32)), .val (.int (3 : Int32)), .val (.int (2 : Int32))] [(.ref a), (.ref b2)])) (fun t_ k_ => ?_) ?_
    · show Steps p.tables e below (T27.setTop (mkF m 105 #[.val (.ref a), .val (.int n), .val (.int (3 : Int32)), .val (.int (3 : Int32)), .val (.int (2 : Int32))] [(.ref b2)])) t_
      refine XS.aloadN X27.here hx rfl (hb hby d1_105) rfl rfl ?_
      exact k_
    obtain ⟨T28, X28, e28, st28⟩ := getF X27 hx hZ hown (host := "") (Or.inl (own_w hw 41 rfl)) Via.refl e27 ((((zc9.keep Kc20 nin0).keep Kc21 (ninS nc30 nin0)).keep Kc25 nin0).keep Kc26 (ninS nc30 (ninS (Nat.ne_of_lt (Nat.lt_of_lt_of_le (Nat.lt_of_lt_of_le zc5.lt Kc20.1) r21_0)) nin0))) (g := (mkF m 106 #[.val (.ref a), .val (.int n), .val (.int (3 : Int32)), .val (.int (3 : Int32)), .val (.int (2 : Int32))] [(.ref a), (.ref b2)])) rfl rfl (hb hby d1_106)
    refine own_go st28 ?_
    obtain ⟨cl29, Ar29, q29, S29, M29, H29, G29⟩ := id ((((zc16.keep Kc20 nin0).keep Kc21 (ninS (Ne.symm nc28) nin0)).keep Kc25 nin0).keep Kc26 (ninS (Ne.symm nc28) (ninS (Nat.ne_of_lt (Nat.lt_of_lt_of_le (Nat.lt_of_lt_of_le zc16.lt Kc20.1) r21_0)) nin0)))
    refine own_go (A := T28.setTop (mkF m 113 #[.val (.ref a), .val (.int n), .val (.int (3 : Int32)), .val (.int (3 : Int32)), .val (.int (2 : Int32))] [(.int ((n * (3 : Int32)) + (2 : Int32))), (.ref b2)])) (fun t_ k_ => ?_) ?_
    · show Steps p.tables e below (T28.setTop (mkF m 109 #[.val (.ref a), .val (.int n), .val (.int (3 : Int32)), .val (.int (3 : Int32)), .val (.int (2 : Int32))] [(.ref b7), (.ref b2)])) t_
      refine X28.arraylength hx (by rw [e28]; exact Ar29.1) (State.isArrayOf_alike hZ.alike Ar29.2.1) (g := (mkF m 109 #[.val (.ref a), .val (.int n), .val (.int (3 : Int32)), .val (.int (3 : Int32)), .val (.int (2 : Int32))] [(.ref b7), (.ref b2)])) rfl rfl (hb hby d1_109) _ ?_
      rw [len_of S29 M29]
      refine XS.iload X28.here hx rfl (hb hby d1_110) rfl ?_
      refine XS.iadd X28.here hx rfl (hb hby d1_112) rfl ?_
      exact k_
    obtain ⟨_, _, ⟨T30, L30, k30, n30⟩, -, X30, ⟨Lc30, hQ30, l30, y30, z30⟩, st30⟩ := Jvm.LawKit.callS X28 hx (y := own_y9) hown (mvT hZ (own_w hw 49 rfl)) (mvT hZ (own_w hw 50 rfl)) (mvT hZ (own_w hw 51 rfl)) (mvT hZ (own_w hw 52 rfl)) (by decide) (backOf (W := 1) (rmVO l Z a0 hw [] ((n * (3 : Int32)) + (2 : Int32)) ca bxc T26.heap n0 (Nat.le_trans Z0 K26.1) O26 zc2 zc3 hbx (own_c1 (by have h := own_vi3_2 hn; omega)) (own_c2 (by have h := own_vi3_2 hn; omega))) hZ (own_w hw 52 rfl) (own_w hw 51 rfl) (by decide) (by decide)) (g := (mkF m 113 #[.val (.ref a), .val (.int n), .val (.int (3 : Int32)), .val (.int (3 : Int32)), .val (.int (2 : Int32))] [(.int ((n * (3 : Int32)) + (2 : Int32))), (.ref b2)])) rfl (by rw [hml]; rfl) (argsL := [(.int ((n * (3 : Int32)) + (2 : Int32)))]) (rest := [(.ref b2)]) (lenOf pd_8 rfl) rfl (by show 2 * 0 + _ ≤ _; exact Nat.le_of_eq rfl) (hb hby d1_113) (fun _ _ => ⟨rfl, e28, (by decide : 4 + 0 ≤ _), (by decide : 49 + 0 ≤ _)⟩)
    dsimp only [Pt.U, Pt.locs, Pt.cells, Pt.slots] at X30 l30 y30 z30 st30 hQ30
    subst l30 y30 z30
    obtain ⟨r_30, rfl, N30q, Kc30, r30_0, r30_1⟩ := hQ30
    have N30 := Fr.app N26 N30q
    refine own_go st30 ?_
    have K30 : Keep h0 T30.heap [a] := K26.trans Kc30 all0
    have O30 := O26.keep Kc30 all0
    obtain ⟨cq31, kq31, q31a, q31b, q31c⟩ := isOf hZ rfl (((((zc12.keep Kc20).keep Kc21).keep Kc25).keep Kc26).keep Kc30)
    obtain ⟨_, _, ⟨T31, L31, k31, n31⟩, -, X31, ⟨Lc31, hQ31, l31, y31, z31⟩, st31⟩ := X30.interfaceBack hx (xi := own_y13) (y := own_y8) hown (mvT hZ (own_w hw 56 rfl)) (mvT hZ (own_w hw 57 rfl)) (mvT hZ (own_w hw 58 rfl)) (mvT hZ (own_w hw 59 rfl)) (mvT hZ (own_w hw 60 rfl)) (mvT hZ (own_w hw 61 rfl)) (mvT hZ (own_w hw 62 rfl)) (mvT hZ (own_w hw 63 rfl)) (by decide) (backOf (W := 0) (rmAdd2 l Z a0 hw [] b2 r_30 ed_21 k_21 (((0 : Int32) + (1 : Int32)) + (1 : Int32)) r_20 r_25 T30.heap n0 (Nat.le_trans Z0 K30.1) (((((zc12.keep Kc20).keep Kc21).keep Kc25).keep Kc26).keep Kc30) (r26_1.keep Kc30 nin0) (r26_2.keep Kc30 nin0) (r26_3.keep Kc30 nin0) (r26_0.keep Kc30 nin0) r21_2 gc23 (Nat.le_trans Z0 (Nat.le_trans K20.1 r21_0)) (Nat.ne_of_lt (Nat.lt_of_lt_of_le (Nat.lt_of_lt_of_le zc12.lt Kc20.1) r21_0)) (r30_0.ext O30.2)) hZ (own_w hw 64 rfl) (own_w hw 12 rfl) (by decide) (by decide)) q31a q31b q31c (g := (mkF m 116 #[.val (.ref a), .val (.int n), .val (.int (3 : Int32)), .val (.int (3 : Int32)), .val (.int (2 : Int32))] [(.ref r_30), (.ref b2)])) rfl (by rw [hml]; rfl) (Steps.refl _) (argsL := [(.ref r_30)]) (rest := []) (lenOf pd_9 rfl) rfl (by show 2 * 0 + _ ≤ _; exact Nat.le_of_eq rfl) (hb hby d1_116) (fun _ _ => ⟨rfl, rfl, (by decide : 4 + 0 ≤ _), (by decide : 49 + 0 ≤ _)⟩)
    dsimp only [Pt.U, Pt.locs, Pt.cells, Pt.slots] at X31 l31 y31 z31 st31 hQ31
    subst l31 y31 z31
    obtain ⟨rfl, N31q, Kc31, r31_0, r31_1, r31_2, r31_3⟩ := hQ31
    have N31 := Fr.app N30 N31q
    refine own_via st31 ?_
    have K31 : Keep h0 T31.heap [a] := K30.trans Kc31 (allS (P := fun x => x ∈ _ ∨ _ ≤ x) (Or.inr sc24) (allS (P := fun x => x ∈ _ ∨ _ ≤ x) (Or.inr (Nat.le_trans K20.1 r21_0)) all0))
    have O31 := O30.keep Kc31 (allS (P := fun x => n0 ≤ x) gc23 (allS (P := fun x => n0 ≤ x) (Nat.le_trans Z0 (Nat.le_trans K20.1 r21_0)) all0))
    refine own_go (A := T31.setTop (mkF m 129 #[.val (.ref a), .val (.int n), .val (.int (3 : Int32)), .val (.int (3 : Int32)), .val (.int (3 : Int32))] [(.ref a)])) (fun t_ k_ => ?_) ?_
    · show Steps p.tables e below (T31.setTop (mkF m 121 #[.val (.ref a), .val (.int n), .val (.int (3 : Int32)), .val (.int (3 : Int32)), .val (.int (2 : Int32))] [(.int (1 : Int32))])) t_
      refine XS.pop X31.here hx rfl (hb hby d1_121) rfl rfl ?_
      refine XS.iinc X31.here hx rfl (hb hby d1_122) rfl (l' := #[.val (.ref a), .val (.int n), .val (.int (3 : Int32)), .val (.int (3 : Int32)), .val (.int (3 : Int32))]) rfl ?_
      refine XS.goto X31.here hx rfl (pc0 := 125) (pc' := 95) rfl (hb hby d1_125) (by decide) (by decide) ?_
      refine XS.iload X31.here hx rfl (hb hby d1_95) rfl ?_
      show Steps p.tables e below (T31.setTop (mkF m 97 #[.val (.ref a), .val (.int n), .val (.int (3 : Int32)), .val (.int (3 : Int32)), .val (.int (3 : Int32))] [(.int (3 : Int32))])) t_
      refine XS.iloadN X31.here hx rfl (hb hby d1_97) rfl ?_
      refine XS.icmpYes X31.here hx rfl (pc0 := 98) (pc' := 128) rfl (hb hby d1_98) rfl (flt (by decide : ¬ ((3 : Int32) < (3 : Int32)))).2.1 (by decide) (by decide) ?_
      refine XS.aloadN X31.here hx rfl (hb hby d1_128) rfl rfl ?_
      exact k_
    obtain ⟨T32, h32, X32, e32, E32, A32, D32, -, st32⟩ := newO X31 hx hZ hown (own_w hw 91 rfl) (own_w hw 92 rfl) (own_w hw 93 rfl) rfl (g := (mkF m 129 #[.val (.ref a), .val (.int n), .val (.int (3 : Int32)), .val (.int (3 : Int32)), .val (.int (3 : Int32))] [(.ref a)])) rfl (hb hby d1_129) (by decide) (by decide)
    obtain ⟨b32, g32⟩ : ∃ z, z = T31.heap.size := ⟨_, rfl⟩
    rw [← g32] at A32 D32 st32
    refine own_go st32 ?_
    have K32 : Keep h0 h32 [a] := K31.ext E32
    have O32 := O31.ext E32
    have F32_partitions : Fld Z h32 b32 "com/example/kneiphof/kneiphof/Partitioning" "partitions" "I" (.int (0 : Int32)) := D32 (Or.inr (own_w hw 108 rfl)) (ty := .int) (by decide)
    have F32_spreads : Fld Z h32 b32 "com/example/kneiphof/kneiphof/Partitioning" "spreads" "Ljava/util/List;" .null := D32 (Or.inr (own_w hw 110 rfl)) (ty := (.object "java/util/List")) (by decide)
    refine own_go (A := T32.setTop (mkF m 134 #[.val (.ref a), .val (.int n), .val (.int (3 : Int32)), .val (.int (3 : Int32)), .val (.int (3 : Int32))] [(.int n), (.ref b32), (.ref b32), (.ref a)])) (fun t_ k_ => ?_) ?_
    · show Steps p.tables e below (T32.setTop (mkF m 132 #[.val (.ref a), .val (.int n), .val (.int (3 : Int32)), .val (.int (3 : Int32)), .val (.int (3 : Int32))] [(.ref b32), (.ref a)])) t_
      refine XS.dup X32.here hx rfl (hb hby d1_132) rfl rfl ?_
      refine XS.iloadN X32.here hx rfl (hb hby d1_133) rfl ?_
      exact k_
    obtain ⟨_, _, ⟨T33, L33, k33, n33⟩, -, X33, ⟨Lc33, hQ33, l33, y33, z33⟩, st33⟩ := X32.specialBack hx (y := own_y12) rfl hown (mvT hZ (own_w hw 94 rfl)) (mvT hZ (own_w hw 95 rfl)) (mvT hZ (own_w hw 96 rfl)) (by decide) (backOf (W := 2) (rmPt1 l Z a0 hw [] b32 n el h32 n0 (Nat.le_trans Z0 K32.1) O32 zc4 A32 F32_partitions F32_spreads (Nat.le_trans Z0 (Nat.le_trans K31.1 (Nat.le_of_eq g32.symm)))) hZ (own_w hw 96 rfl) (own_w hw 93 rfl) (by decide) (by decide)) (g := (mkF m 134 #[.val (.ref a), .val (.int n), .val (.int (3 : Int32)), .val (.int (3 : Int32)), .val (.int (3 : Int32))] [(.int n), (.ref b32), (.ref b32), (.ref a)])) rfl (by rw [hml]; rfl) (Steps.refl _) (a := b32) (argsL := [(.int n)]) (rest := [(.ref b32), (.ref a)]) (lenOf pd_10 rfl) rfl (by show 2 * 0 + _ ≤ _; exact Nat.le_of_eq rfl) (hb hby d1_134) (fun _ _ => ⟨rfl, e32, (by decide : 5 + 0 ≤ _), (by decide : 51 + 0 ≤ _)⟩)
    dsimp only [Pt.U, Pt.locs, Pt.cells, Pt.slots] at X33 l33 y33 z33 st33 hQ33
    subst l33 y33 z33
    obtain ⟨rfl, N33q, Kc33⟩ := hQ33
    have N33 := Fr.app N31 N33q
    refine own_via st33 ?_
    have K33 : Keep h0 T33.heap [a] := K32.trans Kc33 (allS (P := fun x => x ∈ _ ∨ _ ≤ x) (Or.inr (Nat.le_trans K31.1 (Nat.le_of_eq g32.symm))) all0)
    have O33 := O32.keep Kc33 (allS (P := fun x => n0 ≤ x) (Nat.le_trans Z0 (Nat.le_trans K31.1 (Nat.le_of_eq g32.symm))) all0)
    obtain ⟨T34, h34, X34, e34, W34, st34⟩ := putF X33 hx hZ hown (host := "") (Or.inl (own_w hw 111 rfl)) Via.refl rfl ((((((((zc11.keep Kc20 nin0).keep Kc21 (ninS nc30 nin0)).keep Kc25 nin0).keep Kc26 (ninS nc30 (ninS (Nat.ne_of_lt (Nat.lt_of_lt_of_le (Nat.lt_of_lt_of_le zc5.lt Kc20.1) r21_0)) nin0))).keep Kc30 nin0).keep Kc31 (ninS nc30 (ninS (Nat.ne_of_lt (Nat.lt_of_lt_of_le (Nat.lt_of_lt_of_le zc5.lt Kc20.1) r21_0)) nin0))).ext E32).keep Kc33 (ninS (Nat.ne_of_lt (Nat.lt_of_lt_of_le (Nat.lt_of_lt_of_le (Nat.lt_of_lt_of_le (Nat.lt_of_lt_of_le (Nat.lt_of_lt_of_le (Nat.lt_of_lt_of_le (Nat.lt_of_lt_of_le zc5.lt Kc20.1) Kc21.1) Kc25.1) Kc26.1) Kc30.1) Kc31.1) (Nat.le_of_eq g32.symm))) nin0)) ((((((((zc5.keep Kc20).keep Kc21).keep Kc25).keep Kc26).keep Kc30).keep Kc31).ext E32).keep Kc33) (Or.inl (own_w hw 112 rfl)) (own_w hw 2 rfl) (ty := (.object "com/example/kneiphof/kneiphof/Partitioning")) (by decide) rfl rfl (g := (mkF m 137 #[.val (.ref a), .val (.int n), .val (.int (3 : Int32)), .val (.int (3 : Int32)), .val (.int (3 : Int32))] [(.ref b32), (.ref a)])) rfl rfl (hb hby d1_137)
    have Fw34 : Fld Z h34 a "com/example/kneiphof/kneiphof/Assignment" "partitioning" "Lcom/example/kneiphof/kneiphof/Partitioning;" (.ref b32) := ((((((((zc11.keep Kc20 nin0).keep Kc21 (ninS nc30 nin0)).keep Kc25 nin0).keep Kc26 (ninS nc30 (ninS (Nat.ne_of_lt (Nat.lt_of_lt_of_le (Nat.lt_of_lt_of_le zc5.lt Kc20.1) r21_0)) nin0))).keep Kc30 nin0).keep Kc31 (ninS nc30 (ninS (Nat.ne_of_lt (Nat.lt_of_lt_of_le (Nat.lt_of_lt_of_le zc5.lt Kc20.1) r21_0)) nin0))).ext E32).keep Kc33 (ninS (Nat.ne_of_lt (Nat.lt_of_lt_of_le (Nat.lt_of_lt_of_le (Nat.lt_of_lt_of_le (Nat.lt_of_lt_of_le (Nat.lt_of_lt_of_le (Nat.lt_of_lt_of_le (Nat.lt_of_lt_of_le zc5.lt Kc20.1) Kc21.1) Kc25.1) Kc26.1) Kc30.1) Kc31.1) (Nat.le_of_eq g32.symm))) nin0)).same W34
    refine own_go st34 ?_
    have K34 : Keep h0 h34 [a] := K33.wr W34 (Or.inl (List.mem_of_getElem? (i := 0) rfl))
    have O34 := O33.wr W34 gc18
    have N34 := Fr.snoc X34 N33 gc18
    obtain ⟨fs35, hr35, hrun35, hended35, hW35, hsame35⟩ := X34.leave (v := none) (fun _ => rfl)
    refine ⟨_, _, ?_, hrun35, hended35, _, _, rfl, ?_, ⟨_, rfl⟩, hW35, hsame35.mono (by decide) (by decide)⟩
    · exact X34.returnOut hx hret (hb hby d1_140) hr35
    · show Q_rmIni3 Z a n dc kd ca bxc el h0 n0 _ T34.heap _
      rw [e34]
      exact ⟨b7, k7, b11, k11, b2, ed_21, k_21, ((((0 : Int32) + (1 : Int32)) + (1 : Int32)) + (1 : Int32)), vw, vu, r_20, r_25, r_30, rfl, N34, K34, sc20, sc22, sc24, (Nat.le_trans K20.1 r21_0), (((((((((zc9.keep Kc20 nin0).keep Kc21 (ninS nc30 nin0)).keep Kc25 nin0).keep Kc26 (ninS nc30 (ninS (Nat.ne_of_lt (Nat.lt_of_lt_of_le (Nat.lt_of_lt_of_le zc5.lt Kc20.1) r21_0)) nin0))).keep Kc30 nin0).keep Kc31 (ninS nc30 (ninS (Nat.ne_of_lt (Nat.lt_of_lt_of_le (Nat.lt_of_lt_of_le zc5.lt Kc20.1) r21_0)) nin0))).ext E32).keep Kc33 (ninS (Nat.ne_of_lt (Nat.lt_of_lt_of_le (Nat.lt_of_lt_of_le (Nat.lt_of_lt_of_le (Nat.lt_of_lt_of_le (Nat.lt_of_lt_of_le (Nat.lt_of_lt_of_le (Nat.lt_of_lt_of_le zc5.lt Kc20.1) Kc21.1) Kc25.1) Kc26.1) Kc30.1) Kc31.1) (Nat.le_of_eq g32.symm))) nin0)).other W34 (Or.inr (slot_ne (Or.inr (own_w hw 42 rfl)) (Or.inl (own_w hw 112 rfl)) (by decide) (t := (.array .int)) (t' := (.object "com/example/kneiphof/kneiphof/Partitioning")) (by decide) (by decide)))), (((((((((zc10.keep Kc20 nin0).keep Kc21 (ninS nc30 nin0)).keep Kc25 nin0).keep Kc26 (ninS nc30 (ninS (Nat.ne_of_lt (Nat.lt_of_lt_of_le (Nat.lt_of_lt_of_le zc5.lt Kc20.1) r21_0)) nin0))).keep Kc30 nin0).keep Kc31 (ninS nc30 (ninS (Nat.ne_of_lt (Nat.lt_of_lt_of_le (Nat.lt_of_lt_of_le zc5.lt Kc20.1) r21_0)) nin0))).ext E32).keep Kc33 (ninS (Nat.ne_of_lt (Nat.lt_of_lt_of_le (Nat.lt_of_lt_of_le (Nat.lt_of_lt_of_le (Nat.lt_of_lt_of_le (Nat.lt_of_lt_of_le (Nat.lt_of_lt_of_le (Nat.lt_of_lt_of_le zc5.lt Kc20.1) Kc21.1) Kc25.1) Kc26.1) Kc30.1) Kc31.1) (Nat.le_of_eq g32.symm))) nin0)).other W34 (Or.inr (slot_ne (Or.inr (own_w hw 44 rfl)) (Or.inl (own_w hw 112 rfl)) (by decide) (t := (.array .int)) (t' := (.object "com/example/kneiphof/kneiphof/Partitioning")) (by decide) (by decide)))), (((((((((zc6.keep Kc20 nin0).keep Kc21 (ninS nc30 nin0)).keep Kc25 nin0).keep Kc26 (ninS nc30 (ninS (Nat.ne_of_lt (Nat.lt_of_lt_of_le (Nat.lt_of_lt_of_le zc5.lt Kc20.1) r21_0)) nin0))).keep Kc30 nin0).keep Kc31 (ninS nc30 (ninS (Nat.ne_of_lt (Nat.lt_of_lt_of_le (Nat.lt_of_lt_of_le zc5.lt Kc20.1) r21_0)) nin0))).ext E32).keep Kc33 (ninS (Nat.ne_of_lt (Nat.lt_of_lt_of_le (Nat.lt_of_lt_of_le (Nat.lt_of_lt_of_le (Nat.lt_of_lt_of_le (Nat.lt_of_lt_of_le (Nat.lt_of_lt_of_le (Nat.lt_of_lt_of_le zc5.lt Kc20.1) Kc21.1) Kc25.1) Kc26.1) Kc30.1) Kc31.1) (Nat.le_of_eq g32.symm))) nin0)).other W34 (Or.inr (slot_ne (Or.inr (own_w hw 35 rfl)) (Or.inl (own_w hw 112 rfl)) (by decide) (t := (.object "java/util/List")) (t' := (.object "com/example/kneiphof/kneiphof/Partitioning")) (by decide) (by decide)))), (((((((((zc8.keep Kc20 nin0).keep Kc21 (ninS nc30 nin0)).keep Kc25 nin0).keep Kc26 (ninS nc30 (ninS (Nat.ne_of_lt (Nat.lt_of_lt_of_le (Nat.lt_of_lt_of_le zc5.lt Kc20.1) r21_0)) nin0))).keep Kc30 nin0).keep Kc31 (ninS nc30 (ninS (Nat.ne_of_lt (Nat.lt_of_lt_of_le (Nat.lt_of_lt_of_le zc5.lt Kc20.1) r21_0)) nin0))).ext E32).keep Kc33 (ninS (Nat.ne_of_lt (Nat.lt_of_lt_of_le (Nat.lt_of_lt_of_le (Nat.lt_of_lt_of_le (Nat.lt_of_lt_of_le (Nat.lt_of_lt_of_le (Nat.lt_of_lt_of_le (Nat.lt_of_lt_of_le zc5.lt Kc20.1) Kc21.1) Kc25.1) Kc26.1) Kc30.1) Kc31.1) (Nat.le_of_eq g32.symm))) nin0)).other W34 (Or.inr (slot_ne (Or.inr (own_w hw 39 rfl)) (Or.inl (own_w hw 112 rfl)) (by decide) (t := .int) (t' := (.object "com/example/kneiphof/kneiphof/Partitioning")) (by decide) (by decide)))), (((((((((zc16.keep Kc20 nin0).keep Kc21 (ninS (Ne.symm nc28) nin0)).keep Kc25 nin0).keep Kc26 (ninS (Ne.symm nc28) (ninS (Nat.ne_of_lt (Nat.lt_of_lt_of_le (Nat.lt_of_lt_of_le zc16.lt Kc20.1) r21_0)) nin0))).keep Kc30 nin0).keep Kc31 (ninS (Ne.symm nc28) (ninS (Nat.ne_of_lt (Nat.lt_of_lt_of_le (Nat.lt_of_lt_of_le zc16.lt Kc20.1) r21_0)) nin0))).ext E32).keep Kc33 (ninS (Nat.ne_of_lt (Nat.lt_of_lt_of_le (Nat.lt_of_lt_of_le (Nat.lt_of_lt_of_le (Nat.lt_of_lt_of_le (Nat.lt_of_lt_of_le (Nat.lt_of_lt_of_le (Nat.lt_of_lt_of_le zc16.lt Kc20.1) Kc21.1) Kc25.1) Kc26.1) Kc30.1) Kc31.1) (Nat.le_of_eq g32.symm))) nin0)).other W34 (Ne.symm nc26)), (((((((((zc17.keep Kc20 nin0).keep Kc21 (ninS (Ne.symm nc29) nin0)).keep Kc25 nin0).keep Kc26 (ninS (Ne.symm nc29) (ninS (Nat.ne_of_lt (Nat.lt_of_lt_of_le (Nat.lt_of_lt_of_le zc17.lt Kc20.1) r21_0)) nin0))).keep Kc30 nin0).keep Kc31 (ninS (Ne.symm nc29) (ninS (Nat.ne_of_lt (Nat.lt_of_lt_of_le (Nat.lt_of_lt_of_le zc17.lt Kc20.1) r21_0)) nin0))).ext E32).keep Kc33 (ninS (Nat.ne_of_lt (Nat.lt_of_lt_of_le (Nat.lt_of_lt_of_le (Nat.lt_of_lt_of_le (Nat.lt_of_lt_of_le (Nat.lt_of_lt_of_le (Nat.lt_of_lt_of_le (Nat.lt_of_lt_of_le zc17.lt Kc20.1) Kc21.1) Kc25.1) Kc26.1) Kc30.1) Kc31.1) (Nat.le_of_eq g32.symm))) nin0)).other W34 (Ne.symm nc27)), (((((((((zc12.keep Kc20).keep Kc21).keep Kc25).keep Kc26).keep Kc30).keep Kc31).ext E32).keep Kc33).wr W34), (((r31_1.ext E32).keep Kc33 (ninS (Nat.ne_of_lt (Nat.lt_of_lt_of_le r31_1.lt (Nat.le_of_eq g32.symm))) nin0)).other W34 (Or.inl (Ne.symm nc30))), (((r31_2.ext E32).keep Kc33 (ninS (Nat.ne_of_lt (Nat.lt_of_lt_of_le r31_1.lt (Nat.le_of_eq g32.symm))) nin0)).other W34 (Or.inl (Ne.symm nc30))), (((r31_3.ext E32).keep Kc33 (ninS (Nat.ne_of_lt (Nat.lt_of_lt_of_le r31_1.lt (Nat.le_of_eq g32.symm))) nin0)).other W34 (Or.inl (Ne.symm nc30))), (((r31_0.ext E32).keep Kc33 (ninS (Nat.ne_of_lt (Nat.lt_of_lt_of_le r31_0.lt (Nat.le_of_eq g32.symm))) nin0)).other W34 (Ne.symm (Nat.ne_of_lt (Nat.lt_of_lt_of_le (Nat.lt_of_lt_of_le zc5.lt Kc20.1) r21_0)))), r21_2, nc25, (Ne.symm nc28), (Nat.ne_of_lt (Nat.lt_of_lt_of_le (Nat.lt_of_lt_of_le zc16.lt Kc20.1) r21_0)), (Ne.symm nc29), (Nat.ne_of_lt (Nat.lt_of_lt_of_le (Nat.lt_of_lt_of_le zc17.lt Kc20.1) r21_0)), (Nat.ne_of_lt (Nat.lt_of_lt_of_le (Nat.lt_of_lt_of_le zc12.lt Kc20.1) r21_0)), r20_0, (by have q := r20_1; rw [own_a0] at q; exact q), r25_0, r25_1, r30_0, r30_1, hvw, hvu, (own_eqp hpr (by omega)), hfc⟩
  | succ k_ ih =>
    intro Tc Hc locsc i vw vu Xc ec Nc Kc0 Oc zc0 zc1 zc2 zc3 zc4 zc5 zc6 zc7 zc8 zc9 zc10 zc11 zc12 zc13 zc14 zc15 zc16 zc17 gc18 gc19 sc20 gc21 sc22 gc23 sc24 nc25 nc26 nc27 nc28 nc29 nc30 hbx hn hfc hms hi0 hvw hvu hpr
    have hlt : i < (n * (3 : Int32)) := own_lt (by omega)
    refine own_go (A := Tc.setTop (mkF m 61 #[.val (.ref a), .val (.int n), .val (.int (3 : Int32)), .val (.int (3 : Int32)), .val (.int i)] [(.ref a), (.int i)])) (fun t_ k_ => ?_) ?_
    · show Steps p.tables e below (Tc.setTop (mkF m 58 #[.val (.ref a), .val (.int n), .val (.int (3 : Int32)), .val (.int (3 : Int32)), .val (.int i)] [])) t_
      refine XS.iload Xc.here hx rfl (hb hby d1_58) rfl ?_
      refine XS.aloadN Xc.here hx rfl (hb hby d1_60) rfl rfl ?_
      exact k_
    obtain ⟨T36, X36, e36, st36⟩ := getF Xc hx hZ hown (host := "") (Or.inl (own_w hw 41 rfl)) Via.refl ec zc9 (g := (mkF m 61 #[.val (.ref a), .val (.int n), .val (.int (3 : Int32)), .val (.int (3 : Int32)), .val (.int i)] [(.ref a), (.int i)])) rfl rfl (hb hby d1_61)
    refine own_go st36 ?_
    obtain ⟨cl37, Ar37, q37, S37, M37, H37, G37⟩ := id zc16
    refine own_go (A := T36.setTop (mkF m 69 #[.val (.ref a), .val (.int n), .val (.int (3 : Int32)), .val (.int (3 : Int32)), .val (.int i)] [(.ref a)])) (fun t_ k_ => ?_) ?_
    · show Steps p.tables e below (T36.setTop (mkF m 64 #[.val (.ref a), .val (.int n), .val (.int (3 : Int32)), .val (.int (3 : Int32)), .val (.int i)] [(.ref b7), (.int i)])) t_
      refine X36.arraylength hx (by rw [e36]; exact Ar37.1) (State.isArrayOf_alike hZ.alike Ar37.2.1) (g := (mkF m 64 #[.val (.ref a), .val (.int n), .val (.int (3 : Int32)), .val (.int (3 : Int32)), .val (.int i)] [(.ref b7), (.int i)])) rfl rfl (hb hby d1_64) _ ?_
      rw [len_of S37 M37]
      refine XS.icmpNo X36.here hx rfl (hb hby d1_65) rfl (tlt hlt).2.1 ?_
      refine XS.aloadN X36.here hx rfl (hb hby d1_68) rfl rfl ?_
      exact k_
    obtain ⟨T38, X38, e38, st38⟩ := getF X36 hx hZ hown (host := "") (Or.inl (own_w hw 41 rfl)) Via.refl e36 zc9 (g := (mkF m 69 #[.val (.ref a), .val (.int n), .val (.int (3 : Int32)), .val (.int (3 : Int32)), .val (.int i)] [(.ref a)])) rfl rfl (hb hby d1_69)
    refine own_go st38 ?_
    refine own_go (A := T38.setTop (mkF m 76 #[.val (.ref a), .val (.int n), .val (.int (3 : Int32)), .val (.int (3 : Int32)), .val (.int i)] [(.int i), (.int i), (.ref b7)])) (fun t_ k_ => ?_) ?_
    · show Steps p.tables e below (T38.setTop (mkF m 72 #[.val (.ref a), .val (.int n), .val (.int (3 : Int32)), .val (.int (3 : Int32)), .val (.int i)] [(.ref b7)])) t_
      refine XS.iload X38.here hx rfl (hb hby d1_72) rfl ?_
      refine XS.iload X38.here hx rfl (hb hby d1_74) rfl ?_
      exact k_
    obtain ⟨cl39, Ar39, q39, S39, M39, H39, G39⟩ := id zc16
    have hin39 : ¬ (i < 0 ∨ cl39.slots.size ≤ (i).toNatClampNeg) := inb_of S39 ⟨own_n0 hi0, hlt⟩
    obtain ⟨T40, h40, X40, e40, W40, st40⟩ := stI X38 hx hZ e38 Ar39 (j := i) hin39 (g := (mkF m 76 #[.val (.ref a), .val (.int n), .val (.int (3 : Int32)), .val (.int (3 : Int32)), .val (.int i)] [(.int i), (.int i), (.ref b7)])) rfl rfl (hb hby d1_76)
    obtain ⟨vs40, hvs40⟩ : ∃ z_ : List Value, z_ = (vw.set (i).toNatClampNeg (.int i)) := ⟨_, rfl⟩
    have B40 : Arv Z h40 b7 k7 .int (n * (3 : Int32)) vs40 (.int (0 : Int32)) := hvs40 ▸ Arv.set Ar39 q39 S39 M39 H39 G39 rfl W40 _ rfl (own_ln hi0 hlt hvw)
    refine own_go st40 ?_
    have K40 : Keep h0 h40 [a] := Kc0.wr W40 (Or.inr sc20)
    have O40 := Oc.wr W40 gc19
    have N40 := Fr.snoc X40 Nc gc19
    refine own_go (A := T40.setTop (mkF m 78 #[.val (.ref a), .val (.int n), .val (.int (3 : Int32)), .val (.int (3 : Int32)), .val (.int i)] [(.ref a)])) (fun t_ k_ => ?_) ?_
    · show Steps p.tables e below (T40.setTop (mkF m 77 #[.val (.ref a), .val (.int n), .val (.int (3 : Int32)), .val (.int (3 : Int32)), .val (.int i)] [])) t_
      refine XS.aloadN X40.here hx rfl (hb hby d1_77) rfl rfl ?_
      exact k_
    obtain ⟨T41, X41, e41, st41⟩ := getF X40 hx hZ hown (host := "") (Or.inl (own_w hw 43 rfl)) Via.refl e40 (zc10.other W40 (Or.inl nc26)) (g := (mkF m 78 #[.val (.ref a), .val (.int n), .val (.int (3 : Int32)), .val (.int (3 : Int32)), .val (.int i)] [(.ref a)])) rfl rfl (hb hby d1_78)
    refine own_go st41 ?_
    refine own_go (A := T41.setTop (mkF m 85 #[.val (.ref a), .val (.int n), .val (.int (3 : Int32)), .val (.int (3 : Int32)), .val (.int i)] [(.int i), (.int i), (.ref b11)])) (fun t_ k_ => ?_) ?_
    · show Steps p.tables e below (T41.setTop (mkF m 81 #[.val (.ref a), .val (.int n), .val (.int (3 : Int32)), .val (.int (3 : Int32)), .val (.int i)] [(.ref b11)])) t_
      refine XS.iload X41.here hx rfl (hb hby d1_81) rfl ?_
      refine XS.iload X41.here hx rfl (hb hby d1_83) rfl ?_
      exact k_
    obtain ⟨cl42, Ar42, q42, S42, M42, H42, G42⟩ := id (zc17.other W40 (Ne.symm nc25))
    have hin42 : ¬ (i < 0 ∨ cl42.slots.size ≤ (i).toNatClampNeg) := inb_of S42 ⟨own_n0 hi0, own_lt (by have q := Int32.lt_iff_toInt_lt.mp hlt; have h1 := own_nr3 hn; have h2 := own_ns3 hn; omega)⟩
    obtain ⟨T43, h43, X43, e43, W43, st43⟩ := stI X41 hx hZ e41 Ar42 (j := i) hin42 (g := (mkF m 85 #[.val (.ref a), .val (.int n), .val (.int (3 : Int32)), .val (.int (3 : Int32)), .val (.int i)] [(.int i), (.int i), (.ref b11)])) rfl rfl (hb hby d1_85)
    obtain ⟨vs43, hvs43⟩ : ∃ z_ : List Value, z_ = (vu.set (i).toNatClampNeg (.int i)) := ⟨_, rfl⟩
    have B43 : Arv Z h43 b11 k11 .int ((n * (3 : Int32)) + (3 : Int32)) vs43 (.int (0 : Int32)) := hvs43 ▸ Arv.set Ar42 q42 S42 M42 H42 G42 rfl W43 _ rfl (own_ln hi0 (own_lt (by have q := Int32.lt_iff_toInt_lt.mp hlt; have h1 := own_nr3 hn; have h2 := own_ns3 hn; omega)) hvu)
    refine own_go st43 ?_
    have K43 : Keep h0 h43 [a] := K40.wr W43 (Or.inr sc22)
    have O43 := O40.wr W43 gc21
    have N43 := Fr.snoc X43 N40 gc21
    refine own_go (A := T43.setTop (mkF m 58 #[.val (.ref a), .val (.int n), .val (.int (3 : Int32)), .val (.int (3 : Int32)), .val (.int (i + (1 : Int32)))] [])) (fun t_ k_ => ?_) ?_
    · show Steps p.tables e below (T43.setTop (mkF m 86 #[.val (.ref a), .val (.int n), .val (.int (3 : Int32)), .val (.int (3 : Int32)), .val (.int i)] [])) t_
      refine XS.iinc X43.here hx rfl (hb hby d1_86) rfl (l' := #[.val (.ref a), .val (.int n), .val (.int (3 : Int32)), .val (.int (3 : Int32)), .val (.int (i + (1 : Int32)))]) rfl ?_
      refine XS.goto X43.here hx rfl (pc0 := 89) (pc' := 58) rfl (hb hby d1_89) (by decide) (by decide) ?_
      exact k_
    exact ih T43 h43 _ (i + (1 : Int32)) vs40 vs43 X43 e43 N43 K43 O43 zc0 zc1 zc2 zc3 zc4 ((zc5.wr W40).wr W43) ((zc6.other W40 (Or.inl nc26)).other W43 (Or.inl nc27)) ((zc7.other W40 (Or.inl nc26)).other W43 (Or.inl nc27)) ((zc8.other W40 (Or.inl nc26)).other W43 (Or.inl nc27)) ((zc9.other W40 (Or.inl nc26)).other W43 (Or.inl nc27)) ((zc10.other W40 (Or.inl nc26)).other W43 (Or.inl nc27)) ((zc11.other W40 (Or.inl nc26)).other W43 (Or.inl nc27)) ((zc12.wr W40).wr W43) ((zc13.other W40 (Or.inl nc28)).other W43 (Or.inl nc29)) ((zc14.other W40 (Or.inl nc28)).other W43 (Or.inl nc29)) ((zc15.other W40 (Or.inl nc28)).other W43 (Or.inl nc29)) (B40.other W43 nc25) B43 gc18 gc19 sc20 gc21 sc22 gc23 sc24 nc25 nc26 nc27 nc28 nc29 nc30 hbx hn hfc (by rw [own_inc hi0 hlt]; omega) (by rw [own_inc hi0 hlt]; omega) (by rw [hvs40, List.length_set]; exact hvw) (by rw [hvs43, List.length_set]; exact hvu) (by rw [hvs40]; exact own_pset hi0 hlt hvw hpr)
theorem ef_rmIni3 (m : MethodId) (a : Addr) (n : Int32) : entryFrame m #[(.ref a), (.int n), (.int (3 : Int32)), (.int (3 : Int32))] 5 = mkF m 0 #[.val (.ref a), .val (.int n), .val (.int (3 : Int32)), .val (.int (3 : Int32)), .unset] [] := by first | (simp [entryFrame, mkF, argsToLocals, Value.category]; done) | rfl
set_option maxRecDepth 65536 in
set_option maxHeartbeats 40000000 in
theorem rmIni3 (l : Launch) (Z : State) (a0 : Array Value) (hw : ∀ d ∈ tables_1, d.before a0 Z = true) (ws : List Jvm.Cond) (a : Addr) (n : Int32) (dc : Addr) (kd : ClassId) (ca : Addr) (bxc : Cell) (el : Addr) (h0 : Heap) (n0 : Nat) (Z0 : n0 ≤ h0.size) (O0 : Old Z n0 h0) (u1 : Sta Z Z.heap "java/util/ArrayList" "DEFAULTCAPACITY_EMPTY_ELEMENTDATA" "[Ljava/lang/Object;" (.ref dc)) (u2 : Arv Z Z.heap dc kd (.object "java/lang/Object") (0 : Int32) [] .null) (u3 : Sta Z Z.heap "java/lang/Integer$IntegerCache" "high" "I" (.int (127 : Int32))) (u4 : Sta Z Z.heap "java/lang/Integer$IntegerCache" "cache" "[Ljava/lang/Integer;" (.ref ca)) (hbx : Bxs Z ca bxc "java/lang/Integer" "I" (256 : Int32) own_bval) (u6 : Sta Z Z.heap "java/util/ImmutableCollections" "EMPTY_LIST" "Ljava/util/ImmutableCollections$ListN;" (.ref el)) (u7 : Exa Z h0 a "com/example/kneiphof/kneiphof/Assignment") (u8 : Fld Z h0 a "com/example/kneiphof/kneiphof/Assignment" "spares" "Ljava/util/List;" .null) (u9 : Fld Z h0 a "com/example/kneiphof/kneiphof/Assignment" "partitions" "I" (.int (0 : Int32))) (u10 : Fld Z h0 a "com/example/kneiphof/kneiphof/Assignment" "replicas" "I" (.int (0 : Int32))) (u11 : Fld Z h0 a "com/example/kneiphof/kneiphof/Assignment" "workers" "[I" .null) (u12 : Fld Z h0 a "com/example/kneiphof/kneiphof/Assignment" "slots" "[I" .null) (u13 : Fld Z h0 a "com/example/kneiphof/kneiphof/Assignment" "partitioning" "Lcom/example/kneiphof/kneiphof/Partitioning;" .null) (u14 : n0 ≤ a) (hn : 1 ≤ n.toInt ∧ n.toInt ≤ 4) :
    MetFree l own_y14 (head1 (Jvm.Cond.code own_y14 prog_5_method_1_code 5 none :: ws) ({ frames := 5, cells := 5, slots := 51, locals := 69 } : Room)) (fun a_ U_ => a_ = #[(.ref a), (.int n), (.int (3 : Int32)), (.int (3 : Int32))] ∧ Z.Warmed39 U_.vm ∧ U_.heap = h0) (fun _ _ _ _ _ => True) (fun _ U_ o_ U2_ => ∃ v_ L_, o_ = .returned v_ ∧ Q_rmIni3 Z a n dc kd ca bxc el h0 n0 v_ U2_.heap L_ ∧ FrameEnd U_ o_ U2_ L_ ({ frames := 5, cells := 5, slots := 51, locals := 69 } : Room).cells ({ frames := 5, cells := 5, slots := 51, locals := 69 } : Room).slots) := by
  refine MetFree.of_bodySF (plainFor_of_name pn_7) hisR ?_
  intro p e s m args below meth c s₁ Bd hml0 hP hK
  obtain ⟨rfl, hZ, hh⟩ := hP
  have hx := Bd.exec
  have hby := Bd.bytes
  have hml : c.maxLocals = 5 := hml0
  have hown : s.vm.findClass "com/example/kneiphof/kneiphof/Assignment" = some m.cls := findClass_of_methodNamed Bd.named
  have hnm := (name_of_methodNamed Bd.named Bd.method).1
  have X0 : Stand p l e ({ frames := 5, cells := 5, slots := 51, locals := 69 } : Room) s m #[(.ref a), (.int n), (.int (3 : Int32)), (.int (3 : Int32))] below meth c s₁ [] 0 0 := Stand.of_body Bd
  have e0 : s₁.heap = h0 := by rw [← hh, Bd.state]; rfl
  have N0 := Fr.nil n0
  refine own_go (A := s₁.setTop (mkF m 0 #[.val (.ref a), .val (.int n), .val (.int (3 : Int32)), .val (.int (3 : Int32)), .unset] [])) (fun t_ k_ => castTop (ef_rmIni3 m a n) k_) ?_
  refine own_go (A := s₁.setTop (mkF m 1 #[.val (.ref a), .val (.int n), .val (.int (3 : Int32)), .val (.int (3 : Int32)), .unset] [(.ref a)])) (fun t_ k_ => ?_) ?_
  · show Steps p.tables e below (s₁.setTop (mkF m 0 #[.val (.ref a), .val (.int n), .val (.int (3 : Int32)), .val (.int (3 : Int32)), .unset] [])) t_
    refine XS.aloadN X0.here hx rfl (hb hby d1_0) rfl rfl ?_
    exact k_
  obtain ⟨T1, X1, e1, st1⟩ := initO X0 hx hZ hown (own_w hw 7 rfl) (own_w hw 8 rfl) (own_w hw 9 rfl) e0 (g := (mkF m 1 #[.val (.ref a), .val (.int n), .val (.int (3 : Int32)), .val (.int (3 : Int32)), .unset] [(.ref a)])) rfl (by rw [hml]; rfl) rfl (hb hby d1_1) (by decide) (W := 0) (by show 2 * 0 + _ ≤ _; exact Nat.le_of_eq rfl) (by decide)
  refine own_go st1 ?_
  refine own_go (A := T1.setTop (mkF m 5 #[.val (.ref a), .val (.int n), .val (.int (3 : Int32)), .val (.int (3 : Int32)), .unset] [(.ref a)])) (fun t_ k_ => ?_) ?_
  · show Steps p.tables e below (T1.setTop (mkF m 4 #[.val (.ref a), .val (.int n), .val (.int (3 : Int32)), .val (.int (3 : Int32)), .unset] [])) t_
    refine XS.aloadN X1.here hx rfl (hb hby d1_4) rfl rfl ?_
    exact k_
  obtain ⟨T2, h2, X2, e2, E2, A2, D2, -, st2⟩ := newO X1 hx hZ hown (own_w hw 10 rfl) (own_w hw 11 rfl) (own_w hw 12 rfl) e1 (g := (mkF m 5 #[.val (.ref a), .val (.int n), .val (.int (3 : Int32)), .val (.int (3 : Int32)), .unset] [(.ref a)])) rfl (hb hby d1_5) (by decide) (by decide)
  obtain ⟨b2, g2⟩ : ∃ z, z = h0.size := ⟨_, rfl⟩
  rw [← g2] at A2 D2 st2
  refine own_go st2 ?_
  have K2 : Keep h0 h2 [a] := (Keep.refl h0 [a]).ext E2
  have O2 := O0.ext E2
  have F2_modCount : Fld Z h2 b2 "java/util/AbstractList" "modCount" "I" (.int (0 : Int32)) := D2 (Or.inl (own_w hw 30 rfl)) (ty := .int) (by decide)
  have F2_elementData : Fld Z h2 b2 "java/util/ArrayList" "elementData" "[Ljava/lang/Object;" .null := D2 (Or.inl (own_w hw 33 rfl)) (ty := (.array (.object "java/lang/Object"))) (by decide)
  have F2_size : Fld Z h2 b2 "java/util/ArrayList" "size" "I" (.int (0 : Int32)) := D2 (Or.inl (own_w hw 68 rfl)) (ty := .int) (by decide)
  refine own_go (A := T2.setTop (mkF m 9 #[.val (.ref a), .val (.int n), .val (.int (3 : Int32)), .val (.int (3 : Int32)), .unset] [(.ref b2), (.ref b2), (.ref a)])) (fun t_ k_ => ?_) ?_
  · show Steps p.tables e below (T2.setTop (mkF m 8 #[.val (.ref a), .val (.int n), .val (.int (3 : Int32)), .val (.int (3 : Int32)), .unset] [(.ref b2), (.ref a)])) t_
    refine XS.dup X2.here hx rfl (hb hby d1_8) rfl rfl ?_
    exact k_
  obtain ⟨_, _, ⟨T3, L3, k3, n3⟩, -, X3, ⟨Lc3, hQ3, l3, y3, z3⟩, st3⟩ := X2.specialBack hx (y := own_y3) rfl hown (mvT hZ (own_w hw 13 rfl)) (mvT hZ (own_w hw 14 rfl)) (mvT hZ (own_w hw 15 rfl)) (by decide) (backOf (W := 2) (rmALI l Z a0 hw [] b2 dc h2 n0 (Nat.le_trans Z0 K2.1) O2 u1 A2 F2_elementData F2_size F2_modCount (Nat.le_trans Z0 (Nat.le_of_eq g2.symm))) hZ (own_w hw 15 rfl) (own_w hw 12 rfl) (by decide) (by decide)) (g := (mkF m 9 #[.val (.ref a), .val (.int n), .val (.int (3 : Int32)), .val (.int (3 : Int32)), .unset] [(.ref b2), (.ref b2), (.ref a)])) rfl (by rw [hml]; rfl) (Steps.refl _) (a := b2) (argsL := []) (rest := [(.ref b2), (.ref a)]) (lenOf pd_0 rfl) rfl (by show 2 * 0 + _ ≤ _; exact Nat.le_of_eq rfl) (hb hby d1_9) (fun _ _ => ⟨rfl, e2, (by decide : 1 + 0 ≤ _), (by decide : 3 + 0 ≤ _)⟩)
  dsimp only [Pt.U, Pt.locs, Pt.cells, Pt.slots] at X3 l3 y3 z3 st3 hQ3
  subst l3 y3 z3
  obtain ⟨rfl, N3q, Kc3, r3_0, r3_1, r3_2⟩ := hQ3
  have N3 := Fr.app N0 N3q
  refine own_via st3 ?_
  have K3 : Keep h0 T3.heap [a] := K2.trans Kc3 (allS (P := fun x => x ∈ _ ∨ _ ≤ x) (Or.inr (Nat.le_of_eq g2.symm)) all0)
  have O3 := O2.keep Kc3 (allS (P := fun x => n0 ≤ x) (Nat.le_trans Z0 (Nat.le_of_eq g2.symm)) all0)
  obtain ⟨T4, h4, X4, e4, W4, st4⟩ := putF X3 hx hZ hown (host := "") (Or.inl (own_w hw 34 rfl)) Via.refl rfl ((u8.ext E2).keep Kc3 (ninS (Nat.ne_of_lt (Nat.lt_of_lt_of_le u7.lt (Nat.le_of_eq g2.symm))) nin0)) ((u7.ext E2).keep Kc3) (Or.inr ⟨(own_w hw 35 rfl), rfl, hnm⟩) (own_w hw 2 rfl) (ty := (.object "java/util/List")) (by decide) rfl rfl (g := (mkF m 12 #[.val (.ref a), .val (.int n), .val (.int (3 : Int32)), .val (.int (3 : Int32)), .unset] [(.ref b2), (.ref a)])) rfl rfl (hb hby d1_12)
  have Fw4 : Fld Z h4 a "com/example/kneiphof/kneiphof/Assignment" "spares" "Ljava/util/List;" (.ref b2) := ((u8.ext E2).keep Kc3 (ninS (Nat.ne_of_lt (Nat.lt_of_lt_of_le u7.lt (Nat.le_of_eq g2.symm))) nin0)).same W4
  refine own_go st4 ?_
  have K4 : Keep h0 h4 [a] := K3.wr W4 (Or.inl (List.mem_of_getElem? (i := 0) rfl))
  have O4 := O3.wr W4 u14
  have N4 := Fr.snoc X4 N3 u14
  refine own_go (A := T4.setTop (mkF m 17 #[.val (.ref a), .val (.int n), .val (.int (3 : Int32)), .val (.int (3 : Int32)), .unset] [(.int n), (.ref a)])) (fun t_ k_ => ?_) ?_
  · show Steps p.tables e below (T4.setTop (mkF m 15 #[.val (.ref a), .val (.int n), .val (.int (3 : Int32)), .val (.int (3 : Int32)), .unset] [])) t_
    refine XS.aloadN X4.here hx rfl (hb hby d1_15) rfl rfl ?_
    refine XS.iloadN X4.here hx rfl (hb hby d1_16) rfl ?_
    exact k_
  obtain ⟨T5, h5, X5, e5, W5, st5⟩ := putF X4 hx hZ hown (host := "") (Or.inl (own_w hw 36 rfl)) Via.refl e4 (((u9.ext E2).keep Kc3 (ninS (Nat.ne_of_lt (Nat.lt_of_lt_of_le u7.lt (Nat.le_of_eq g2.symm))) nin0)).other W4 (Or.inr (slot_ne (Or.inr (own_w hw 37 rfl)) (Or.inr (own_w hw 35 rfl)) (by decide) (t := .int) (t' := (.object "java/util/List")) (by decide) (by decide)))) (((u7.ext E2).keep Kc3).wr W4) (Or.inr ⟨(own_w hw 37 rfl), rfl, hnm⟩) (own_w hw 2 rfl) (ty := .int) (by decide) rfl rfl (g := (mkF m 17 #[.val (.ref a), .val (.int n), .val (.int (3 : Int32)), .val (.int (3 : Int32)), .unset] [(.int n), (.ref a)])) rfl rfl (hb hby d1_17)
  have Fw5 : Fld Z h5 a "com/example/kneiphof/kneiphof/Assignment" "partitions" "I" (.int n) := (((u9.ext E2).keep Kc3 (ninS (Nat.ne_of_lt (Nat.lt_of_lt_of_le u7.lt (Nat.le_of_eq g2.symm))) nin0)).other W4 (Or.inr (slot_ne (Or.inr (own_w hw 37 rfl)) (Or.inr (own_w hw 35 rfl)) (by decide) (t := .int) (t' := (.object "java/util/List")) (by decide) (by decide)))).same W5
  refine own_go st5 ?_
  have K5 : Keep h0 h5 [a] := K4.wr W5 (Or.inl (List.mem_of_getElem? (i := 0) rfl))
  have O5 := O4.wr W5 u14
  have N5 := Fr.snoc X5 N4 u14
  refine own_go (A := T5.setTop (mkF m 22 #[.val (.ref a), .val (.int n), .val (.int (3 : Int32)), .val (.int (3 : Int32)), .unset] [(.int (3 : Int32)), (.ref a)])) (fun t_ k_ => ?_) ?_
  · show Steps p.tables e below (T5.setTop (mkF m 20 #[.val (.ref a), .val (.int n), .val (.int (3 : Int32)), .val (.int (3 : Int32)), .unset] [])) t_
    refine XS.aloadN X5.here hx rfl (hb hby d1_20) rfl rfl ?_
    refine XS.iloadN X5.here hx rfl (hb hby d1_21) rfl ?_
    exact k_
  obtain ⟨T6, h6, X6, e6, W6, st6⟩ := putF X5 hx hZ hown (host := "") (Or.inl (own_w hw 38 rfl)) Via.refl e5 ((((u10.ext E2).keep Kc3 (ninS (Nat.ne_of_lt (Nat.lt_of_lt_of_le u7.lt (Nat.le_of_eq g2.symm))) nin0)).other W4 (Or.inr (slot_ne (Or.inr (own_w hw 39 rfl)) (Or.inr (own_w hw 35 rfl)) (by decide) (t := .int) (t' := (.object "java/util/List")) (by decide) (by decide)))).other W5 (Or.inr (slot_ne (Or.inr (own_w hw 39 rfl)) (Or.inr (own_w hw 37 rfl)) (by decide) (t := .int) (t' := .int) (by decide) (by decide)))) ((((u7.ext E2).keep Kc3).wr W4).wr W5) (Or.inr ⟨(own_w hw 39 rfl), rfl, hnm⟩) (own_w hw 2 rfl) (ty := .int) (by decide) rfl rfl (g := (mkF m 22 #[.val (.ref a), .val (.int n), .val (.int (3 : Int32)), .val (.int (3 : Int32)), .unset] [(.int (3 : Int32)), (.ref a)])) rfl rfl (hb hby d1_22)
  have Fw6 : Fld Z h6 a "com/example/kneiphof/kneiphof/Assignment" "replicas" "I" (.int (3 : Int32)) := ((((u10.ext E2).keep Kc3 (ninS (Nat.ne_of_lt (Nat.lt_of_lt_of_le u7.lt (Nat.le_of_eq g2.symm))) nin0)).other W4 (Or.inr (slot_ne (Or.inr (own_w hw 39 rfl)) (Or.inr (own_w hw 35 rfl)) (by decide) (t := .int) (t' := (.object "java/util/List")) (by decide) (by decide)))).other W5 (Or.inr (slot_ne (Or.inr (own_w hw 39 rfl)) (Or.inr (own_w hw 37 rfl)) (by decide) (t := .int) (t' := .int) (by decide) (by decide)))).same W6
  refine own_go st6 ?_
  have K6 : Keep h0 h6 [a] := K5.wr W6 (Or.inl (List.mem_of_getElem? (i := 0) rfl))
  have O6 := O5.wr W6 u14
  have N6 := Fr.snoc X6 N5 u14
  refine own_go (A := T6.setTop (mkF m 29 #[.val (.ref a), .val (.int n), .val (.int (3 : Int32)), .val (.int (3 : Int32)), .unset] [(.int (n * (3 : Int32))), (.ref a)])) (fun t_ k_ => ?_) ?_
  · show Steps p.tables e below (T6.setTop (mkF m 25 #[.val (.ref a), .val (.int n), .val (.int (3 : Int32)), .val (.int (3 : Int32)), .unset] [])) t_
    refine XS.aloadN X6.here hx rfl (hb hby d1_25) rfl rfl ?_
    refine XS.iloadN X6.here hx rfl (hb hby d1_26) rfl ?_
    refine XS.iloadN X6.here hx rfl (hb hby d1_27) rfl ?_
    refine XS.imul X6.here hx rfl (hb hby d1_28) rfl ?_
    exact k_
  obtain ⟨T7, h7, k7, X7, e7, E7, A7, fc7, st7⟩ := own_newI X6 hx hZ (own_w hw 40 rfl) e6 (g := (mkF m 29 #[.val (.ref a), .val (.int n), .val (.int (3 : Int32)), .val (.int (3 : Int32)), .unset] [(.int (n * (3 : Int32))), (.ref a)])) rfl (hb hby d1_29) rfl (own_n0 (by rw [own_nr3 hn]; omega)) (cap := 16) (by have h := own_nr3 hn; have q := own_tn (x := (n * (3 : Int32))) (by omega); omega) (by decide) (by decide) (by decide)
  obtain ⟨b7, g7⟩ : ∃ z, z = h6.size := ⟨_, rfl⟩
  rw [← g7] at A7 st7
  refine own_go st7 ?_
  have K7 : Keep h0 h7 [a] := K6.ext E7
  have O7 := O6.ext E7
  obtain ⟨vs7, hvs7⟩ : ∃ z_ : List Value, z_ = List.replicate ((n * (3 : Int32))).toNatClampNeg (.int (0 : Int32)) := ⟨_, rfl⟩
  have B7 : Arv Z h7 b7 k7 .int (n * (3 : Int32)) vs7 (.int (0 : Int32)) := hvs7 ▸ (Arv.new A7 (own_n0 (by rw [own_nr3 hn]; omega))).pad (pad_rep [] (.int (0 : Int32)) _)
  have ln7 : vs7.length = ((n * (3 : Int32))).toNatClampNeg := by rw [hvs7]; exact List.length_replicate
  obtain ⟨T8, h8, X8, e8, W8, st8⟩ := putF X7 hx hZ hown (host := "") (Or.inl (own_w hw 41 rfl)) Via.refl e7 ((((((u11.ext E2).keep Kc3 (ninS (Nat.ne_of_lt (Nat.lt_of_lt_of_le u7.lt (Nat.le_of_eq g2.symm))) nin0)).other W4 (Or.inr (slot_ne (Or.inr (own_w hw 42 rfl)) (Or.inr (own_w hw 35 rfl)) (by decide) (t := (.array .int)) (t' := (.object "java/util/List")) (by decide) (by decide)))).other W5 (Or.inr (slot_ne (Or.inr (own_w hw 42 rfl)) (Or.inr (own_w hw 37 rfl)) (by decide) (t := (.array .int)) (t' := .int) (by decide) (by decide)))).other W6 (Or.inr (slot_ne (Or.inr (own_w hw 42 rfl)) (Or.inr (own_w hw 39 rfl)) (by decide) (t := (.array .int)) (t' := .int) (by decide) (by decide)))).ext E7) ((((((u7.ext E2).keep Kc3).wr W4).wr W5).wr W6).ext E7) (Or.inr ⟨(own_w hw 42 rfl), rfl, hnm⟩) (own_w hw 2 rfl) (ty := (.array .int)) (by decide) rfl rfl (g := (mkF m 31 #[.val (.ref a), .val (.int n), .val (.int (3 : Int32)), .val (.int (3 : Int32)), .unset] [(.ref b7), (.ref a)])) rfl rfl (hb hby d1_31)
  have Fw8 : Fld Z h8 a "com/example/kneiphof/kneiphof/Assignment" "workers" "[I" (.ref b7) := ((((((u11.ext E2).keep Kc3 (ninS (Nat.ne_of_lt (Nat.lt_of_lt_of_le u7.lt (Nat.le_of_eq g2.symm))) nin0)).other W4 (Or.inr (slot_ne (Or.inr (own_w hw 42 rfl)) (Or.inr (own_w hw 35 rfl)) (by decide) (t := (.array .int)) (t' := (.object "java/util/List")) (by decide) (by decide)))).other W5 (Or.inr (slot_ne (Or.inr (own_w hw 42 rfl)) (Or.inr (own_w hw 37 rfl)) (by decide) (t := (.array .int)) (t' := .int) (by decide) (by decide)))).other W6 (Or.inr (slot_ne (Or.inr (own_w hw 42 rfl)) (Or.inr (own_w hw 39 rfl)) (by decide) (t := (.array .int)) (t' := .int) (by decide) (by decide)))).ext E7).same W8
  refine own_go st8 ?_
  have K8 : Keep h0 h8 [a] := K7.wr W8 (Or.inl (List.mem_of_getElem? (i := 0) rfl))
  have O8 := O7.wr W8 u14
  have N8 := Fr.snoc X8 N6 u14
  refine own_go (A := T8.setTop (mkF m 36 #[.val (.ref a), .val (.int n), .val (.int (3 : Int32)), .val (.int (3 : Int32)), .unset] [(.ref a), (.ref a)])) (fun t_ k_ => ?_) ?_
  · show Steps p.tables e below (T8.setTop (mkF m 34 #[.val (.ref a), .val (.int n), .val (.int (3 : Int32)), .val (.int (3 : Int32)), .unset] [])) t_
    refine XS.aloadN X8.here hx rfl (hb hby d1_34) rfl rfl ?_
    refine XS.aloadN X8.here hx rfl (hb hby d1_35) rfl rfl ?_
    exact k_
  obtain ⟨T9, X9, e9, st9⟩ := getF X8 hx hZ hown (host := "") (Or.inl (own_w hw 41 rfl)) Via.refl e8 Fw8 (g := (mkF m 36 #[.val (.ref a), .val (.int n), .val (.int (3 : Int32)), .val (.int (3 : Int32)), .unset] [(.ref a), (.ref a)])) rfl rfl (hb hby d1_36)
  refine own_go st9 ?_
  obtain ⟨cl10, Ar10, q10, S10, M10, H10, G10⟩ := id (B7.other W8 (Ne.symm (Nat.ne_of_lt (Nat.lt_of_lt_of_le Fw6.lt (Nat.le_of_eq g7.symm)))))
  refine own_go (A := T9.setTop (mkF m 42 #[.val (.ref a), .val (.int n), .val (.int (3 : Int32)), .val (.int (3 : Int32)), .unset] [(.int ((n * (3 : Int32)) + (3 : Int32))), (.ref a)])) (fun t_ k_ => ?_) ?_
  · show Steps p.tables e below (T9.setTop (mkF m 39 #[.val (.ref a), .val (.int n), .val (.int (3 : Int32)), .val (.int (3 : Int32)), .unset] [(.ref b7), (.ref a)])) t_
    refine X9.arraylength hx (by rw [e9]; exact Ar10.1) (State.isArrayOf_alike hZ.alike Ar10.2.1) (g := (mkF m 39 #[.val (.ref a), .val (.int n), .val (.int (3 : Int32)), .val (.int (3 : Int32)), .unset] [(.ref b7), (.ref a)])) rfl rfl (hb hby d1_39) _ ?_
    rw [len_of S10 M10]
    refine XS.iloadN X9.here hx rfl (hb hby d1_40) rfl ?_
    refine XS.iadd X9.here hx rfl (hb hby d1_41) rfl ?_
    exact k_
  obtain ⟨T11, h11, k11, X11, e11, E11, A11, st11⟩ := newP X9 hx hZ (own_w hw 40 rfl) e9 (g := (mkF m 42 #[.val (.ref a), .val (.int n), .val (.int (3 : Int32)), .val (.int (3 : Int32)), .unset] [(.int ((n * (3 : Int32)) + (3 : Int32))), (.ref a)])) rfl (hb hby d1_42) rfl (own_n0 (by rw [own_ns3 hn]; omega)) (cap := 20) (by have h := own_ns3 hn; have q := own_tn (x := ((n * (3 : Int32)) + (3 : Int32))) (by omega); omega) (by decide) (by decide) (by decide)
  obtain ⟨b11, g11⟩ : ∃ z, z = h8.size := ⟨_, rfl⟩
  rw [← g11] at A11 st11
  refine own_go st11 ?_
  have K11 : Keep h0 h11 [a] := K8.ext E11
  have O11 := O8.ext E11
  obtain ⟨vs11, hvs11⟩ : ∃ z_ : List Value, z_ = List.replicate (((n * (3 : Int32)) + (3 : Int32))).toNatClampNeg (.int (0 : Int32)) := ⟨_, rfl⟩
  have B11 : Arv Z h11 b11 k11 .int ((n * (3 : Int32)) + (3 : Int32)) vs11 (.int (0 : Int32)) := hvs11 ▸ (Arv.new A11 (own_n0 (by rw [own_ns3 hn]; omega))).pad (pad_rep [] (.int (0 : Int32)) _)
  have ln11 : vs11.length = (((n * (3 : Int32)) + (3 : Int32))).toNatClampNeg := by rw [hvs11]; exact List.length_replicate
  obtain ⟨T12, h12, X12, e12, W12, st12⟩ := putF X11 hx hZ hown (host := "") (Or.inl (own_w hw 43 rfl)) Via.refl e11 ((((((((u12.ext E2).keep Kc3 (ninS (Nat.ne_of_lt (Nat.lt_of_lt_of_le u7.lt (Nat.le_of_eq g2.symm))) nin0)).other W4 (Or.inr (slot_ne (Or.inr (own_w hw 44 rfl)) (Or.inr (own_w hw 35 rfl)) (by decide) (t := (.array .int)) (t' := (.object "java/util/List")) (by decide) (by decide)))).other W5 (Or.inr (slot_ne (Or.inr (own_w hw 44 rfl)) (Or.inr (own_w hw 37 rfl)) (by decide) (t := (.array .int)) (t' := .int) (by decide) (by decide)))).other W6 (Or.inr (slot_ne (Or.inr (own_w hw 44 rfl)) (Or.inr (own_w hw 39 rfl)) (by decide) (t := (.array .int)) (t' := .int) (by decide) (by decide)))).ext E7).other W8 (Or.inr (slot_ne (Or.inr (own_w hw 44 rfl)) (Or.inr (own_w hw 42 rfl)) (by decide) (t := (.array .int)) (t' := (.array .int)) (by decide) (by decide)))).ext E11) ((((((((u7.ext E2).keep Kc3).wr W4).wr W5).wr W6).ext E7).wr W8).ext E11) (Or.inr ⟨(own_w hw 44 rfl), rfl, hnm⟩) (own_w hw 2 rfl) (ty := (.array .int)) (by decide) rfl rfl (g := (mkF m 44 #[.val (.ref a), .val (.int n), .val (.int (3 : Int32)), .val (.int (3 : Int32)), .unset] [(.ref b11), (.ref a)])) rfl rfl (hb hby d1_44)
  have Fw12 : Fld Z h12 a "com/example/kneiphof/kneiphof/Assignment" "slots" "[I" (.ref b11) := ((((((((u12.ext E2).keep Kc3 (ninS (Nat.ne_of_lt (Nat.lt_of_lt_of_le u7.lt (Nat.le_of_eq g2.symm))) nin0)).other W4 (Or.inr (slot_ne (Or.inr (own_w hw 44 rfl)) (Or.inr (own_w hw 35 rfl)) (by decide) (t := (.array .int)) (t' := (.object "java/util/List")) (by decide) (by decide)))).other W5 (Or.inr (slot_ne (Or.inr (own_w hw 44 rfl)) (Or.inr (own_w hw 37 rfl)) (by decide) (t := (.array .int)) (t' := .int) (by decide) (by decide)))).other W6 (Or.inr (slot_ne (Or.inr (own_w hw 44 rfl)) (Or.inr (own_w hw 39 rfl)) (by decide) (t := (.array .int)) (t' := .int) (by decide) (by decide)))).ext E7).other W8 (Or.inr (slot_ne (Or.inr (own_w hw 44 rfl)) (Or.inr (own_w hw 42 rfl)) (by decide) (t := (.array .int)) (t' := (.array .int)) (by decide) (by decide)))).ext E11).same W12
  refine own_go st12 ?_
  have K12 : Keep h0 h12 [a] := K11.wr W12 (Or.inl (List.mem_of_getElem? (i := 0) rfl))
  have O12 := O11.wr W12 u14
  have N12 := Fr.snoc X12 N8 u14
  refine own_go (A := T12.setTop (mkF m 48 #[.val (.ref a), .val (.int n), .val (.int (3 : Int32)), .val (.int (3 : Int32)), .unset] [(.ref a)])) (fun t_ k_ => ?_) ?_
  · show Steps p.tables e below (T12.setTop (mkF m 47 #[.val (.ref a), .val (.int n), .val (.int (3 : Int32)), .val (.int (3 : Int32)), .unset] [])) t_
    refine XS.aloadN X12.here hx rfl (hb hby d1_47) rfl rfl ?_
    exact k_
  obtain ⟨T13, X13, e13, st13⟩ := getF X12 hx hZ hown (host := "") (Or.inl (own_w hw 43 rfl)) Via.refl e12 Fw12 (g := (mkF m 48 #[.val (.ref a), .val (.int n), .val (.int (3 : Int32)), .val (.int (3 : Int32)), .unset] [(.ref a)])) rfl rfl (hb hby d1_48)
  refine own_go st13 ?_
  refine own_go (A := T13.setTop (mkF m 52 #[.val (.ref a), .val (.int n), .val (.int (3 : Int32)), .val (.int (3 : Int32)), .unset] [(.int (-1 : Int32)), (.ref b11)])) (fun t_ k_ => ?_) ?_
  · show Steps p.tables e below (T13.setTop (mkF m 51 #[.val (.ref a), .val (.int n), .val (.int (3 : Int32)), .val (.int (3 : Int32)), .unset] [(.ref b11)])) t_
    refine XS.iconst X13.here hx rfl (hb hby d1_51) ?_
    exact k_
  obtain ⟨_, _, ⟨T14, L14, k14, n14⟩, -, X14, ⟨Lc14, hQ14, l14, y14, z14⟩, st14⟩ := Jvm.LawKit.callS X13 hx (y := own_y0) hown (mvT hZ (own_w hw 45 rfl)) (mvT hZ (own_w hw 46 rfl)) (mvT hZ (own_w hw 47 rfl)) (mvT hZ (own_w hw 48 rfl)) (by decide) (backOf (W := 0) (rmFill l Z a0 hw [] b11 (-1 : Int32) k11 ((n * (3 : Int32)) + (3 : Int32)) vs11 h12 n0 (Nat.le_trans Z0 K12.1) (B11.other W12 (Ne.symm (Nat.ne_of_lt (Nat.lt_of_lt_of_le Fw8.lt (Nat.le_of_eq g11.symm))))) (Nat.le_trans Z0 (Nat.le_trans K8.1 (Nat.le_of_eq g11.symm))) ln11 (by rw [own_ns3 hn]; omega)) hZ (own_w hw 48 rfl) (own_w hw 47 rfl) (by decide) (by decide)) (g := (mkF m 52 #[.val (.ref a), .val (.int n), .val (.int (3 : Int32)), .val (.int (3 : Int32)), .unset] [(.int (-1 : Int32)), (.ref b11)])) rfl (by rw [hml]; rfl) (argsL := [(.ref b11), (.int (-1 : Int32))]) (rest := []) (lenOf pd_7 rfl) rfl (by show 2 * 0 + _ ≤ _; exact Nat.le_of_eq rfl) (hb hby d1_52) (fun _ _ => ⟨rfl, e13, (by decide : 3 + 0 ≤ _), (by decide : 39 + 0 ≤ _)⟩)
  dsimp only [Pt.U, Pt.locs, Pt.cells, Pt.slots] at X14 l14 y14 z14 st14 hQ14
  subst l14 y14 z14
  obtain ⟨vr_14, rfl, N14q, Kc14, r14_0, w14_0⟩ := hQ14
  have N14 := Fr.app N12 N14q
  refine own_go st14 ?_
  have K14 : Keep h0 T14.heap [a] := K12.trans Kc14 (allS (P := fun x => x ∈ _ ∨ _ ≤ x) (Or.inr (Nat.le_trans K8.1 (Nat.le_of_eq g11.symm))) all0)
  have O14 := O12.keep Kc14 (allS (P := fun x => n0 ≤ x) (Nat.le_trans Z0 (Nat.le_trans K8.1 (Nat.le_of_eq g11.symm))) all0)
  refine own_go (A := T14.setTop (mkF m 58 #[.val (.ref a), .val (.int n), .val (.int (3 : Int32)), .val (.int (3 : Int32)), .val (.int (0 : Int32))] [])) (fun t_ k_ => ?_) ?_
  · show Steps p.tables e below (T14.setTop (mkF m 55 #[.val (.ref a), .val (.int n), .val (.int (3 : Int32)), .val (.int (3 : Int32)), .unset] [])) t_
    refine XS.iconst X14.here hx rfl (hb hby d1_55) ?_
    refine XS.istore X14.here hx rfl (hb hby d1_56) rfl (l' := #[.val (.ref a), .val (.int n), .val (.int (3 : Int32)), .val (.int (3 : Int32)), .val (.int (0 : Int32))]) rfl ?_
    exact k_
  exact own_ini3 l Z a0 hw a n dc kd ca bxc el b2 b7 b11 k7 k11 h0 n0 Z0 hx hZ hby hml hown Bd.returns (BodyLoose.notSynchronized Bd) hh (((n * (3 : Int32))).toInt).toNat T14 T14.heap _ (0 : Int32) vs7 vr_14 X14 rfl N14 K14 O14 u1 u2 u3 u4 u6 ((((((((((u7.ext E2).keep Kc3).wr W4).wr W5).wr W6).ext E7).wr W8).ext E11).wr W12).keep Kc14) (((((((Fw4.other W5 (Or.inr (slot_ne (Or.inr (own_w hw 35 rfl)) (Or.inr (own_w hw 37 rfl)) (by decide) (t := (.object "java/util/List")) (t' := .int) (by decide) (by decide)))).other W6 (Or.inr (slot_ne (Or.inr (own_w hw 35 rfl)) (Or.inr (own_w hw 39 rfl)) (by decide) (t := (.object "java/util/List")) (t' := .int) (by decide) (by decide)))).ext E7).other W8 (Or.inr (slot_ne (Or.inr (own_w hw 35 rfl)) (Or.inr (own_w hw 42 rfl)) (by decide) (t := (.object "java/util/List")) (t' := (.array .int)) (by decide) (by decide)))).ext E11).other W12 (Or.inr (slot_ne (Or.inr (own_w hw 35 rfl)) (Or.inr (own_w hw 44 rfl)) (by decide) (t := (.object "java/util/List")) (t' := (.array .int)) (by decide) (by decide)))).keep Kc14 (ninS (Nat.ne_of_lt (Nat.lt_of_lt_of_le Fw8.lt (Nat.le_of_eq g11.symm))) nin0)) ((((((Fw5.other W6 (Or.inr (slot_ne (Or.inr (own_w hw 37 rfl)) (Or.inr (own_w hw 39 rfl)) (by decide) (t := .int) (t' := .int) (by decide) (by decide)))).ext E7).other W8 (Or.inr (slot_ne (Or.inr (own_w hw 37 rfl)) (Or.inr (own_w hw 42 rfl)) (by decide) (t := .int) (t' := (.array .int)) (by decide) (by decide)))).ext E11).other W12 (Or.inr (slot_ne (Or.inr (own_w hw 37 rfl)) (Or.inr (own_w hw 44 rfl)) (by decide) (t := .int) (t' := (.array .int)) (by decide) (by decide)))).keep Kc14 (ninS (Nat.ne_of_lt (Nat.lt_of_lt_of_le Fw8.lt (Nat.le_of_eq g11.symm))) nin0)) (((((Fw6.ext E7).other W8 (Or.inr (slot_ne (Or.inr (own_w hw 39 rfl)) (Or.inr (own_w hw 42 rfl)) (by decide) (t := .int) (t' := (.array .int)) (by decide) (by decide)))).ext E11).other W12 (Or.inr (slot_ne (Or.inr (own_w hw 39 rfl)) (Or.inr (own_w hw 44 rfl)) (by decide) (t := .int) (t' := (.array .int)) (by decide) (by decide)))).keep Kc14 (ninS (Nat.ne_of_lt (Nat.lt_of_lt_of_le Fw8.lt (Nat.le_of_eq g11.symm))) nin0)) (((Fw8.ext E11).other W12 (Or.inr (slot_ne (Or.inr (own_w hw 42 rfl)) (Or.inr (own_w hw 44 rfl)) (by decide) (t := (.array .int)) (t' := (.array .int)) (by decide) (by decide)))).keep Kc14 (ninS (Nat.ne_of_lt (Nat.lt_of_lt_of_le Fw8.lt (Nat.le_of_eq g11.symm))) nin0)) (Fw12.keep Kc14 (ninS (Nat.ne_of_lt (Nat.lt_of_lt_of_le Fw8.lt (Nat.le_of_eq g11.symm))) nin0)) ((((((((((u13.ext E2).keep Kc3 (ninS (Nat.ne_of_lt (Nat.lt_of_lt_of_le u7.lt (Nat.le_of_eq g2.symm))) nin0)).other W4 (Or.inr (slot_ne (Or.inl (own_w hw 112 rfl)) (Or.inr (own_w hw 35 rfl)) (by decide) (t := (.object "com/example/kneiphof/kneiphof/Partitioning")) (t' := (.object "java/util/List")) (by decide) (by decide)))).other W5 (Or.inr (slot_ne (Or.inl (own_w hw 112 rfl)) (Or.inr (own_w hw 37 rfl)) (by decide) (t := (.object "com/example/kneiphof/kneiphof/Partitioning")) (t' := .int) (by decide) (by decide)))).other W6 (Or.inr (slot_ne (Or.inl (own_w hw 112 rfl)) (Or.inr (own_w hw 39 rfl)) (by decide) (t := (.object "com/example/kneiphof/kneiphof/Partitioning")) (t' := .int) (by decide) (by decide)))).ext E7).other W8 (Or.inr (slot_ne (Or.inl (own_w hw 112 rfl)) (Or.inr (own_w hw 42 rfl)) (by decide) (t := (.object "com/example/kneiphof/kneiphof/Partitioning")) (t' := (.array .int)) (by decide) (by decide)))).ext E11).other W12 (Or.inr (slot_ne (Or.inl (own_w hw 112 rfl)) (Or.inr (own_w hw 44 rfl)) (by decide) (t := (.object "com/example/kneiphof/kneiphof/Partitioning")) (t' := (.array .int)) (by decide) (by decide)))).keep Kc14 (ninS (Nat.ne_of_lt (Nat.lt_of_lt_of_le Fw8.lt (Nat.le_of_eq g11.symm))) nin0)) (((((((((A2.keep Kc3).wr W4).wr W5).wr W6).ext E7).wr W8).ext E11).wr W12).keep Kc14) ((((((((r3_0.other W4 (Or.inl (Ne.symm (Nat.ne_of_lt (Nat.lt_of_lt_of_le u7.lt (Nat.le_of_eq g2.symm)))))).other W5 (Or.inl (Ne.symm (Nat.ne_of_lt (Nat.lt_of_lt_of_le u7.lt (Nat.le_of_eq g2.symm)))))).other W6 (Or.inl (Ne.symm (Nat.ne_of_lt (Nat.lt_of_lt_of_le u7.lt (Nat.le_of_eq g2.symm)))))).ext E7).other W8 (Or.inl (Ne.symm (Nat.ne_of_lt (Nat.lt_of_lt_of_le u7.lt (Nat.le_of_eq g2.symm)))))).ext E11).other W12 (Or.inl (Ne.symm (Nat.ne_of_lt (Nat.lt_of_lt_of_le u7.lt (Nat.le_of_eq g2.symm)))))).keep Kc14 (ninS (Nat.ne_of_lt (Nat.lt_of_lt_of_le (Nat.lt_of_lt_of_le (Nat.lt_of_lt_of_le (Nat.lt_of_lt_of_le (Nat.lt_of_lt_of_le (Nat.lt_of_lt_of_le r3_0.lt (Keep.of_wr W4).1) (Keep.of_wr W5).1) (Keep.of_wr W6).1) E7.1) (Keep.of_wr W8).1) (Nat.le_of_eq g11.symm))) nin0)) ((((((((r3_1.other W4 (Or.inl (Ne.symm (Nat.ne_of_lt (Nat.lt_of_lt_of_le u7.lt (Nat.le_of_eq g2.symm)))))).other W5 (Or.inl (Ne.symm (Nat.ne_of_lt (Nat.lt_of_lt_of_le u7.lt (Nat.le_of_eq g2.symm)))))).other W6 (Or.inl (Ne.symm (Nat.ne_of_lt (Nat.lt_of_lt_of_le u7.lt (Nat.le_of_eq g2.symm)))))).ext E7).other W8 (Or.inl (Ne.symm (Nat.ne_of_lt (Nat.lt_of_lt_of_le u7.lt (Nat.le_of_eq g2.symm)))))).ext E11).other W12 (Or.inl (Ne.symm (Nat.ne_of_lt (Nat.lt_of_lt_of_le u7.lt (Nat.le_of_eq g2.symm)))))).keep Kc14 (ninS (Nat.ne_of_lt (Nat.lt_of_lt_of_le (Nat.lt_of_lt_of_le (Nat.lt_of_lt_of_le (Nat.lt_of_lt_of_le (Nat.lt_of_lt_of_le (Nat.lt_of_lt_of_le r3_0.lt (Keep.of_wr W4).1) (Keep.of_wr W5).1) (Keep.of_wr W6).1) E7.1) (Keep.of_wr W8).1) (Nat.le_of_eq g11.symm))) nin0)) ((((((((r3_2.other W4 (Or.inl (Ne.symm (Nat.ne_of_lt (Nat.lt_of_lt_of_le u7.lt (Nat.le_of_eq g2.symm)))))).other W5 (Or.inl (Ne.symm (Nat.ne_of_lt (Nat.lt_of_lt_of_le u7.lt (Nat.le_of_eq g2.symm)))))).other W6 (Or.inl (Ne.symm (Nat.ne_of_lt (Nat.lt_of_lt_of_le u7.lt (Nat.le_of_eq g2.symm)))))).ext E7).other W8 (Or.inl (Ne.symm (Nat.ne_of_lt (Nat.lt_of_lt_of_le u7.lt (Nat.le_of_eq g2.symm)))))).ext E11).other W12 (Or.inl (Ne.symm (Nat.ne_of_lt (Nat.lt_of_lt_of_le u7.lt (Nat.le_of_eq g2.symm)))))).keep Kc14 (ninS (Nat.ne_of_lt (Nat.lt_of_lt_of_le (Nat.lt_of_lt_of_le (Nat.lt_of_lt_of_le (Nat.lt_of_lt_of_le (Nat.lt_of_lt_of_le (Nat.lt_of_lt_of_le r3_0.lt (Keep.of_wr W4).1) (Keep.of_wr W5).1) (Keep.of_wr W6).1) E7.1) (Keep.of_wr W8).1) (Nat.le_of_eq g11.symm))) nin0)) ((((B7.other W8 (Ne.symm (Nat.ne_of_lt (Nat.lt_of_lt_of_le Fw6.lt (Nat.le_of_eq g7.symm))))).ext E11).other W12 (Ne.symm (Nat.ne_of_lt (Nat.lt_of_lt_of_le Fw6.lt (Nat.le_of_eq g7.symm))))).keep Kc14 (ninS (Nat.ne_of_lt (Nat.lt_of_lt_of_le (Nat.lt_of_lt_of_le B7.lt (Keep.of_wr W8).1) (Nat.le_of_eq g11.symm))) nin0)) r14_0 u14 (Nat.le_trans Z0 (Nat.le_trans K6.1 (Nat.le_of_eq g7.symm))) (Nat.le_trans K6.1 (Nat.le_of_eq g7.symm)) (Nat.le_trans Z0 (Nat.le_trans K8.1 (Nat.le_of_eq g11.symm))) (Nat.le_trans K8.1 (Nat.le_of_eq g11.symm)) (Nat.le_trans Z0 (Nat.le_of_eq g2.symm)) (Nat.le_of_eq g2.symm) (Nat.ne_of_lt (Nat.lt_of_lt_of_le (Nat.lt_of_lt_of_le B7.lt (Keep.of_wr W8).1) (Nat.le_of_eq g11.symm))) (Nat.ne_of_lt (Nat.lt_of_lt_of_le Fw6.lt (Nat.le_of_eq g7.symm))) (Nat.ne_of_lt (Nat.lt_of_lt_of_le Fw8.lt (Nat.le_of_eq g11.symm))) (Nat.ne_of_lt (Nat.lt_of_lt_of_le (Nat.lt_of_lt_of_le (Nat.lt_of_lt_of_le (Nat.lt_of_lt_of_le r3_0.lt (Keep.of_wr W4).1) (Keep.of_wr W5).1) (Keep.of_wr W6).1) (Nat.le_of_eq g7.symm))) (Nat.ne_of_lt (Nat.lt_of_lt_of_le (Nat.lt_of_lt_of_le (Nat.lt_of_lt_of_le (Nat.lt_of_lt_of_le (Nat.lt_of_lt_of_le (Nat.lt_of_lt_of_le r3_0.lt (Keep.of_wr W4).1) (Keep.of_wr W5).1) (Keep.of_wr W6).1) E7.1) (Keep.of_wr W8).1) (Nat.le_of_eq g11.symm))) (Nat.ne_of_lt (Nat.lt_of_lt_of_le u7.lt (Nat.le_of_eq g2.symm))) hbx hn fc7 (by show (0 : Int) + _ = _; have := own_nr3 hn; omega) (Int.le_refl 0) ln7 w14_0 (fun j hj => absurd hj (by show ¬ ((j : Int) < 0); omega))
def Q_rmIni4 (Z : State) (a : Addr) (n : Int32) (dc : Addr) (kd : ClassId) (ca : Addr) (bxc : Cell) (el : Addr) (h0 : Heap) (n0 : Nat) (v_ : Option Value) (h_ : Heap) (L_ : List Loc) : Prop := ∃ wk : Addr, ∃ kw : ClassId, ∃ sl : Addr, ∃ ks : ClassId, ∃ al : Addr, ∃ ed : Addr, ∃ kk : ClassId, ∃ mc : Int32, ∃ vw : List Value, ∃ vu : List Value, ∃ x0_ : Addr, ∃ x1_ : Addr, ∃ x2_ : Addr, ∃ x3_ : Addr, v_ = none ∧ Fr n0 L_ ∧ Keep h0 h_ [a] ∧ h0.size ≤ wk ∧ h0.size ≤ sl ∧ h0.size ≤ al ∧ h0.size ≤ ed ∧ Fld Z h_ a "com/example/kneiphof/kneiphof/Assignment" "workers" "[I" (.ref wk) ∧ Fld Z h_ a "com/example/kneiphof/kneiphof/Assignment" "slots" "[I" (.ref sl) ∧ Fld Z h_ a "com/example/kneiphof/kneiphof/Assignment" "spares" "Ljava/util/List;" (.ref al) ∧ Fld Z h_ a "com/example/kneiphof/kneiphof/Assignment" "replicas" "I" (.int (4 : Int32)) ∧ Arv Z h_ wk kw .int (n * (4 : Int32)) vw (.int (0 : Int32)) ∧ Arv Z h_ sl ks .int ((n * (4 : Int32)) + (4 : Int32)) vu (.int (0 : Int32)) ∧ Exa Z h_ al "java/util/ArrayList" ∧ Fld Z h_ al "java/util/ArrayList" "elementData" "[Ljava/lang/Object;" (.ref ed) ∧ Fld Z h_ al "java/util/ArrayList" "size" "I" (.int (4 : Int32)) ∧ Fld Z h_ al "java/util/AbstractList" "modCount" "I" (.int mc) ∧ Arv Z h_ ed kk (.object "java/lang/Object") (10 : Int32) [(.ref x0_), (.ref x1_), (.ref x2_), (.ref x3_), .null, .null, .null, .null, .null, .null] .null ∧ Ovr Z kk "java/lang/Object" ∧ wk ≠ sl ∧ wk ≠ al ∧ wk ≠ ed ∧ sl ≠ al ∧ sl ≠ ed ∧ al ≠ ed ∧ Exa Z Z.heap x0_ "java/lang/Integer" ∧ Fld Z Z.heap x0_ "java/lang/Integer" "value" "I" (.int (n * (4 : Int32))) ∧ Exa Z Z.heap x1_ "java/lang/Integer" ∧ Fld Z Z.heap x1_ "java/lang/Integer" "value" "I" (.int ((n * (4 : Int32)) + (1 : Int32))) ∧ Exa Z Z.heap x2_ "java/lang/Integer" ∧ Fld Z Z.heap x2_ "java/lang/Integer" "value" "I" (.int ((n * (4 : Int32)) + (2 : Int32))) ∧ Exa Z Z.heap x3_ "java/lang/Integer" ∧ Fld Z Z.heap x3_ "java/lang/Integer" "value" "I" (.int ((n * (4 : Int32)) + (3 : Int32))) ∧ (vw.length = ((n * (4 : Int32))).toNatClampNeg) ∧ (vu.length = (((n * (4 : Int32)) + (4 : Int32))).toNatClampNeg) ∧ (own_pre vw ((n * (4 : Int32))).toInt) ∧ (Z.vm.findClass "[I" = some kw)
set_option maxRecDepth 65536 in
set_option maxHeartbeats 40000000 in
theorem own_ini4 (l : Launch) (Z : State) (a0 : Array Value) (hw : ∀ d ∈ tables_1, d.before a0 Z = true) (a : Addr) (n : Int32) (dc : Addr) (kd : ClassId) (ca : Addr) (bxc : Cell) (el : Addr) (b2 : Addr) (b7 : Addr) (b11 : Addr) (k7 : ClassId) (k11 : ClassId) (h0 : Heap) (n0 : Nat) (Z0 : n0 ≤ h0.size) {p : Program} {e : Env} {s : State} {m : MethodId} {below : List Frame} {meth : Method} {c : Code} (hx : p.tables.exec = Jvm.exec) (hZ : Z.Warmed39 s.vm) (hby : c.code = prog_5_method_1_code) (hml : c.maxLocals = 5) (hown : s.vm.findClass "com/example/kneiphof/kneiphof/Assignment" = some m.cls) (hret : meth.sig.returnType = none) (hlk : meth.locks = false) (hh : s.heap = h0) (k_ : Nat) :
    ∀ (Tc : State) (Hc : Heap) (locsc : List Loc) (i : Int32) (vw : List Value) (vu : List Value) (Xc : Stand p l e ({ frames := 5, cells := 5, slots := 51, locals := 69 } : Room) s m #[(.ref a), (.int n), (.int (4 : Int32)), (.int (4 : Int32))] below meth c Tc locsc 3 39) (ec : Tc.heap = Hc) (Nc : Fr n0 locsc) (Kc0 : Keep h0 Hc [a]) (Oc : Old Z n0 Hc) (zc0 : Sta Z Z.heap "java/util/ArrayList" "DEFAULTCAPACITY_EMPTY_ELEMENTDATA" "[Ljava/lang/Object;" (.ref dc)) (zc1 : Arv Z Z.heap dc kd (.object "java/lang/Object") (0 : Int32) [] .null) (zc2 : Sta Z Z.heap "java/lang/Integer$IntegerCache" "high" "I" (.int (127 : Int32))) (zc3 : Sta Z Z.heap "java/lang/Integer$IntegerCache" "cache" "[Ljava/lang/Integer;" (.ref ca)) (zc4 : Sta Z Z.heap "java/util/ImmutableCollections" "EMPTY_LIST" "Ljava/util/ImmutableCollections$ListN;" (.ref el)) (zc5 : Exa Z Hc a "com/example/kneiphof/kneiphof/Assignment") (zc6 : Fld Z Hc a "com/example/kneiphof/kneiphof/Assignment" "spares" "Ljava/util/List;" (.ref b2)) (zc7 : Fld Z Hc a "com/example/kneiphof/kneiphof/Assignment" "partitions" "I" (.int n)) (zc8 : Fld Z Hc a "com/example/kneiphof/kneiphof/Assignment" "replicas" "I" (.int (4 : Int32))) (zc9 : Fld Z Hc a "com/example/kneiphof/kneiphof/Assignment" "workers" "[I" (.ref b7)) (zc10 : Fld Z Hc a "com/example/kneiphof/kneiphof/Assignment" "slots" "[I" (.ref b11)) (zc11 : Fld Z Hc a "com/example/kneiphof/kneiphof/Assignment" "partitioning" "Lcom/example/kneiphof/kneiphof/Partitioning;" .null) (zc12 : Exa Z Hc b2 "java/util/ArrayList") (zc13 : Fld Z Hc b2 "java/util/ArrayList" "elementData" "[Ljava/lang/Object;" (.ref dc)) (zc14 : Fld Z Hc b2 "java/util/ArrayList" "size" "I" (.int (0 : Int32))) (zc15 : Fld Z Hc b2 "java/util/AbstractList" "modCount" "I" (.int (0 : Int32))) (zc16 : Arv Z Hc b7 k7 .int (n * (4 : Int32)) vw (.int (0 : Int32))) (zc17 : Arv Z Hc b11 k11 .int ((n * (4 : Int32)) + (4 : Int32)) vu (.int (0 : Int32))) (gc18 : n0 ≤ a) (gc19 : n0 ≤ b7) (sc20 : h0.size ≤ b7) (gc21 : n0 ≤ b11) (sc22 : h0.size ≤ b11) (gc23 : n0 ≤ b2) (sc24 : h0.size ≤ b2) (nc25 : b7 ≠ b11) (nc26 : a ≠ b7) (nc27 : a ≠ b11) (nc28 : b2 ≠ b7) (nc29 : b2 ≠ b11) (nc30 : a ≠ b2) (hbx : Bxs Z ca bxc "java/lang/Integer" "I" (256 : Int32) own_bval) (hn : 1 ≤ n.toInt ∧ n.toInt ≤ 4) (hfc : Z.vm.findClass "[I" = some k7) (hms : i.toInt + (k_ : Int) = ((n * (4 : Int32))).toInt) (hi0 : 0 ≤ i.toInt) (hvw : vw.length = ((n * (4 : Int32))).toNatClampNeg) (hvu : vu.length = (((n * (4 : Int32)) + (4 : Int32))).toNatClampNeg) (hpr : own_pre vw i.toInt),
    ∃ U_ o_, Steps p.tables e below (Tc.setTop (mkF m 58 #[.val (.ref a), .val (.int n), .val (.int (4 : Int32)), .val (.int (4 : Int32)), .val (.int i)] [])) U_ ∧ U_.status = .running ∧ Ended U_ below o_ ∧ (∃ v_ L_, o_ = .returned v_ ∧ Q_rmIni4 Z a n dc kd ca bxc el h0 n0 v_ U_.heap L_ ∧ FrameEnd s o_ U_ L_ ({ frames := 5, cells := 5, slots := 51, locals := 69 } : Room).cells ({ frames := 5, cells := 5, slots := 51, locals := 69 } : Room).slots) := by
  induction k_ with
  | zero =>
    intro Tc Hc locsc i vw vu Xc ec Nc Kc0 Oc zc0 zc1 zc2 zc3 zc4 zc5 zc6 zc7 zc8 zc9 zc10 zc11 zc12 zc13 zc14 zc15 zc16 zc17 gc18 gc19 sc20 gc21 sc22 gc23 sc24 nc25 nc26 nc27 nc28 nc29 nc30 hbx hn hfc hms hi0 hvw hvu hpr
    have hge : ¬ (i < (n * (4 : Int32))) := by rw [Int32.lt_iff_toInt_lt]; omega
    refine own_go (A := Tc.setTop (mkF m 61 #[.val (.ref a), .val (.int n), .val (.int (4 : Int32)), .val (.int (4 : Int32)), .val (.int i)] [(.ref a), (.int i)])) (fun t_ k_ => ?_) ?_
    · show Steps p.tables e below (Tc.setTop (mkF m 58 #[.val (.ref a), .val (.int n), .val (.int (4 : Int32)), .val (.int (4 : Int32)), .val (.int i)] [])) t_
      refine XS.iload Xc.here hx rfl (hb hby d1_58) rfl ?_
      refine XS.aloadN Xc.here hx rfl (hb hby d1_60) rfl rfl ?_
      exact k_
    obtain ⟨T15, X15, e15, st15⟩ := getF Xc hx hZ hown (host := "") (Or.inl (own_w hw 41 rfl)) Via.refl ec zc9 (g := (mkF m 61 #[.val (.ref a), .val (.int n), .val (.int (4 : Int32)), .val (.int (4 : Int32)), .val (.int i)] [(.ref a), (.int i)])) rfl rfl (hb hby d1_61)
    refine own_go st15 ?_
    obtain ⟨cl16, Ar16, q16, S16, M16, H16, G16⟩ := id zc16
    refine own_go (A := T15.setTop (mkF m 102 #[.val (.ref a), .val (.int n), .val (.int (4 : Int32)), .val (.int (4 : Int32)), .val (.int (0 : Int32))] [(.ref a)])) (fun t_ k_ => ?_) ?_
    · show Steps p.tables e below (T15.setTop (mkF m 64 #[.val (.ref a), .val (.int n), .val (.int (4 : Int32)), .val (.int (4 : Int32)), .val (.int i)] [(.ref b7), (.int i)])) t_
      refine X15.arraylength hx (by rw [e15]; exact Ar16.1) (State.isArrayOf_alike hZ.alike Ar16.2.1) (g := (mkF m 64 #[.val (.ref a), .val (.int n), .val (.int (4 : Int32)), .val (.int (4 : Int32)), .val (.int i)] [(.ref b7), (.int i)])) rfl rfl (hb hby d1_64) _ ?_
      rw [len_of S16 M16]
      refine XS.icmpYes X15.here hx rfl (pc0 := 65) (pc' := 92) rfl (hb hby d1_65) rfl (flt hge).2.1 (by decide) (by decide) ?_
      refine XS.iconst X15.here hx rfl (hb hby d1_92) ?_
      refine XS.istore X15.here hx rfl (hb hby d1_93) rfl (l' := #[.val (.ref a), .val (.int n), .val (.int (4 : Int32)), .val (.int (4 : Int32)), .val (.int (0 : Int32))]) rfl ?_
      show Steps p.tables e below (T15.setTop (mkF m 95 #[.val (.ref a), .val (.int n), .val (.int (4 : Int32)), .val (.int (4 : Int32)), .val (.int (0 : Int32))] [])) t_
      refine XS.iload X15.here hx rfl (hb hby d1_95) rfl ?_
      refine XS.iloadN X15.here hx rfl (hb hby d1_97) rfl ?_
      refine XS.icmpNo X15.here hx rfl (hb hby d1_98) rfl (tlt (by decide : (0 : Int32) < (4 : Int32))).2.1 ?_
      refine XS.aloadN X15.here hx rfl (hb hby d1_101) rfl rfl ?_
      exact k_
    obtain ⟨T17, X17, e17, st17⟩ := getF X15 hx hZ hown (host := "") (Or.inl (own_w hw 34 rfl)) Via.refl e15 zc6 (g := (mkF m 102 #[.val (.ref a), .val (.int n), .val (.int (4 : Int32)), .val (.int (4 : Int32)), .val (.int (0 : Int32))] [(.ref a)])) rfl rfl (hb hby d1_102)
    refine own_go st17 ?_
    refine own_go (A := T17.setTop (mkF m 106 #[.val (.ref a), .val (.int n), .val (.int (4 : Int32)), .val (.int (4 : Int32)), .val (.int (0 : Int32))] [(.ref a), (.ref b2)])) (fun t_ k_ => ?_) ?_
    · show Steps p.tables e below (T17.setTop (mkF m 105 #[.val (.ref a), .val (.int n), .val (.int (4 : Int32)), .val (.int (4 : Int32)), .val (.int (0 : Int32))] [(.ref b2)])) t_
      refine XS.aloadN X17.here hx rfl (hb hby d1_105) rfl rfl ?_
      exact k_
    obtain ⟨T18, X18, e18, st18⟩ := getF X17 hx hZ hown (host := "") (Or.inl (own_w hw 41 rfl)) Via.refl e17 zc9 (g := (mkF m 106 #[.val (.ref a), .val (.int n), .val (.int (4 : Int32)), .val (.int (4 : Int32)), .val (.int (0 : Int32))] [(.ref a), (.ref b2)])) rfl rfl (hb hby d1_106)
    refine own_go st18 ?_
    obtain ⟨cl19, Ar19, q19, S19, M19, H19, G19⟩ := id zc16
    refine own_go (A := T18.setTop (mkF m 113 #[.val (.ref a), .val (.int n), .val (.int (4 : Int32)), .val (.int (4 : Int32)), .val (.int (0 : Int32))] [(.int ((n * (4 : Int32)) + (0 : Int32))), (.ref b2)])) (fun t_ k_ => ?_) ?_
    · show Steps p.tables e below (T18.setTop (mkF m 109 #[.val (.ref a), .val (.int n), .val (.int (4 : Int32)), .val (.int (4 : Int32)), .val (.int (0 : Int32))] [(.ref b7), (.ref b2)])) t_
      refine X18.arraylength hx (by rw [e18]; exact Ar19.1) (State.isArrayOf_alike hZ.alike Ar19.2.1) (g := (mkF m 109 #[.val (.ref a), .val (.int n), .val (.int (4 : Int32)), .val (.int (4 : Int32)), .val (.int (0 : Int32))] [(.ref b7), (.ref b2)])) rfl rfl (hb hby d1_109) _ ?_
      rw [len_of S19 M19]
      refine XS.iload X18.here hx rfl (hb hby d1_110) rfl ?_
      refine XS.iadd X18.here hx rfl (hb hby d1_112) rfl ?_
      exact k_
    obtain ⟨_, _, ⟨T20, L20, k20, n20⟩, -, X20, ⟨Lc20, hQ20, l20, y20, z20⟩, st20⟩ := Jvm.LawKit.callS X18 hx (y := own_y9) hown (mvT hZ (own_w hw 49 rfl)) (mvT hZ (own_w hw 50 rfl)) (mvT hZ (own_w hw 51 rfl)) (mvT hZ (own_w hw 52 rfl)) (by decide) (backOf (W := 1) (rmVO l Z a0 hw [] ((n * (4 : Int32)) + (0 : Int32)) ca bxc Hc n0 (Nat.le_trans Z0 Kc0.1) Oc zc2 zc3 hbx (own_c1 (by have h := own_vi4_0 hn; omega)) (own_c2 (by have h := own_vi4_0 hn; omega))) hZ (own_w hw 52 rfl) (own_w hw 51 rfl) (by decide) (by decide)) (g := (mkF m 113 #[.val (.ref a), .val (.int n), .val (.int (4 : Int32)), .val (.int (4 : Int32)), .val (.int (0 : Int32))] [(.int ((n * (4 : Int32)) + (0 : Int32))), (.ref b2)])) rfl (by rw [hml]; rfl) (argsL := [(.int ((n * (4 : Int32)) + (0 : Int32)))]) (rest := [(.ref b2)]) (lenOf pd_8 rfl) rfl (by show 2 * 0 + _ ≤ _; exact Nat.le_of_eq rfl) (hb hby d1_113) (fun _ _ => ⟨rfl, e18, (by decide : 3 + 0 ≤ _), (by decide : 39 + 0 ≤ _)⟩)
    dsimp only [Pt.U, Pt.locs, Pt.cells, Pt.slots] at X20 l20 y20 z20 st20 hQ20
    subst l20 y20 z20
    obtain ⟨r_20, rfl, N20q, Kc20, r20_0, r20_1⟩ := hQ20
    have N20 := Fr.app Nc N20q
    refine own_go st20 ?_
    have K20 : Keep h0 T20.heap [a] := Kc0.trans Kc20 all0
    have O20 := Oc.keep Kc20 all0
    obtain ⟨cq21, kq21, q21a, q21b, q21c⟩ := isOf hZ rfl (zc12.keep Kc20)
    obtain ⟨_, _, ⟨T21, L21, k21, n21⟩, -, X21, ⟨Lc21, hQ21, l21, y21, z21⟩, st21⟩ := X20.interfaceBack hx (xi := own_y13) (y := own_y8) hown (mvT hZ (own_w hw 56 rfl)) (mvT hZ (own_w hw 57 rfl)) (mvT hZ (own_w hw 58 rfl)) (mvT hZ (own_w hw 59 rfl)) (mvT hZ (own_w hw 60 rfl)) (mvT hZ (own_w hw 61 rfl)) (mvT hZ (own_w hw 62 rfl)) (mvT hZ (own_w hw 63 rfl)) (by decide) (backOf (W := 0) (rmAdd0 l Z a0 hw [] b2 r_20 dc kd (0 : Int32) T20.heap n0 (Nat.le_trans Z0 K20.1) O20 zc0 (zc12.keep Kc20) (zc13.keep Kc20 nin0) (zc14.keep Kc20 nin0) (zc15.keep Kc20 nin0) zc1 gc23 (r20_0.ext O20.2)) hZ (own_w hw 64 rfl) (own_w hw 12 rfl) (by decide) (by decide)) q21a q21b q21c (g := (mkF m 116 #[.val (.ref a), .val (.int n), .val (.int (4 : Int32)), .val (.int (4 : Int32)), .val (.int (0 : Int32))] [(.ref r_20), (.ref b2)])) rfl (by rw [hml]; rfl) (Steps.refl _) (argsL := [(.ref r_20)]) (rest := []) (lenOf pd_9 rfl) rfl (by show 2 * 0 + _ ≤ _; exact Nat.le_of_eq rfl) (hb hby d1_116) (fun _ _ => ⟨rfl, rfl, (by decide : 3 + 1 ≤ _), (by decide : 39 + 10 ≤ _)⟩)
    dsimp only [Pt.U, Pt.locs, Pt.cells, Pt.slots] at X21 l21 y21 z21 st21 hQ21
    subst l21 y21 z21
    obtain ⟨ed_21, k_21, rfl, N21q, Kc21, r21_0, r21_1, r21_2, r21_3, r21_4, r21_5⟩ := hQ21
    have N21 := Fr.app N20 N21q
    refine own_via st21 ?_
    have K21 : Keep h0 T21.heap [a] := K20.trans Kc21 (allS (P := fun x => x ∈ _ ∨ _ ≤ x) (Or.inr sc24) all0)
    have O21 := O20.keep Kc21 (allS (P := fun x => n0 ≤ x) gc23 all0)
    refine own_go (A := T21.setTop (mkF m 102 #[.val (.ref a), .val (.int n), .val (.int (4 : Int32)), .val (.int (4 : Int32)), .val (.int (1 : Int32))] [(.ref a)])) (fun t_ k_ => ?_) ?_
    · show Steps p.tables e below (T21.setTop (mkF m 121 #[.val (.ref a), .val (.int n), .val (.int (4 : Int32)), .val (.int (4 : Int32)), .val (.int (0 : Int32))] [(.int (1 : Int32))])) t_
      refine XS.pop X21.here hx rfl (hb hby d1_121) rfl rfl ?_
      refine XS.iinc X21.here hx rfl (hb hby d1_122) rfl (l' := #[.val (.ref a), .val (.int n), .val (.int (4 : Int32)), .val (.int (4 : Int32)), .val (.int (1 : Int32))]) rfl ?_
      refine XS.goto X21.here hx rfl (pc0 := 125) (pc' := 95) rfl (hb hby d1_125) (by decide) (by decide) ?_
      refine XS.iload X21.here hx rfl (hb hby d1_95) rfl ?_
      show Steps p.tables e below (T21.setTop (mkF m 97 #[.val (.ref a), .val (.int n), .val (.int (4 : Int32)), .val (.int (4 : Int32)), .val (.int (1 : Int32))] [(.int (1 : Int32))])) t_
      refine XS.iloadN X21.here hx rfl (hb hby d1_97) rfl ?_
      refine XS.icmpNo X21.here hx rfl (hb hby d1_98) rfl (tlt (by decide : (1 : Int32) < (4 : Int32))).2.1 ?_
      refine XS.aloadN X21.here hx rfl (hb hby d1_101) rfl rfl ?_
      exact k_
    obtain ⟨T22, X22, e22, st22⟩ := getF X21 hx hZ hown (host := "") (Or.inl (own_w hw 34 rfl)) Via.refl rfl ((zc6.keep Kc20 nin0).keep Kc21 (ninS nc30 nin0)) (g := (mkF m 102 #[.val (.ref a), .val (.int n), .val (.int (4 : Int32)), .val (.int (4 : Int32)), .val (.int (1 : Int32))] [(.ref a)])) rfl rfl (hb hby d1_102)
    refine own_go st22 ?_
    refine own_go (A := T22.setTop (mkF m 106 #[.val (.ref a), .val (.int n), .val (.int (4 : Int32)), .val (.int (4 : Int32)), .val (.int (1 : Int32))] [(.ref a), (.ref b2)])) (fun t_ k_ => ?_) ?_
    · show Steps p.tables e below (T22.setTop (mkF m 105 #[.val (.ref a), .val (.int n), .val (.int (4 : Int32)), .val (.int (4 : Int32)), .val (.int (1 : Int32))] [(.ref b2)])) t_
      refine XS.aloadN X22.here hx rfl (hb hby d1_105) rfl rfl ?_
      exact k_
    obtain ⟨T23, X23, e23, st23⟩ := getF X22 hx hZ hown (host := "") (Or.inl (own_w hw 41 rfl)) Via.refl e22 ((zc9.keep Kc20 nin0).keep Kc21 (ninS nc30 nin0)) (g := (mkF m 106 #[.val (.ref a), .val (.int n), .val (.int (4 : Int32)), .val (.int (4 : Int32)), .val (.int (1 : Int32))] [(.ref a), (.ref b2)])) rfl rfl (hb hby d1_106)
    refine own_go st23 ?_
    obtain ⟨cl24, Ar24, q24, S24, M24, H24, G24⟩ := id ((zc16.keep Kc20 nin0).keep Kc21 (ninS (Ne.symm nc28) nin0))
    refine own_go (A := T23.setTop (mkF m 113 #[.val (.ref a), .val (.int n), .val (.int (4 : Int32)), .val (.int (4 : Int32)), .val (.int (1 : Int32))] [(.int ((n * (4 : Int32)) + (1 : Int32))), (.ref b2)])) (fun t_ k_ => ?_) ?_
    · show Steps p.tables e below (T23.setTop (mkF m 109 #[.val (.ref a), .val (.int n), .val (.int (4 : Int32)), .val (.int (4 : Int32)), .val (.int (1 : Int32))] [(.ref b7), (.ref b2)])) t_
      refine X23.arraylength hx (by rw [e23]; exact Ar24.1) (State.isArrayOf_alike hZ.alike Ar24.2.1) (g := (mkF m 109 #[.val (.ref a), .val (.int n), .val (.int (4 : Int32)), .val (.int (4 : Int32)), .val (.int (1 : Int32))] [(.ref b7), (.ref b2)])) rfl rfl (hb hby d1_109) _ ?_
      rw [len_of S24 M24]
      refine XS.iload X23.here hx rfl (hb hby d1_110) rfl ?_
      refine XS.iadd X23.here hx rfl (hb hby d1_112) rfl ?_
      exact k_
    obtain ⟨_, _, ⟨T25, L25, k25, n25⟩, -, X25, ⟨Lc25, hQ25, l25, y25, z25⟩, st25⟩ := Jvm.LawKit.callS X23 hx (y := own_y9) hown (mvT hZ (own_w hw 49 rfl)) (mvT hZ (own_w hw 50 rfl)) (mvT hZ (own_w hw 51 rfl)) (mvT hZ (own_w hw 52 rfl)) (by decide) (backOf (W := 1) (rmVO l Z a0 hw [] ((n * (4 : Int32)) + (1 : Int32)) ca bxc T21.heap n0 (Nat.le_trans Z0 K21.1) O21 zc2 zc3 hbx (own_c1 (by have h := own_vi4_1 hn; omega)) (own_c2 (by have h := own_vi4_1 hn; omega))) hZ (own_w hw 52 rfl) (own_w hw 51 rfl) (by decide) (by decide)) (g := (mkF m 113 #[.val (.ref a), .val (.int n), .val (.int (4 : Int32)), .val (.int (4 : Int32)), .val (.int (1 : Int32))] [(.int ((n * (4 : Int32)) + (1 : Int32))), (.ref b2)])) rfl (by rw [hml]; rfl) (argsL := [(.int ((n * (4 : Int32)) + (1 : Int32)))]) (rest := [(.ref b2)]) (lenOf pd_8 rfl) rfl (by show 2 * 0 + _ ≤ _; exact Nat.le_of_eq rfl) (hb hby d1_113) (fun _ _ => ⟨rfl, e23, (by decide : 4 + 0 ≤ _), (by decide : 49 + 0 ≤ _)⟩)
    dsimp only [Pt.U, Pt.locs, Pt.cells, Pt.slots] at X25 l25 y25 z25 st25 hQ25
    subst l25 y25 z25
    obtain ⟨r_25, rfl, N25q, Kc25, r25_0, r25_1⟩ := hQ25
    have N25 := Fr.app N21 N25q
    refine own_go st25 ?_
    have K25 : Keep h0 T25.heap [a] := K21.trans Kc25 all0
    have O25 := O21.keep Kc25 all0
    obtain ⟨cq26, kq26, q26a, q26b, q26c⟩ := isOf hZ rfl (((zc12.keep Kc20).keep Kc21).keep Kc25)
    obtain ⟨_, _, ⟨T26, L26, k26, n26⟩, -, X26, ⟨Lc26, hQ26, l26, y26, z26⟩, st26⟩ := X25.interfaceBack hx (xi := own_y13) (y := own_y8) hown (mvT hZ (own_w hw 56 rfl)) (mvT hZ (own_w hw 57 rfl)) (mvT hZ (own_w hw 58 rfl)) (mvT hZ (own_w hw 59 rfl)) (mvT hZ (own_w hw 60 rfl)) (mvT hZ (own_w hw 61 rfl)) (mvT hZ (own_w hw 62 rfl)) (mvT hZ (own_w hw 63 rfl)) (by decide) (backOf (W := 0) (rmAdd1 l Z a0 hw [] b2 r_25 ed_21 k_21 ((0 : Int32) + (1 : Int32)) r_20 T25.heap n0 (Nat.le_trans Z0 K25.1) (((zc12.keep Kc20).keep Kc21).keep Kc25) (r21_3.keep Kc25 nin0) (r21_4.keep Kc25 nin0) (r21_5.keep Kc25 nin0) (r21_1.keep Kc25 nin0) r21_2 gc23 (Nat.le_trans Z0 (Nat.le_trans K20.1 r21_0)) (Nat.ne_of_lt (Nat.lt_of_lt_of_le (Nat.lt_of_lt_of_le zc12.lt Kc20.1) r21_0)) (r25_0.ext O25.2)) hZ (own_w hw 64 rfl) (own_w hw 12 rfl) (by decide) (by decide)) q26a q26b q26c (g := (mkF m 116 #[.val (.ref a), .val (.int n), .val (.int (4 : Int32)), .val (.int (4 : Int32)), .val (.int (1 : Int32))] [(.ref r_25), (.ref b2)])) rfl (by rw [hml]; rfl) (Steps.refl _) (argsL := [(.ref r_25)]) (rest := []) (lenOf pd_9 rfl) rfl (by show 2 * 0 + _ ≤ _; exact Nat.le_of_eq rfl) (hb hby d1_116) (fun _ _ => ⟨rfl, rfl, (by decide : 4 + 0 ≤ _), (by decide : 49 + 0 ≤ _)⟩)
    dsimp only [Pt.U, Pt.locs, Pt.cells, Pt.slots] at X26 l26 y26 z26 st26 hQ26
    subst l26 y26 z26
    obtain ⟨rfl, N26q, Kc26, r26_0, r26_1, r26_2, r26_3⟩ := hQ26
    have N26 := Fr.app N25 N26q
    refine own_via st26 ?_
    have K26 : Keep h0 T26.heap [a] := K25.trans Kc26 (allS (P := fun x => x ∈ _ ∨ _ ≤ x) (Or.inr sc24) (allS (P := fun x => x ∈ _ ∨ _ ≤ x) (Or.inr (Nat.le_trans K20.1 r21_0)) all0))
    have O26 := O25.keep Kc26 (allS (P := fun x => n0 ≤ x) gc23 (allS (P := fun x => n0 ≤ x) (Nat.le_trans Z0 (Nat.le_trans K20.1 r21_0)) all0))
    refine own_go (A := T26.setTop (mkF m 102 #[.val (.ref a), .val (.int n), .val (.int (4 : Int32)), .val (.int (4 : Int32)), .val (.int (2 : Int32))] [(.ref a)])) (fun t_ k_ => ?_) ?_
    · show Steps p.tables e below (T26.setTop (mkF m 121 #[.val (.ref a), .val (.int n), .val (.int (4 : Int32)), .val (.int (4 : Int32)), .val (.int (1 : Int32))] [(.int (1 : Int32))])) t_
      refine XS.pop X26.here hx rfl (hb hby d1_121) rfl rfl ?_
      refine XS.iinc X26.here hx rfl (hb hby d1_122) rfl (l' := #[.val (.ref a), .val (.int n), .val (.int (4 : Int32)), .val (.int (4 : Int32)), .val (.int (2 : Int32))]) rfl ?_
      refine XS.goto X26.here hx rfl (pc0 := 125) (pc' := 95) rfl (hb hby d1_125) (by decide) (by decide) ?_
      refine XS.iload X26.here hx rfl (hb hby d1_95) rfl ?_
      show Steps p.tables e below (T26.setTop (mkF m 97 #[.val (.ref a), .val (.int n), .val (.int (4 : Int32)), .val (.int (4 : Int32)), .val (.int (2 : Int32))] [(.int (2 : Int32))])) t_
      refine XS.iloadN X26.here hx rfl (hb hby d1_97) rfl ?_
      refine XS.icmpNo X26.here hx rfl (hb hby d1_98) rfl (tlt (by decide : (2 : Int32) < (4 : Int32))).2.1 ?_
      refine XS.aloadN X26.here hx rfl (hb hby d1_101) rfl rfl ?_
      exact k_
    obtain ⟨T27, X27, e27, st27⟩ := getF X26 hx hZ hown (host := "") (Or.inl (own_w hw 34 rfl)) Via.refl rfl ((((zc6.keep Kc20 nin0).keep Kc21 (ninS nc30 nin0)).keep Kc25 nin0).keep Kc26 (ninS nc30 (ninS (Nat.ne_of_lt (Nat.lt_of_lt_of_le (Nat.lt_of_lt_of_le zc5.lt Kc20.1) r21_0)) nin0))) (g := (mkF m 102 #[.val (.ref a), .val (.int n), .val (.int (4 : Int32)), .val (.int (4 : Int32)), .val (.int (2 : Int32))] [(.ref a)])) rfl rfl (hb hby d1_102)
    refine own_go st27 ?_
    refine own_go (A := T27.setTop (mkF m 106 #[.val (.ref a), .val (.int n), .val (.int (4 : Int32)), .val (.int (4 : Int32)), .val (.int (2 : Int32))] [(.ref a), (.ref b2)])) (fun t_ k_ => ?_) ?_
    · show Steps p.tables e below (T27.setTop (mkF m 105 #[.val (.ref a), .val (.int n), .val (.int (4 : Int32)), .val (.int (4 : Int32)), .val (.int (2 : Int32))] [(.ref b2)])) t_
      refine XS.aloadN X27.here hx rfl (hb hby d1_105) rfl rfl ?_
      exact k_
    obtain ⟨T28, X28, e28, st28⟩ := getF X27 hx hZ hown (host := "") (Or.inl (own_w hw 41 rfl)) Via.refl e27 ((((zc9.keep Kc20 nin0).keep Kc21 (ninS nc30 nin0)).keep Kc25 nin0).keep Kc26 (ninS nc30 (ninS (Nat.ne_of_lt (Nat.lt_of_lt_of_le (Nat.lt_of_lt_of_le zc5.lt Kc20.1) r21_0)) nin0))) (g := (mkF m 106 #[.val (.ref a), .val (.int n), .val (.int (4 : Int32)), .val (.int (4 : Int32)), .val (.int (2 : Int32))] [(.ref a), (.ref b2)])) rfl rfl (hb hby d1_106)
    refine own_go st28 ?_
    obtain ⟨cl29, Ar29, q29, S29, M29, H29, G29⟩ := id ((((zc16.keep Kc20 nin0).keep Kc21 (ninS (Ne.symm nc28) nin0)).keep Kc25 nin0).keep Kc26 (ninS (Ne.symm nc28) (ninS (Nat.ne_of_lt (Nat.lt_of_lt_of_le (Nat.lt_of_lt_of_le zc16.lt Kc20.1) r21_0)) nin0)))
    refine own_go (A := T28.setTop (mkF m 113 #[.val (.ref a), .val (.int n), .val (.int (4 : Int32)), .val (.int (4 : Int32)), .val (.int (2 : Int32))] [(.int ((n * (4 : Int32)) + (2 : Int32))), (.ref b2)])) (fun t_ k_ => ?_) ?_
    · show Steps p.tables e below (T28.setTop (mkF m 109 #[.val (.ref a), .val (.int n), .val (.int (4 : Int32)), .val (.int (4 : Int32)), .val (.int (2 : Int32))] [(.ref b7), (.ref b2)])) t_
      refine X28.arraylength hx (by rw [e28]; exact Ar29.1) (State.isArrayOf_alike hZ.alike Ar29.2.1) (g := (mkF m 109 #[.val (.ref a), .val (.int n), .val (.int (4 : Int32)), .val (.int (4 : Int32)), .val (.int (2 : Int32))] [(.ref b7), (.ref b2)])) rfl rfl (hb hby d1_109) _ ?_
      rw [len_of S29 M29]
      refine XS.iload X28.here hx rfl (hb hby d1_110) rfl ?_
      refine XS.iadd X28.here hx rfl (hb hby d1_112) rfl ?_
      exact k_
    obtain ⟨_, _, ⟨T30, L30, k30, n30⟩, -, X30, ⟨Lc30, hQ30, l30, y30, z30⟩, st30⟩ := Jvm.LawKit.callS X28 hx (y := own_y9) hown (mvT hZ (own_w hw 49 rfl)) (mvT hZ (own_w hw 50 rfl)) (mvT hZ (own_w hw 51 rfl)) (mvT hZ (own_w hw 52 rfl)) (by decide) (backOf (W := 1) (rmVO l Z a0 hw [] ((n * (4 : Int32)) + (2 : Int32)) ca bxc T26.heap n0 (Nat.le_trans Z0 K26.1) O26 zc2 zc3 hbx (own_c1 (by have h := own_vi4_2 hn; omega)) (own_c2 (by have h := own_vi4_2 hn; omega))) hZ (own_w hw 52 rfl) (own_w hw 51 rfl) (by decide) (by decide)) (g := (mkF m 113 #[.val (.ref a), .val (.int n), .val (.int (4 : Int32)), .val (.int (4 : Int32)), .val (.int (2 : Int32))] [(.int ((n * (4 : Int32)) + (2 : Int32))), (.ref b2)])) rfl (by rw [hml]; rfl) (argsL := [(.int ((n * (4 : Int32)) + (2 : Int32)))]) (rest := [(.ref b2)]) (lenOf pd_8 rfl) rfl (by show 2 * 0 + _ ≤ _; exact Nat.le_of_eq rfl) (hb hby d1_113) (fun _ _ => ⟨rfl, e28, (by decide : 4 + 0 ≤ _), (by decide : 49 + 0 ≤ _)⟩)
    dsimp only [Pt.U, Pt.locs, Pt.cells, Pt.slots] at X30 l30 y30 z30 st30 hQ30
    subst l30 y30 z30
    obtain ⟨r_30, rfl, N30q, Kc30, r30_0, r30_1⟩ := hQ30
    have N30 := Fr.app N26 N30q
    refine own_go st30 ?_
    have K30 : Keep h0 T30.heap [a] := K26.trans Kc30 all0
    have O30 := O26.keep Kc30 all0
    obtain ⟨cq31, kq31, q31a, q31b, q31c⟩ := isOf hZ rfl (((((zc12.keep Kc20).keep Kc21).keep Kc25).keep Kc26).keep Kc30)
    obtain ⟨_, _, ⟨T31, L31, k31, n31⟩, -, X31, ⟨Lc31, hQ31, l31, y31, z31⟩, st31⟩ := X30.interfaceBack hx (xi := own_y13) (y := own_y8) hown (mvT hZ (own_w hw 56 rfl)) (mvT hZ (own_w hw 57 rfl)) (mvT hZ (own_w hw 58 rfl)) (mvT hZ (own_w hw 59 rfl)) (mvT hZ (own_w hw 60 rfl)) (mvT hZ (own_w hw 61 rfl)) (mvT hZ (own_w hw 62 rfl)) (mvT hZ (own_w hw 63 rfl)) (by decide) (backOf (W := 0) (rmAdd2 l Z a0 hw [] b2 r_30 ed_21 k_21 (((0 : Int32) + (1 : Int32)) + (1 : Int32)) r_20 r_25 T30.heap n0 (Nat.le_trans Z0 K30.1) (((((zc12.keep Kc20).keep Kc21).keep Kc25).keep Kc26).keep Kc30) (r26_1.keep Kc30 nin0) (r26_2.keep Kc30 nin0) (r26_3.keep Kc30 nin0) (r26_0.keep Kc30 nin0) r21_2 gc23 (Nat.le_trans Z0 (Nat.le_trans K20.1 r21_0)) (Nat.ne_of_lt (Nat.lt_of_lt_of_le (Nat.lt_of_lt_of_le zc12.lt Kc20.1) r21_0)) (r30_0.ext O30.2)) hZ (own_w hw 64 rfl) (own_w hw 12 rfl) (by decide) (by decide)) q31a q31b q31c (g := (mkF m 116 #[.val (.ref a), .val (.int n), .val (.int (4 : Int32)), .val (.int (4 : Int32)), .val (.int (2 : Int32))] [(.ref r_30), (.ref b2)])) rfl (by rw [hml]; rfl) (Steps.refl _) (argsL := [(.ref r_30)]) (rest := []) (lenOf pd_9 rfl) rfl (by show 2 * 0 + _ ≤ _; exact Nat.le_of_eq rfl) (hb hby d1_116) (fun _ _ => ⟨rfl, rfl, (by decide : 4 + 0 ≤ _), (by decide : 49 + 0 ≤ _)⟩)
    dsimp only [Pt.U, Pt.locs, Pt.cells, Pt.slots] at X31 l31 y31 z31 st31 hQ31
    subst l31 y31 z31
    obtain ⟨rfl, N31q, Kc31, r31_0, r31_1, r31_2, r31_3⟩ := hQ31
    have N31 := Fr.app N30 N31q
    refine own_via st31 ?_
    have K31 : Keep h0 T31.heap [a] := K30.trans Kc31 (allS (P := fun x => x ∈ _ ∨ _ ≤ x) (Or.inr sc24) (allS (P := fun x => x ∈ _ ∨ _ ≤ x) (Or.inr (Nat.le_trans K20.1 r21_0)) all0))
    have O31 := O30.keep Kc31 (allS (P := fun x => n0 ≤ x) gc23 (allS (P := fun x => n0 ≤ x) (Nat.le_trans Z0 (Nat.le_trans K20.1 r21_0)) all0))
    refine own_go (A := T31.setTop (mkF m 102 #[.val (.ref a), .val (.int n), .val (.int (4 : Int32)), .val (.int (4 : Int32)), .val (.int (3 : Int32))] [(.ref a)])) (fun t_ k_ => ?_) ?_
    · show Steps p.tables e below (T31.setTop (mkF m 121 #[.val (.ref a), .val (.int n), .val (.int (4 : Int32)), .val (.int (4 : Int32)), .val (.int (2 : Int32))] [(.int (1 : Int32))])) t_
      refine XS.pop X31.here hx rfl (hb hby d1_121) rfl rfl ?_
      refine XS.iinc X31.here hx rfl (hb hby d1_122) rfl (l' := #[.val (.ref a), .val (.int n), .val (.int (4 : Int32)), .val (.int (4 : Int32)), .val (.int (3 : Int32))]) rfl ?_
      refine XS.goto X31.here hx rfl (pc0 := 125) (pc' := 95) rfl (hb hby d1_125) (by decide) (by decide) ?_
      refine XS.iload X31.here hx rfl (hb hby d1_95) rfl ?_
      show Steps p.tables e below (T31.setTop (mkF m 97 #[.val (.ref a), .val (.int n), .val (.int (4 : Int32)), .val (.int (4 : Int32)), .val (.int (3 : Int32))] [(.int (3 : Int32))])) t_
      refine XS.iloadN X31.here hx rfl (hb hby d1_97) rfl ?_
      refine XS.icmpNo X31.here hx rfl (hb hby d1_98) rfl (tlt (by decide : (3 : Int32) < (4 : Int32))).2.1 ?_
      refine XS.aloadN X31.here hx rfl (hb hby d1_101) rfl rfl ?_
      exact k_
    obtain ⟨T32, X32, e32, st32⟩ := getF X31 hx hZ hown (host := "") (Or.inl (own_w hw 34 rfl)) Via.refl rfl ((((((zc6.keep Kc20 nin0).keep Kc21 (ninS nc30 nin0)).keep Kc25 nin0).keep Kc26 (ninS nc30 (ninS (Nat.ne_of_lt (Nat.lt_of_lt_of_le (Nat.lt_of_lt_of_le zc5.lt Kc20.1) r21_0)) nin0))).keep Kc30 nin0).keep Kc31 (ninS nc30 (ninS (Nat.ne_of_lt (Nat.lt_of_lt_of_le (Nat.lt_of_lt_of_le zc5.lt Kc20.1) r21_0)) nin0))) (g := (mkF m 102 #[.val (.ref a), .val (.int n), .val (.int (4 : Int32)), .val (.int (4 : Int32)), .val (.int (3 : Int32))] [(.ref a)])) rfl rfl (hb hby d1_102)
    refine own_go st32 ?_
    refine own_go (A := T32.setTop (mkF m 106 #[.val (.ref a), .val (.int n), .val (.int (4 : Int32)), .val (.int (4 : Int32)), .val (.int (3 : Int32))] [(.ref a), (.ref b2)])) (fun t_ k_ => ?_) ?_
    · show Steps p.tables e below (T32.setTop (mkF m 105 #[.val (.ref a), .val (.int n), .val (.int (4 : Int32)), .val (.int (4 : Int32)), .val (.int (3 : Int32))] [(.ref b2)])) t_
      refine XS.aloadN X32.here hx rfl (hb hby d1_105) rfl rfl ?_
      exact k_
    obtain ⟨T33, X33, e33, st33⟩ := getF X32 hx hZ hown (host := "") (Or.inl (own_w hw 41 rfl)) Via.refl e32 ((((((zc9.keep Kc20 nin0).keep Kc21 (ninS nc30 nin0)).keep Kc25 nin0).keep Kc26 (ninS nc30 (ninS (Nat.ne_of_lt (Nat.lt_of_lt_of_le (Nat.lt_of_lt_of_le zc5.lt Kc20.1) r21_0)) nin0))).keep Kc30 nin0).keep Kc31 (ninS nc30 (ninS (Nat.ne_of_lt (Nat.lt_of_lt_of_le (Nat.lt_of_lt_of_le zc5.lt Kc20.1) r21_0)) nin0))) (g := (mkF m 106 #[.val (.ref a), .val (.int n), .val (.int (4 : Int32)), .val (.int (4 : Int32)), .val (.int (3 : Int32))] [(.ref a), (.ref b2)])) rfl rfl (hb hby d1_106)
    refine own_go st33 ?_
    obtain ⟨cl34, Ar34, q34, S34, M34, H34, G34⟩ := id ((((((zc16.keep Kc20 nin0).keep Kc21 (ninS (Ne.symm nc28) nin0)).keep Kc25 nin0).keep Kc26 (ninS (Ne.symm nc28) (ninS (Nat.ne_of_lt (Nat.lt_of_lt_of_le (Nat.lt_of_lt_of_le zc16.lt Kc20.1) r21_0)) nin0))).keep Kc30 nin0).keep Kc31 (ninS (Ne.symm nc28) (ninS (Nat.ne_of_lt (Nat.lt_of_lt_of_le (Nat.lt_of_lt_of_le zc16.lt Kc20.1) r21_0)) nin0)))
    refine own_go (A := T33.setTop (mkF m 113 #[.val (.ref a), .val (.int n), .val (.int (4 : Int32)), .val (.int (4 : Int32)), .val (.int (3 : Int32))] [(.int ((n * (4 : Int32)) + (3 : Int32))), (.ref b2)])) (fun t_ k_ => ?_) ?_
    · show Steps p.tables e below (T33.setTop (mkF m 109 #[.val (.ref a), .val (.int n), .val (.int (4 : Int32)), .val (.int (4 : Int32)), .val (.int (3 : Int32))] [(.ref b7), (.ref b2)])) t_
      refine X33.arraylength hx (by rw [e33]; exact Ar34.1) (State.isArrayOf_alike hZ.alike Ar34.2.1) (g := (mkF m 109 #[.val (.ref a), .val (.int n), .val (.int (4 : Int32)), .val (.int (4 : Int32)), .val (.int (3 : Int32))] [(.ref b7), (.ref b2)])) rfl rfl (hb hby d1_109) _ ?_
      rw [len_of S34 M34]
      refine XS.iload X33.here hx rfl (hb hby d1_110) rfl ?_
      refine XS.iadd X33.here hx rfl (hb hby d1_112) rfl ?_
      exact k_
    obtain ⟨_, _, ⟨T35, L35, k35, n35⟩, -, X35, ⟨Lc35, hQ35, l35, y35, z35⟩, st35⟩ := Jvm.LawKit.callS X33 hx (y := own_y9) hown (mvT hZ (own_w hw 49 rfl)) (mvT hZ (own_w hw 50 rfl)) (mvT hZ (own_w hw 51 rfl)) (mvT hZ (own_w hw 52 rfl)) (by decide) (backOf (W := 1) (rmVO l Z a0 hw [] ((n * (4 : Int32)) + (3 : Int32)) ca bxc T31.heap n0 (Nat.le_trans Z0 K31.1) O31 zc2 zc3 hbx (own_c1 (by have h := own_vi4_3 hn; omega)) (own_c2 (by have h := own_vi4_3 hn; omega))) hZ (own_w hw 52 rfl) (own_w hw 51 rfl) (by decide) (by decide)) (g := (mkF m 113 #[.val (.ref a), .val (.int n), .val (.int (4 : Int32)), .val (.int (4 : Int32)), .val (.int (3 : Int32))] [(.int ((n * (4 : Int32)) + (3 : Int32))), (.ref b2)])) rfl (by rw [hml]; rfl) (argsL := [(.int ((n * (4 : Int32)) + (3 : Int32)))]) (rest := [(.ref b2)]) (lenOf pd_8 rfl) rfl (by show 2 * 0 + _ ≤ _; exact Nat.le_of_eq rfl) (hb hby d1_113) (fun _ _ => ⟨rfl, e33, (by decide : 4 + 0 ≤ _), (by decide : 49 + 0 ≤ _)⟩)
    dsimp only [Pt.U, Pt.locs, Pt.cells, Pt.slots] at X35 l35 y35 z35 st35 hQ35
    subst l35 y35 z35
    obtain ⟨r_35, rfl, N35q, Kc35, r35_0, r35_1⟩ := hQ35
    have N35 := Fr.app N31 N35q
    refine own_go st35 ?_
    have K35 : Keep h0 T35.heap [a] := K31.trans Kc35 all0
    have O35 := O31.keep Kc35 all0
    obtain ⟨cq36, kq36, q36a, q36b, q36c⟩ := isOf hZ rfl (((((((zc12.keep Kc20).keep Kc21).keep Kc25).keep Kc26).keep Kc30).keep Kc31).keep Kc35)
    obtain ⟨_, _, ⟨T36, L36, k36, n36⟩, -, X36, ⟨Lc36, hQ36, l36, y36, z36⟩, st36⟩ := X35.interfaceBack hx (xi := own_y13) (y := own_y8) hown (mvT hZ (own_w hw 56 rfl)) (mvT hZ (own_w hw 57 rfl)) (mvT hZ (own_w hw 58 rfl)) (mvT hZ (own_w hw 59 rfl)) (mvT hZ (own_w hw 60 rfl)) (mvT hZ (own_w hw 61 rfl)) (mvT hZ (own_w hw 62 rfl)) (mvT hZ (own_w hw 63 rfl)) (by decide) (backOf (W := 0) (rmAdd3 l Z a0 hw [] b2 r_35 ed_21 k_21 ((((0 : Int32) + (1 : Int32)) + (1 : Int32)) + (1 : Int32)) r_20 r_25 r_30 T35.heap n0 (Nat.le_trans Z0 K35.1) (((((((zc12.keep Kc20).keep Kc21).keep Kc25).keep Kc26).keep Kc30).keep Kc31).keep Kc35) (r31_1.keep Kc35 nin0) (r31_2.keep Kc35 nin0) (r31_3.keep Kc35 nin0) (r31_0.keep Kc35 nin0) r21_2 gc23 (Nat.le_trans Z0 (Nat.le_trans K20.1 r21_0)) (Nat.ne_of_lt (Nat.lt_of_lt_of_le (Nat.lt_of_lt_of_le zc12.lt Kc20.1) r21_0)) (r35_0.ext O35.2)) hZ (own_w hw 64 rfl) (own_w hw 12 rfl) (by decide) (by decide)) q36a q36b q36c (g := (mkF m 116 #[.val (.ref a), .val (.int n), .val (.int (4 : Int32)), .val (.int (4 : Int32)), .val (.int (3 : Int32))] [(.ref r_35), (.ref b2)])) rfl (by rw [hml]; rfl) (Steps.refl _) (argsL := [(.ref r_35)]) (rest := []) (lenOf pd_9 rfl) rfl (by show 2 * 0 + _ ≤ _; exact Nat.le_of_eq rfl) (hb hby d1_116) (fun _ _ => ⟨rfl, rfl, (by decide : 4 + 0 ≤ _), (by decide : 49 + 0 ≤ _)⟩)
    dsimp only [Pt.U, Pt.locs, Pt.cells, Pt.slots] at X36 l36 y36 z36 st36 hQ36
    subst l36 y36 z36
    obtain ⟨rfl, N36q, Kc36, r36_0, r36_1, r36_2, r36_3⟩ := hQ36
    have N36 := Fr.app N35 N36q
    refine own_via st36 ?_
    have K36 : Keep h0 T36.heap [a] := K35.trans Kc36 (allS (P := fun x => x ∈ _ ∨ _ ≤ x) (Or.inr sc24) (allS (P := fun x => x ∈ _ ∨ _ ≤ x) (Or.inr (Nat.le_trans K20.1 r21_0)) all0))
    have O36 := O35.keep Kc36 (allS (P := fun x => n0 ≤ x) gc23 (allS (P := fun x => n0 ≤ x) (Nat.le_trans Z0 (Nat.le_trans K20.1 r21_0)) all0))
    refine own_go (A := T36.setTop (mkF m 129 #[.val (.ref a), .val (.int n), .val (.int (4 : Int32)), .val (.int (4 : Int32)), .val (.int (4 : Int32))] [(.ref a)])) (fun t_ k_ => ?_) ?_
    · show Steps p.tables e below (T36.setTop (mkF m 121 #[.val (.ref a), .val (.int n), .val (.int (4 : Int32)), .val (.int (4 : Int32)), .val (.int (3 : Int32))] [(.int (1 : Int32))])) t_
      refine XS.pop X36.here hx rfl (hb hby d1_121) rfl rfl ?_
      refine XS.iinc X36.here hx rfl (hb hby d1_122) rfl (l' := #[.val (.ref a), .val (.int n), .val (.int (4 : Int32)), .val (.int (4 : Int32)), .val (.int (4 : Int32))]) rfl ?_
      refine XS.goto X36.here hx rfl (pc0 := 125) (pc' := 95) rfl (hb hby d1_125) (by decide) (by decide) ?_
      refine XS.iload X36.here hx rfl (hb hby d1_95) rfl ?_
      show Steps p.tables e below (T36.setTop (mkF m 97 #[.val (.ref a), .val (.int n), .val (.int (4 : Int32)), .val (.int (4 : Int32)), .val (.int (4 : Int32))] [(.int (4 : Int32))])) t_
      refine XS.iloadN X36.here hx rfl (hb hby d1_97) rfl ?_
      refine XS.icmpYes X36.here hx rfl (pc0 := 98) (pc' := 128) rfl (hb hby d1_98) rfl (flt (by decide : ¬ ((4 : Int32) < (4 : Int32)))).2.1 (by decide) (by decide) ?_
      refine XS.aloadN X36.here hx rfl (hb hby d1_128) rfl rfl ?_
      exact k_
    obtain ⟨T37, h37, X37, e37, E37, A37, D37, -, st37⟩ := newO X36 hx hZ hown (own_w hw 91 rfl) (own_w hw 92 rfl) (own_w hw 93 rfl) rfl (g := (mkF m 129 #[.val (.ref a), .val (.int n), .val (.int (4 : Int32)), .val (.int (4 : Int32)), .val (.int (4 : Int32))] [(.ref a)])) rfl (hb hby d1_129) (by decide) (by decide)
    obtain ⟨b37, g37⟩ : ∃ z, z = T36.heap.size := ⟨_, rfl⟩
    rw [← g37] at A37 D37 st37
    refine own_go st37 ?_
    have K37 : Keep h0 h37 [a] := K36.ext E37
    have O37 := O36.ext E37
    have F37_partitions : Fld Z h37 b37 "com/example/kneiphof/kneiphof/Partitioning" "partitions" "I" (.int (0 : Int32)) := D37 (Or.inr (own_w hw 108 rfl)) (ty := .int) (by decide)
    have F37_spreads : Fld Z h37 b37 "com/example/kneiphof/kneiphof/Partitioning" "spreads" "Ljava/util/List;" .null := D37 (Or.inr (own_w hw 110 rfl)) (ty := (.object "java/util/List")) (by decide)
    refine own_go (A := T37.setTop (mkF m 134 #[.val (.ref a), .val (.int n), .val (.int (4 : Int32)), .val (.int (4 : Int32)), .val (.int (4 : Int32))] [(.int n), (.ref b37), (.ref b37), (.ref a)])) (fun t_ k_ => ?_) ?_
    · show Steps p.tables e below (T37.setTop (mkF m 132 #[.val (.ref a), .val (.int n), .val (.int (4 : Int32)), .val (.int (4 : Int32)), .val (.int (4 : Int32))] [(.ref b37), (.ref a)])) t_
      refine XS.dup X37.here hx rfl (hb hby d1_132) rfl rfl ?_
      refine XS.iloadN X37.here hx rfl (hb hby d1_133) rfl ?_
      exact k_
    obtain ⟨_, _, ⟨T38, L38, k38, n38⟩, -, X38, ⟨Lc38, hQ38, l38, y38, z38⟩, st38⟩ := X37.specialBack hx (y := own_y12) rfl hown (mvT hZ (own_w hw 94 rfl)) (mvT hZ (own_w hw 95 rfl)) (mvT hZ (own_w hw 96 rfl)) (by decide) (backOf (W := 2) (rmPt1 l Z a0 hw [] b37 n el h37 n0 (Nat.le_trans Z0 K37.1) O37 zc4 A37 F37_partitions F37_spreads (Nat.le_trans Z0 (Nat.le_trans K36.1 (Nat.le_of_eq g37.symm)))) hZ (own_w hw 96 rfl) (own_w hw 93 rfl) (by decide) (by decide)) (g := (mkF m 134 #[.val (.ref a), .val (.int n), .val (.int (4 : Int32)), .val (.int (4 : Int32)), .val (.int (4 : Int32))] [(.int n), (.ref b37), (.ref b37), (.ref a)])) rfl (by rw [hml]; rfl) (Steps.refl _) (a := b37) (argsL := [(.int n)]) (rest := [(.ref b37), (.ref a)]) (lenOf pd_10 rfl) rfl (by show 2 * 0 + _ ≤ _; exact Nat.le_of_eq rfl) (hb hby d1_134) (fun _ _ => ⟨rfl, e37, (by decide : 5 + 0 ≤ _), (by decide : 51 + 0 ≤ _)⟩)
    dsimp only [Pt.U, Pt.locs, Pt.cells, Pt.slots] at X38 l38 y38 z38 st38 hQ38
    subst l38 y38 z38
    obtain ⟨rfl, N38q, Kc38⟩ := hQ38
    have N38 := Fr.app N36 N38q
    refine own_via st38 ?_
    have K38 : Keep h0 T38.heap [a] := K37.trans Kc38 (allS (P := fun x => x ∈ _ ∨ _ ≤ x) (Or.inr (Nat.le_trans K36.1 (Nat.le_of_eq g37.symm))) all0)
    have O38 := O37.keep Kc38 (allS (P := fun x => n0 ≤ x) (Nat.le_trans Z0 (Nat.le_trans K36.1 (Nat.le_of_eq g37.symm))) all0)
    obtain ⟨T39, h39, X39, e39, W39, st39⟩ := putF X38 hx hZ hown (host := "") (Or.inl (own_w hw 111 rfl)) Via.refl rfl ((((((((((zc11.keep Kc20 nin0).keep Kc21 (ninS nc30 nin0)).keep Kc25 nin0).keep Kc26 (ninS nc30 (ninS (Nat.ne_of_lt (Nat.lt_of_lt_of_le (Nat.lt_of_lt_of_le zc5.lt Kc20.1) r21_0)) nin0))).keep Kc30 nin0).keep Kc31 (ninS nc30 (ninS (Nat.ne_of_lt (Nat.lt_of_lt_of_le (Nat.lt_of_lt_of_le zc5.lt Kc20.1) r21_0)) nin0))).keep Kc35 nin0).keep Kc36 (ninS nc30 (ninS (Nat.ne_of_lt (Nat.lt_of_lt_of_le (Nat.lt_of_lt_of_le zc5.lt Kc20.1) r21_0)) nin0))).ext E37).keep Kc38 (ninS (Nat.ne_of_lt (Nat.lt_of_lt_of_le (Nat.lt_of_lt_of_le (Nat.lt_of_lt_of_le (Nat.lt_of_lt_of_le (Nat.lt_of_lt_of_le (Nat.lt_of_lt_of_le (Nat.lt_of_lt_of_le (Nat.lt_of_lt_of_le (Nat.lt_of_lt_of_le zc5.lt Kc20.1) Kc21.1) Kc25.1) Kc26.1) Kc30.1) Kc31.1) Kc35.1) Kc36.1) (Nat.le_of_eq g37.symm))) nin0)) ((((((((((zc5.keep Kc20).keep Kc21).keep Kc25).keep Kc26).keep Kc30).keep Kc31).keep Kc35).keep Kc36).ext E37).keep Kc38) (Or.inl (own_w hw 112 rfl)) (own_w hw 2 rfl) (ty := (.object "com/example/kneiphof/kneiphof/Partitioning")) (by decide) rfl rfl (g := (mkF m 137 #[.val (.ref a), .val (.int n), .val (.int (4 : Int32)), .val (.int (4 : Int32)), .val (.int (4 : Int32))] [(.ref b37), (.ref a)])) rfl rfl (hb hby d1_137)
    have Fw39 : Fld Z h39 a "com/example/kneiphof/kneiphof/Assignment" "partitioning" "Lcom/example/kneiphof/kneiphof/Partitioning;" (.ref b37) := ((((((((((zc11.keep Kc20 nin0).keep Kc21 (ninS nc30 nin0)).keep Kc25 nin0).keep Kc26 (ninS nc30 (ninS (Nat.ne_of_lt (Nat.lt_of_lt_of_le (Nat.lt_of_lt_of_le zc5.lt Kc20.1) r21_0)) nin0))).keep Kc30 nin0).keep Kc31 (ninS nc30 (ninS (Nat.ne_of_lt (Nat.lt_of_lt_of_le (Nat.lt_of_lt_of_le zc5.lt Kc20.1) r21_0)) nin0))).keep Kc35 nin0).keep Kc36 (ninS nc30 (ninS (Nat.ne_of_lt (Nat.lt_of_lt_of_le (Nat.lt_of_lt_of_le zc5.lt Kc20.1) r21_0)) nin0))).ext E37).keep Kc38 (ninS (Nat.ne_of_lt (Nat.lt_of_lt_of_le (Nat.lt_of_lt_of_le (Nat.lt_of_lt_of_le (Nat.lt_of_lt_of_le (Nat.lt_of_lt_of_le (Nat.lt_of_lt_of_le (Nat.lt_of_lt_of_le (Nat.lt_of_lt_of_le (Nat.lt_of_lt_of_le zc5.lt Kc20.1) Kc21.1) Kc25.1) Kc26.1) Kc30.1) Kc31.1) Kc35.1) Kc36.1) (Nat.le_of_eq g37.symm))) nin0)).same W39
    refine own_go st39 ?_
    have K39 : Keep h0 h39 [a] := K38.wr W39 (Or.inl (List.mem_of_getElem? (i := 0) rfl))
    have O39 := O38.wr W39 gc18
    have N39 := Fr.snoc X39 N38 gc18
    obtain ⟨fs40, hr40, hrun40, hended40, hW40, hsame40⟩ := X39.leave (v := none) (fun _ => rfl)
    refine ⟨_, _, ?_, hrun40, hended40, _, _, rfl, ?_, ⟨_, rfl⟩, hW40, hsame40.mono (by decide) (by decide)⟩
    · exact X39.returnOut hx hret (hb hby d1_140) hr40
    · show Q_rmIni4 Z a n dc kd ca bxc el h0 n0 _ T39.heap _
      rw [e39]
      exact ⟨b7, k7, b11, k11, b2, ed_21, k_21, (((((0 : Int32) + (1 : Int32)) + (1 : Int32)) + (1 : Int32)) + (1 : Int32)), vw, vu, r_20, r_25, r_30, r_35, rfl, N39, K39, sc20, sc22, sc24, (Nat.le_trans K20.1 r21_0), (((((((((((zc9.keep Kc20 nin0).keep Kc21 (ninS nc30 nin0)).keep Kc25 nin0).keep Kc26 (ninS nc30 (ninS (Nat.ne_of_lt (Nat.lt_of_lt_of_le (Nat.lt_of_lt_of_le zc5.lt Kc20.1) r21_0)) nin0))).keep Kc30 nin0).keep Kc31 (ninS nc30 (ninS (Nat.ne_of_lt (Nat.lt_of_lt_of_le (Nat.lt_of_lt_of_le zc5.lt Kc20.1) r21_0)) nin0))).keep Kc35 nin0).keep Kc36 (ninS nc30 (ninS (Nat.ne_of_lt (Nat.lt_of_lt_of_le (Nat.lt_of_lt_of_le zc5.lt Kc20.1) r21_0)) nin0))).ext E37).keep Kc38 (ninS (Nat.ne_of_lt (Nat.lt_of_lt_of_le (Nat.lt_of_lt_of_le (Nat.lt_of_lt_of_le (Nat.lt_of_lt_of_le (Nat.lt_of_lt_of_le (Nat.lt_of_lt_of_le (Nat.lt_of_lt_of_le (Nat.lt_of_lt_of_le (Nat.lt_of_lt_of_le zc5.lt Kc20.1) Kc21.1) Kc25.1) Kc26.1) Kc30.1) Kc31.1) Kc35.1) Kc36.1) (Nat.le_of_eq g37.symm))) nin0)).other W39 (Or.inr (slot_ne (Or.inr (own_w hw 42 rfl)) (Or.inl (own_w hw 112 rfl)) (by decide) (t := (.array .int)) (t' := (.object "com/example/kneiphof/kneiphof/Partitioning")) (by decide) (by decide)))), (((((((((((zc10.keep Kc20 nin0).keep Kc21 (ninS nc30 nin0)).keep Kc25 nin0).keep Kc26 (ninS nc30 (ninS (Nat.ne_of_lt (Nat.lt_of_lt_of_le (Nat.lt_of_lt_of_le zc5.lt Kc20.1) r21_0)) nin0))).keep Kc30 nin0).keep Kc31 (ninS nc30 (ninS (Nat.ne_of_lt (Nat.lt_of_lt_of_le (Nat.lt_of_lt_of_le zc5.lt Kc20.1) r21_0)) nin0))).keep Kc35 nin0).keep Kc36 (ninS nc30 (ninS (Nat.ne_of_lt (Nat.lt_of_lt_of_le (Nat.lt_of_lt_of_le zc5.lt Kc20.1) r21_0)) nin0))).ext E37).keep Kc38 (ninS (Nat.ne_of_lt (Nat.lt_of_lt_of_le (Nat.lt_of_lt_of_le (Nat.lt_of_lt_of_le (Nat.lt_of_lt_of_le (Nat.lt_of_lt_of_le (Nat.lt_of_lt_of_le (Nat.lt_of_lt_of_le (Nat.lt_of_lt_of_le (Nat.lt_of_lt_of_le zc5.lt Kc20.1) Kc21.1) Kc25.1) Kc26.1) Kc30.1) Kc31.1) Kc35.1) Kc36.1) (Nat.le_of_eq g37.symm))) nin0)).other W39 (Or.inr (slot_ne (Or.inr (own_w hw 44 rfl)) (Or.inl (own_w hw 112 rfl)) (by decide) (t := (.array .int)) (t' := (.object "com/example/kneiphof/kneiphof/Partitioning")) (by decide) (by decide)))), (((((((((((zc6.keep Kc20 nin0).keep Kc21 (ninS nc30 nin0)).keep Kc25 nin0).keep Kc26 (ninS nc30 (ninS (Nat.ne_of_lt (Nat.lt_of_lt_of_le (Nat.lt_of_lt_of_le zc5.lt Kc20.1) r21_0)) nin0))).keep Kc30 nin0).keep Kc31 (ninS nc30 (ninS (Nat.ne_of_lt (Nat.lt_of_lt_of_le (Nat.lt_of_lt_of_le zc5.lt Kc20.1) r21_0)) nin0))).keep Kc35 nin0).keep Kc36 (ninS nc30 (ninS (Nat.ne_of_lt (Nat.lt_of_lt_of_le (Nat.lt_of_lt_of_le zc5.lt Kc20.1) r21_0)) nin0))).ext E37).keep Kc38 (ninS (Nat.ne_of_lt (Nat.lt_of_lt_of_le (Nat.lt_of_lt_of_le (Nat.lt_of_lt_of_le (Nat.lt_of_lt_of_le (Nat.lt_of_lt_of_le (Nat.lt_of_lt_of_le (Nat.lt_of_lt_of_le (Nat.lt_of_lt_of_le (Nat.lt_of_lt_of_le zc5.lt Kc20.1) Kc21.1) Kc25.1) Kc26.1) Kc30.1) Kc31.1) Kc35.1) Kc36.1) (Nat.le_of_eq g37.symm))) nin0)).other W39 (Or.inr (slot_ne (Or.inr (own_w hw 35 rfl)) (Or.inl (own_w hw 112 rfl)) (by decide) (t := (.object "java/util/List")) (t' := (.object "com/example/kneiphof/kneiphof/Partitioning")) (by decide) (by decide)))), (((((((((((zc8.keep Kc20 nin0).keep Kc21 (ninS nc30 nin0)).keep Kc25 nin0).keep Kc26 (ninS nc30 (ninS (Nat.ne_of_lt (Nat.lt_of_lt_of_le (Nat.lt_of_lt_of_le zc5.lt Kc20.1) r21_0)) nin0))).keep Kc30 nin0).keep Kc31 (ninS nc30 (ninS (Nat.ne_of_lt (Nat.lt_of_lt_of_le (Nat.lt_of_lt_of_le zc5.lt Kc20.1) r21_0)) nin0))).keep Kc35 nin0).keep Kc36 (ninS nc30 (ninS (Nat.ne_of_lt (Nat.lt_of_lt_of_le (Nat.lt_of_lt_of_le zc5.lt Kc20.1) r21_0)) nin0))).ext E37).keep Kc38 (ninS (Nat.ne_of_lt (Nat.lt_of_lt_of_le (Nat.lt_of_lt_of_le (Nat.lt_of_lt_of_le (Nat.lt_of_lt_of_le (Nat.lt_of_lt_of_le (Nat.lt_of_lt_of_le (Nat.lt_of_lt_of_le (Nat.lt_of_lt_of_le (Nat.lt_of_lt_of_le zc5.lt Kc20.1) Kc21.1) Kc25.1) Kc26.1) Kc30.1) Kc31.1) Kc35.1) Kc36.1) (Nat.le_of_eq g37.symm))) nin0)).other W39 (Or.inr (slot_ne (Or.inr (own_w hw 39 rfl)) (Or.inl (own_w hw 112 rfl)) (by decide) (t := .int) (t' := (.object "com/example/kneiphof/kneiphof/Partitioning")) (by decide) (by decide)))), (((((((((((zc16.keep Kc20 nin0).keep Kc21 (ninS (Ne.symm nc28) nin0)).keep Kc25 nin0).keep Kc26 (ninS (Ne.symm nc28) (ninS (Nat.ne_of_lt (Nat.lt_of_lt_of_le (Nat.lt_of_lt_of_le zc16.lt Kc20.1) r21_0)) nin0))).keep Kc30 nin0).keep Kc31 (ninS (Ne.symm nc28) (ninS (Nat.ne_of_lt (Nat.lt_of_lt_of_le (Nat.lt_of_lt_of_le zc16.lt Kc20.1) r21_0)) nin0))).keep Kc35 nin0).keep Kc36 (ninS (Ne.symm nc28) (ninS (Nat.ne_of_lt (Nat.lt_of_lt_of_le (Nat.lt_of_lt_of_le zc16.lt Kc20.1) r21_0)) nin0))).ext E37).keep Kc38 (ninS (Nat.ne_of_lt (Nat.lt_of_lt_of_le (Nat.lt_of_lt_of_le (Nat.lt_of_lt_of_le (Nat.lt_of_lt_of_le (Nat.lt_of_lt_of_le (Nat.lt_of_lt_of_le (Nat.lt_of_lt_of_le (Nat.lt_of_lt_of_le (Nat.lt_of_lt_of_le zc16.lt Kc20.1) Kc21.1) Kc25.1) Kc26.1) Kc30.1) Kc31.1) Kc35.1) Kc36.1) (Nat.le_of_eq g37.symm))) nin0)).other W39 (Ne.symm nc26)), (((((((((((zc17.keep Kc20 nin0).keep Kc21 (ninS (Ne.symm nc29) nin0)).keep Kc25 nin0).keep Kc26 (ninS (Ne.symm nc29) (ninS (Nat.ne_of_lt (Nat.lt_of_lt_of_le (Nat.lt_of_lt_of_le zc17.lt Kc20.1) r21_0)) nin0))).keep Kc30 nin0).keep Kc31 (ninS (Ne.symm nc29) (ninS (Nat.ne_of_lt (Nat.lt_of_lt_of_le (Nat.lt_of_lt_of_le zc17.lt Kc20.1) r21_0)) nin0))).keep Kc35 nin0).keep Kc36 (ninS (Ne.symm nc29) (ninS (Nat.ne_of_lt (Nat.lt_of_lt_of_le (Nat.lt_of_lt_of_le zc17.lt Kc20.1) r21_0)) nin0))).ext E37).keep Kc38 (ninS (Nat.ne_of_lt (Nat.lt_of_lt_of_le (Nat.lt_of_lt_of_le (Nat.lt_of_lt_of_le (Nat.lt_of_lt_of_le (Nat.lt_of_lt_of_le (Nat.lt_of_lt_of_le (Nat.lt_of_lt_of_le (Nat.lt_of_lt_of_le (Nat.lt_of_lt_of_le zc17.lt Kc20.1) Kc21.1) Kc25.1) Kc26.1) Kc30.1) Kc31.1) Kc35.1) Kc36.1) (Nat.le_of_eq g37.symm))) nin0)).other W39 (Ne.symm nc27)), (((((((((((zc12.keep Kc20).keep Kc21).keep Kc25).keep Kc26).keep Kc30).keep Kc31).keep Kc35).keep Kc36).ext E37).keep Kc38).wr W39), (((r36_1.ext E37).keep Kc38 (ninS (Nat.ne_of_lt (Nat.lt_of_lt_of_le r36_1.lt (Nat.le_of_eq g37.symm))) nin0)).other W39 (Or.inl (Ne.symm nc30))), (((r36_2.ext E37).keep Kc38 (ninS (Nat.ne_of_lt (Nat.lt_of_lt_of_le r36_1.lt (Nat.le_of_eq g37.symm))) nin0)).other W39 (Or.inl (Ne.symm nc30))), (((r36_3.ext E37).keep Kc38 (ninS (Nat.ne_of_lt (Nat.lt_of_lt_of_le r36_1.lt (Nat.le_of_eq g37.symm))) nin0)).other W39 (Or.inl (Ne.symm nc30))), (((r36_0.ext E37).keep Kc38 (ninS (Nat.ne_of_lt (Nat.lt_of_lt_of_le r36_0.lt (Nat.le_of_eq g37.symm))) nin0)).other W39 (Ne.symm (Nat.ne_of_lt (Nat.lt_of_lt_of_le (Nat.lt_of_lt_of_le zc5.lt Kc20.1) r21_0)))), r21_2, nc25, (Ne.symm nc28), (Nat.ne_of_lt (Nat.lt_of_lt_of_le (Nat.lt_of_lt_of_le zc16.lt Kc20.1) r21_0)), (Ne.symm nc29), (Nat.ne_of_lt (Nat.lt_of_lt_of_le (Nat.lt_of_lt_of_le zc17.lt Kc20.1) r21_0)), (Nat.ne_of_lt (Nat.lt_of_lt_of_le (Nat.lt_of_lt_of_le zc12.lt Kc20.1) r21_0)), r20_0, (by have q := r20_1; rw [own_a0] at q; exact q), r25_0, r25_1, r30_0, r30_1, r35_0, r35_1, hvw, hvu, (own_eqp hpr (by omega)), hfc⟩
  | succ k_ ih =>
    intro Tc Hc locsc i vw vu Xc ec Nc Kc0 Oc zc0 zc1 zc2 zc3 zc4 zc5 zc6 zc7 zc8 zc9 zc10 zc11 zc12 zc13 zc14 zc15 zc16 zc17 gc18 gc19 sc20 gc21 sc22 gc23 sc24 nc25 nc26 nc27 nc28 nc29 nc30 hbx hn hfc hms hi0 hvw hvu hpr
    have hlt : i < (n * (4 : Int32)) := own_lt (by omega)
    refine own_go (A := Tc.setTop (mkF m 61 #[.val (.ref a), .val (.int n), .val (.int (4 : Int32)), .val (.int (4 : Int32)), .val (.int i)] [(.ref a), (.int i)])) (fun t_ k_ => ?_) ?_
    · show Steps p.tables e below (Tc.setTop (mkF m 58 #[.val (.ref a), .val (.int n), .val (.int (4 : Int32)), .val (.int (4 : Int32)), .val (.int i)] [])) t_
      refine XS.iload Xc.here hx rfl (hb hby d1_58) rfl ?_
      refine XS.aloadN Xc.here hx rfl (hb hby d1_60) rfl rfl ?_
      exact k_
    obtain ⟨T41, X41, e41, st41⟩ := getF Xc hx hZ hown (host := "") (Or.inl (own_w hw 41 rfl)) Via.refl ec zc9 (g := (mkF m 61 #[.val (.ref a), .val (.int n), .val (.int (4 : Int32)), .val (.int (4 : Int32)), .val (.int i)] [(.ref a), (.int i)])) rfl rfl (hb hby d1_61)
    refine own_go st41 ?_
    obtain ⟨cl42, Ar42, q42, S42, M42, H42, G42⟩ := id zc16
    refine own_go (A := T41.setTop (mkF m 69 #[.val (.ref a), .val (.int n), .val (.int (4 : Int32)), .val (.int (4 : Int32)), .val (.int i)] [(.ref a)])) (fun t_ k_ => ?_) ?_
    · show Steps p.tables e below (T41.setTop (mkF m 64 #[.val (.ref a), .val (.int n), .val (.int (4 : Int32)), .val (.int (4 : Int32)), .val (.int i)] [(.ref b7), (.int i)])) t_
      refine X41.arraylength hx (by rw [e41]; exact Ar42.1) (State.isArrayOf_alike hZ.alike Ar42.2.1) (g := (mkF m 64 #[.val (.ref a), .val (.int n), .val (.int (4 : Int32)), .val (.int (4 : Int32)), .val (.int i)] [(.ref b7), (.int i)])) rfl rfl (hb hby d1_64) _ ?_
      rw [len_of S42 M42]
      refine XS.icmpNo X41.here hx rfl (hb hby d1_65) rfl (tlt hlt).2.1 ?_
      refine XS.aloadN X41.here hx rfl (hb hby d1_68) rfl rfl ?_
      exact k_
    obtain ⟨T43, X43, e43, st43⟩ := getF X41 hx hZ hown (host := "") (Or.inl (own_w hw 41 rfl)) Via.refl e41 zc9 (g := (mkF m 69 #[.val (.ref a), .val (.int n), .val (.int (4 : Int32)), .val (.int (4 : Int32)), .val (.int i)] [(.ref a)])) rfl rfl (hb hby d1_69)
    refine own_go st43 ?_
    refine own_go (A := T43.setTop (mkF m 76 #[.val (.ref a), .val (.int n), .val (.int (4 : Int32)), .val (.int (4 : Int32)), .val (.int i)] [(.int i), (.int i), (.ref b7)])) (fun t_ k_ => ?_) ?_
    · show Steps p.tables e below (T43.setTop (mkF m 72 #[.val (.ref a), .val (.int n), .val (.int (4 : Int32)), .val (.int (4 : Int32)), .val (.int i)] [(.ref b7)])) t_
      refine XS.iload X43.here hx rfl (hb hby d1_72) rfl ?_
      refine XS.iload X43.here hx rfl (hb hby d1_74) rfl ?_
      exact k_
    obtain ⟨cl44, Ar44, q44, S44, M44, H44, G44⟩ := id zc16
    have hin44 : ¬ (i < 0 ∨ cl44.slots.size ≤ (i).toNatClampNeg) := inb_of S44 ⟨own_n0 hi0, hlt⟩
    obtain ⟨T45, h45, X45, e45, W45, st45⟩ := stI X43 hx hZ e43 Ar44 (j := i) hin44 (g := (mkF m 76 #[.val (.ref a), .val (.int n), .val (.int (4 : Int32)), .val (.int (4 : Int32)), .val (.int i)] [(.int i), (.int i), (.ref b7)])) rfl rfl (hb hby d1_76)
    obtain ⟨vs45, hvs45⟩ : ∃ z_ : List Value, z_ = (vw.set (i).toNatClampNeg (.int i)) := ⟨_, rfl⟩
    have B45 : Arv Z h45 b7 k7 .int (n * (4 : Int32)) vs45 (.int (0 : Int32)) := hvs45 ▸ Arv.set Ar44 q44 S44 M44 H44 G44 rfl W45 _ rfl (own_ln hi0 hlt hvw)
    refine own_go st45 ?_
    have K45 : Keep h0 h45 [a] := Kc0.wr W45 (Or.inr sc20)
    have O45 := Oc.wr W45 gc19
    have N45 := Fr.snoc X45 Nc gc19
    refine own_go (A := T45.setTop (mkF m 78 #[.val (.ref a), .val (.int n), .val (.int (4 : Int32)), .val (.int (4 : Int32)), .val (.int i)] [(.ref a)])) (fun t_ k_ => ?_) ?_
    · show Steps p.tables e below (T45.setTop (mkF m 77 #[.val (.ref a), .val (.int n), .val (.int (4 : Int32)), .val (.int (4 : Int32)), .val (.int i)] [])) t_
      refine XS.aloadN X45.here hx rfl (hb hby d1_77) rfl rfl ?_
      exact k_
    obtain ⟨T46, X46, e46, st46⟩ := getF X45 hx hZ hown (host := "") (Or.inl (own_w hw 43 rfl)) Via.refl e45 (zc10.other W45 (Or.inl nc26)) (g := (mkF m 78 #[.val (.ref a), .val (.int n), .val (.int (4 : Int32)), .val (.int (4 : Int32)), .val (.int i)] [(.ref a)])) rfl rfl (hb hby d1_78)
    refine own_go st46 ?_
    refine own_go (A := T46.setTop (mkF m 85 #[.val (.ref a), .val (.int n), .val (.int (4 : Int32)), .val (.int (4 : Int32)), .val (.int i)] [(.int i), (.int i), (.ref b11)])) (fun t_ k_ => ?_) ?_
    · show Steps p.tables e below (T46.setTop (mkF m 81 #[.val (.ref a), .val (.int n), .val (.int (4 : Int32)), .val (.int (4 : Int32)), .val (.int i)] [(.ref b11)])) t_
      refine XS.iload X46.here hx rfl (hb hby d1_81) rfl ?_
      refine XS.iload X46.here hx rfl (hb hby d1_83) rfl ?_
      exact k_
    obtain ⟨cl47, Ar47, q47, S47, M47, H47, G47⟩ := id (zc17.other W45 (Ne.symm nc25))
    have hin47 : ¬ (i < 0 ∨ cl47.slots.size ≤ (i).toNatClampNeg) := inb_of S47 ⟨own_n0 hi0, own_lt (by have q := Int32.lt_iff_toInt_lt.mp hlt; have h1 := own_nr4 hn; have h2 := own_ns4 hn; omega)⟩
    obtain ⟨T48, h48, X48, e48, W48, st48⟩ := stI X46 hx hZ e46 Ar47 (j := i) hin47 (g := (mkF m 85 #[.val (.ref a), .val (.int n), .val (.int (4 : Int32)), .val (.int (4 : Int32)), .val (.int i)] [(.int i), (.int i), (.ref b11)])) rfl rfl (hb hby d1_85)
    obtain ⟨vs48, hvs48⟩ : ∃ z_ : List Value, z_ = (vu.set (i).toNatClampNeg (.int i)) := ⟨_, rfl⟩
    have B48 : Arv Z h48 b11 k11 .int ((n * (4 : Int32)) + (4 : Int32)) vs48 (.int (0 : Int32)) := hvs48 ▸ Arv.set Ar47 q47 S47 M47 H47 G47 rfl W48 _ rfl (own_ln hi0 (own_lt (by have q := Int32.lt_iff_toInt_lt.mp hlt; have h1 := own_nr4 hn; have h2 := own_ns4 hn; omega)) hvu)
    refine own_go st48 ?_
    have K48 : Keep h0 h48 [a] := K45.wr W48 (Or.inr sc22)
    have O48 := O45.wr W48 gc21
    have N48 := Fr.snoc X48 N45 gc21
    refine own_go (A := T48.setTop (mkF m 58 #[.val (.ref a), .val (.int n), .val (.int (4 : Int32)), .val (.int (4 : Int32)), .val (.int (i + (1 : Int32)))] [])) (fun t_ k_ => ?_) ?_
    · show Steps p.tables e below (T48.setTop (mkF m 86 #[.val (.ref a), .val (.int n), .val (.int (4 : Int32)), .val (.int (4 : Int32)), .val (.int i)] [])) t_
      refine XS.iinc X48.here hx rfl (hb hby d1_86) rfl (l' := #[.val (.ref a), .val (.int n), .val (.int (4 : Int32)), .val (.int (4 : Int32)), .val (.int (i + (1 : Int32)))]) rfl ?_
      refine XS.goto X48.here hx rfl (pc0 := 89) (pc' := 58) rfl (hb hby d1_89) (by decide) (by decide) ?_
      exact k_
    exact ih T48 h48 _ (i + (1 : Int32)) vs45 vs48 X48 e48 N48 K48 O48 zc0 zc1 zc2 zc3 zc4 ((zc5.wr W45).wr W48) ((zc6.other W45 (Or.inl nc26)).other W48 (Or.inl nc27)) ((zc7.other W45 (Or.inl nc26)).other W48 (Or.inl nc27)) ((zc8.other W45 (Or.inl nc26)).other W48 (Or.inl nc27)) ((zc9.other W45 (Or.inl nc26)).other W48 (Or.inl nc27)) ((zc10.other W45 (Or.inl nc26)).other W48 (Or.inl nc27)) ((zc11.other W45 (Or.inl nc26)).other W48 (Or.inl nc27)) ((zc12.wr W45).wr W48) ((zc13.other W45 (Or.inl nc28)).other W48 (Or.inl nc29)) ((zc14.other W45 (Or.inl nc28)).other W48 (Or.inl nc29)) ((zc15.other W45 (Or.inl nc28)).other W48 (Or.inl nc29)) (B45.other W48 nc25) B48 gc18 gc19 sc20 gc21 sc22 gc23 sc24 nc25 nc26 nc27 nc28 nc29 nc30 hbx hn hfc (by rw [own_inc hi0 hlt]; omega) (by rw [own_inc hi0 hlt]; omega) (by rw [hvs45, List.length_set]; exact hvw) (by rw [hvs48, List.length_set]; exact hvu) (by rw [hvs45]; exact own_pset hi0 hlt hvw hpr)
theorem ef_rmIni4 (m : MethodId) (a : Addr) (n : Int32) : entryFrame m #[(.ref a), (.int n), (.int (4 : Int32)), (.int (4 : Int32))] 5 = mkF m 0 #[.val (.ref a), .val (.int n), .val (.int (4 : Int32)), .val (.int (4 : Int32)), .unset] [] := by first | (simp [entryFrame, mkF, argsToLocals, Value.category]; done) | rfl
set_option maxRecDepth 65536 in
set_option maxHeartbeats 40000000 in
theorem rmIni4 (l : Launch) (Z : State) (a0 : Array Value) (hw : ∀ d ∈ tables_1, d.before a0 Z = true) (ws : List Jvm.Cond) (a : Addr) (n : Int32) (dc : Addr) (kd : ClassId) (ca : Addr) (bxc : Cell) (el : Addr) (h0 : Heap) (n0 : Nat) (Z0 : n0 ≤ h0.size) (O0 : Old Z n0 h0) (u1 : Sta Z Z.heap "java/util/ArrayList" "DEFAULTCAPACITY_EMPTY_ELEMENTDATA" "[Ljava/lang/Object;" (.ref dc)) (u2 : Arv Z Z.heap dc kd (.object "java/lang/Object") (0 : Int32) [] .null) (u3 : Sta Z Z.heap "java/lang/Integer$IntegerCache" "high" "I" (.int (127 : Int32))) (u4 : Sta Z Z.heap "java/lang/Integer$IntegerCache" "cache" "[Ljava/lang/Integer;" (.ref ca)) (hbx : Bxs Z ca bxc "java/lang/Integer" "I" (256 : Int32) own_bval) (u6 : Sta Z Z.heap "java/util/ImmutableCollections" "EMPTY_LIST" "Ljava/util/ImmutableCollections$ListN;" (.ref el)) (u7 : Exa Z h0 a "com/example/kneiphof/kneiphof/Assignment") (u8 : Fld Z h0 a "com/example/kneiphof/kneiphof/Assignment" "spares" "Ljava/util/List;" .null) (u9 : Fld Z h0 a "com/example/kneiphof/kneiphof/Assignment" "partitions" "I" (.int (0 : Int32))) (u10 : Fld Z h0 a "com/example/kneiphof/kneiphof/Assignment" "replicas" "I" (.int (0 : Int32))) (u11 : Fld Z h0 a "com/example/kneiphof/kneiphof/Assignment" "workers" "[I" .null) (u12 : Fld Z h0 a "com/example/kneiphof/kneiphof/Assignment" "slots" "[I" .null) (u13 : Fld Z h0 a "com/example/kneiphof/kneiphof/Assignment" "partitioning" "Lcom/example/kneiphof/kneiphof/Partitioning;" .null) (u14 : n0 ≤ a) (hn : 1 ≤ n.toInt ∧ n.toInt ≤ 4) :
    MetFree l own_y14 (head1 (Jvm.Cond.code own_y14 prog_5_method_1_code 5 none :: ws) ({ frames := 5, cells := 5, slots := 51, locals := 69 } : Room)) (fun a_ U_ => a_ = #[(.ref a), (.int n), (.int (4 : Int32)), (.int (4 : Int32))] ∧ Z.Warmed39 U_.vm ∧ U_.heap = h0) (fun _ _ _ _ _ => True) (fun _ U_ o_ U2_ => ∃ v_ L_, o_ = .returned v_ ∧ Q_rmIni4 Z a n dc kd ca bxc el h0 n0 v_ U2_.heap L_ ∧ FrameEnd U_ o_ U2_ L_ ({ frames := 5, cells := 5, slots := 51, locals := 69 } : Room).cells ({ frames := 5, cells := 5, slots := 51, locals := 69 } : Room).slots) := by
  refine MetFree.of_bodySF (plainFor_of_name pn_7) hisR ?_
  intro p e s m args below meth c s₁ Bd hml0 hP hK
  obtain ⟨rfl, hZ, hh⟩ := hP
  have hx := Bd.exec
  have hby := Bd.bytes
  have hml : c.maxLocals = 5 := hml0
  have hown : s.vm.findClass "com/example/kneiphof/kneiphof/Assignment" = some m.cls := findClass_of_methodNamed Bd.named
  have hnm := (name_of_methodNamed Bd.named Bd.method).1
  have X0 : Stand p l e ({ frames := 5, cells := 5, slots := 51, locals := 69 } : Room) s m #[(.ref a), (.int n), (.int (4 : Int32)), (.int (4 : Int32))] below meth c s₁ [] 0 0 := Stand.of_body Bd
  have e0 : s₁.heap = h0 := by rw [← hh, Bd.state]; rfl
  have N0 := Fr.nil n0
  refine own_go (A := s₁.setTop (mkF m 0 #[.val (.ref a), .val (.int n), .val (.int (4 : Int32)), .val (.int (4 : Int32)), .unset] [])) (fun t_ k_ => castTop (ef_rmIni4 m a n) k_) ?_
  refine own_go (A := s₁.setTop (mkF m 1 #[.val (.ref a), .val (.int n), .val (.int (4 : Int32)), .val (.int (4 : Int32)), .unset] [(.ref a)])) (fun t_ k_ => ?_) ?_
  · show Steps p.tables e below (s₁.setTop (mkF m 0 #[.val (.ref a), .val (.int n), .val (.int (4 : Int32)), .val (.int (4 : Int32)), .unset] [])) t_
    refine XS.aloadN X0.here hx rfl (hb hby d1_0) rfl rfl ?_
    exact k_
  obtain ⟨T1, X1, e1, st1⟩ := initO X0 hx hZ hown (own_w hw 7 rfl) (own_w hw 8 rfl) (own_w hw 9 rfl) e0 (g := (mkF m 1 #[.val (.ref a), .val (.int n), .val (.int (4 : Int32)), .val (.int (4 : Int32)), .unset] [(.ref a)])) rfl (by rw [hml]; rfl) rfl (hb hby d1_1) (by decide) (W := 0) (by show 2 * 0 + _ ≤ _; exact Nat.le_of_eq rfl) (by decide)
  refine own_go st1 ?_
  refine own_go (A := T1.setTop (mkF m 5 #[.val (.ref a), .val (.int n), .val (.int (4 : Int32)), .val (.int (4 : Int32)), .unset] [(.ref a)])) (fun t_ k_ => ?_) ?_
  · show Steps p.tables e below (T1.setTop (mkF m 4 #[.val (.ref a), .val (.int n), .val (.int (4 : Int32)), .val (.int (4 : Int32)), .unset] [])) t_
    refine XS.aloadN X1.here hx rfl (hb hby d1_4) rfl rfl ?_
    exact k_
  obtain ⟨T2, h2, X2, e2, E2, A2, D2, -, st2⟩ := newO X1 hx hZ hown (own_w hw 10 rfl) (own_w hw 11 rfl) (own_w hw 12 rfl) e1 (g := (mkF m 5 #[.val (.ref a), .val (.int n), .val (.int (4 : Int32)), .val (.int (4 : Int32)), .unset] [(.ref a)])) rfl (hb hby d1_5) (by decide) (by decide)
  obtain ⟨b2, g2⟩ : ∃ z, z = h0.size := ⟨_, rfl⟩
  rw [← g2] at A2 D2 st2
  refine own_go st2 ?_
  have K2 : Keep h0 h2 [a] := (Keep.refl h0 [a]).ext E2
  have O2 := O0.ext E2
  have F2_modCount : Fld Z h2 b2 "java/util/AbstractList" "modCount" "I" (.int (0 : Int32)) := D2 (Or.inl (own_w hw 30 rfl)) (ty := .int) (by decide)
  have F2_elementData : Fld Z h2 b2 "java/util/ArrayList" "elementData" "[Ljava/lang/Object;" .null := D2 (Or.inl (own_w hw 33 rfl)) (ty := (.array (.object "java/lang/Object"))) (by decide)
  have F2_size : Fld Z h2 b2 "java/util/ArrayList" "size" "I" (.int (0 : Int32)) := D2 (Or.inl (own_w hw 68 rfl)) (ty := .int) (by decide)
  refine own_go (A := T2.setTop (mkF m 9 #[.val (.ref a), .val (.int n), .val (.int (4 : Int32)), .val (.int (4 : Int32)), .unset] [(.ref b2), (.ref b2), (.ref a)])) (fun t_ k_ => ?_) ?_
  · show Steps p.tables e below (T2.setTop (mkF m 8 #[.val (.ref a), .val (.int n), .val (.int (4 : Int32)), .val (.int (4 : Int32)), .unset] [(.ref b2), (.ref a)])) t_
    refine XS.dup X2.here hx rfl (hb hby d1_8) rfl rfl ?_
    exact k_
  obtain ⟨_, _, ⟨T3, L3, k3, n3⟩, -, X3, ⟨Lc3, hQ3, l3, y3, z3⟩, st3⟩ := X2.specialBack hx (y := own_y3) rfl hown (mvT hZ (own_w hw 13 rfl)) (mvT hZ (own_w hw 14 rfl)) (mvT hZ (own_w hw 15 rfl)) (by decide) (backOf (W := 2) (rmALI l Z a0 hw [] b2 dc h2 n0 (Nat.le_trans Z0 K2.1) O2 u1 A2 F2_elementData F2_size F2_modCount (Nat.le_trans Z0 (Nat.le_of_eq g2.symm))) hZ (own_w hw 15 rfl) (own_w hw 12 rfl) (by decide) (by decide)) (g := (mkF m 9 #[.val (.ref a), .val (.int n), .val (.int (4 : Int32)), .val (.int (4 : Int32)), .unset] [(.ref b2), (.ref b2), (.ref a)])) rfl (by rw [hml]; rfl) (Steps.refl _) (a := b2) (argsL := []) (rest := [(.ref b2), (.ref a)]) (lenOf pd_0 rfl) rfl (by show 2 * 0 + _ ≤ _; exact Nat.le_of_eq rfl) (hb hby d1_9) (fun _ _ => ⟨rfl, e2, (by decide : 1 + 0 ≤ _), (by decide : 3 + 0 ≤ _)⟩)
  dsimp only [Pt.U, Pt.locs, Pt.cells, Pt.slots] at X3 l3 y3 z3 st3 hQ3
  subst l3 y3 z3
  obtain ⟨rfl, N3q, Kc3, r3_0, r3_1, r3_2⟩ := hQ3
  have N3 := Fr.app N0 N3q
  refine own_via st3 ?_
  have K3 : Keep h0 T3.heap [a] := K2.trans Kc3 (allS (P := fun x => x ∈ _ ∨ _ ≤ x) (Or.inr (Nat.le_of_eq g2.symm)) all0)
  have O3 := O2.keep Kc3 (allS (P := fun x => n0 ≤ x) (Nat.le_trans Z0 (Nat.le_of_eq g2.symm)) all0)
  obtain ⟨T4, h4, X4, e4, W4, st4⟩ := putF X3 hx hZ hown (host := "") (Or.inl (own_w hw 34 rfl)) Via.refl rfl ((u8.ext E2).keep Kc3 (ninS (Nat.ne_of_lt (Nat.lt_of_lt_of_le u7.lt (Nat.le_of_eq g2.symm))) nin0)) ((u7.ext E2).keep Kc3) (Or.inr ⟨(own_w hw 35 rfl), rfl, hnm⟩) (own_w hw 2 rfl) (ty := (.object "java/util/List")) (by decide) rfl rfl (g := (mkF m 12 #[.val (.ref a), .val (.int n), .val (.int (4 : Int32)), .val (.int (4 : Int32)), .unset] [(.ref b2), (.ref a)])) rfl rfl (hb hby d1_12)
  have Fw4 : Fld Z h4 a "com/example/kneiphof/kneiphof/Assignment" "spares" "Ljava/util/List;" (.ref b2) := ((u8.ext E2).keep Kc3 (ninS (Nat.ne_of_lt (Nat.lt_of_lt_of_le u7.lt (Nat.le_of_eq g2.symm))) nin0)).same W4
  refine own_go st4 ?_
  have K4 : Keep h0 h4 [a] := K3.wr W4 (Or.inl (List.mem_of_getElem? (i := 0) rfl))
  have O4 := O3.wr W4 u14
  have N4 := Fr.snoc X4 N3 u14
  refine own_go (A := T4.setTop (mkF m 17 #[.val (.ref a), .val (.int n), .val (.int (4 : Int32)), .val (.int (4 : Int32)), .unset] [(.int n), (.ref a)])) (fun t_ k_ => ?_) ?_
  · show Steps p.tables e below (T4.setTop (mkF m 15 #[.val (.ref a), .val (.int n), .val (.int (4 : Int32)), .val (.int (4 : Int32)), .unset] [])) t_
    refine XS.aloadN X4.here hx rfl (hb hby d1_15) rfl rfl ?_
    refine XS.iloadN X4.here hx rfl (hb hby d1_16) rfl ?_
    exact k_
  obtain ⟨T5, h5, X5, e5, W5, st5⟩ := putF X4 hx hZ hown (host := "") (Or.inl (own_w hw 36 rfl)) Via.refl e4 (((u9.ext E2).keep Kc3 (ninS (Nat.ne_of_lt (Nat.lt_of_lt_of_le u7.lt (Nat.le_of_eq g2.symm))) nin0)).other W4 (Or.inr (slot_ne (Or.inr (own_w hw 37 rfl)) (Or.inr (own_w hw 35 rfl)) (by decide) (t := .int) (t' := (.object "java/util/List")) (by decide) (by decide)))) (((u7.ext E2).keep Kc3).wr W4) (Or.inr ⟨(own_w hw 37 rfl), rfl, hnm⟩) (own_w hw 2 rfl) (ty := .int) (by decide) rfl rfl (g := (mkF m 17 #[.val (.ref a), .val (.int n), .val (.int (4 : Int32)), .val (.int (4 : Int32)), .unset] [(.int n), (.ref a)])) rfl rfl (hb hby d1_17)
  have Fw5 : Fld Z h5 a "com/example/kneiphof/kneiphof/Assignment" "partitions" "I" (.int n) := (((u9.ext E2).keep Kc3 (ninS (Nat.ne_of_lt (Nat.lt_of_lt_of_le u7.lt (Nat.le_of_eq g2.symm))) nin0)).other W4 (Or.inr (slot_ne (Or.inr (own_w hw 37 rfl)) (Or.inr (own_w hw 35 rfl)) (by decide) (t := .int) (t' := (.object "java/util/List")) (by decide) (by decide)))).same W5
  refine own_go st5 ?_
  have K5 : Keep h0 h5 [a] := K4.wr W5 (Or.inl (List.mem_of_getElem? (i := 0) rfl))
  have O5 := O4.wr W5 u14
  have N5 := Fr.snoc X5 N4 u14
  refine own_go (A := T5.setTop (mkF m 22 #[.val (.ref a), .val (.int n), .val (.int (4 : Int32)), .val (.int (4 : Int32)), .unset] [(.int (4 : Int32)), (.ref a)])) (fun t_ k_ => ?_) ?_
  · show Steps p.tables e below (T5.setTop (mkF m 20 #[.val (.ref a), .val (.int n), .val (.int (4 : Int32)), .val (.int (4 : Int32)), .unset] [])) t_
    refine XS.aloadN X5.here hx rfl (hb hby d1_20) rfl rfl ?_
    refine XS.iloadN X5.here hx rfl (hb hby d1_21) rfl ?_
    exact k_
  obtain ⟨T6, h6, X6, e6, W6, st6⟩ := putF X5 hx hZ hown (host := "") (Or.inl (own_w hw 38 rfl)) Via.refl e5 ((((u10.ext E2).keep Kc3 (ninS (Nat.ne_of_lt (Nat.lt_of_lt_of_le u7.lt (Nat.le_of_eq g2.symm))) nin0)).other W4 (Or.inr (slot_ne (Or.inr (own_w hw 39 rfl)) (Or.inr (own_w hw 35 rfl)) (by decide) (t := .int) (t' := (.object "java/util/List")) (by decide) (by decide)))).other W5 (Or.inr (slot_ne (Or.inr (own_w hw 39 rfl)) (Or.inr (own_w hw 37 rfl)) (by decide) (t := .int) (t' := .int) (by decide) (by decide)))) ((((u7.ext E2).keep Kc3).wr W4).wr W5) (Or.inr ⟨(own_w hw 39 rfl), rfl, hnm⟩) (own_w hw 2 rfl) (ty := .int) (by decide) rfl rfl (g := (mkF m 22 #[.val (.ref a), .val (.int n), .val (.int (4 : Int32)), .val (.int (4 : Int32)), .unset] [(.int (4 : Int32)), (.ref a)])) rfl rfl (hb hby d1_22)
  have Fw6 : Fld Z h6 a "com/example/kneiphof/kneiphof/Assignment" "replicas" "I" (.int (4 : Int32)) := ((((u10.ext E2).keep Kc3 (ninS (Nat.ne_of_lt (Nat.lt_of_lt_of_le u7.lt (Nat.le_of_eq g2.symm))) nin0)).other W4 (Or.inr (slot_ne (Or.inr (own_w hw 39 rfl)) (Or.inr (own_w hw 35 rfl)) (by decide) (t := .int) (t' := (.object "java/util/List")) (by decide) (by decide)))).other W5 (Or.inr (slot_ne (Or.inr (own_w hw 39 rfl)) (Or.inr (own_w hw 37 rfl)) (by decide) (t := .int) (t' := .int) (by decide) (by decide)))).same W6
  refine own_go st6 ?_
  have K6 : Keep h0 h6 [a] := K5.wr W6 (Or.inl (List.mem_of_getElem? (i := 0) rfl))
  have O6 := O5.wr W6 u14
  have N6 := Fr.snoc X6 N5 u14
  refine own_go (A := T6.setTop (mkF m 29 #[.val (.ref a), .val (.int n), .val (.int (4 : Int32)), .val (.int (4 : Int32)), .unset] [(.int (n * (4 : Int32))), (.ref a)])) (fun t_ k_ => ?_) ?_
  · show Steps p.tables e below (T6.setTop (mkF m 25 #[.val (.ref a), .val (.int n), .val (.int (4 : Int32)), .val (.int (4 : Int32)), .unset] [])) t_
    refine XS.aloadN X6.here hx rfl (hb hby d1_25) rfl rfl ?_
    refine XS.iloadN X6.here hx rfl (hb hby d1_26) rfl ?_
    refine XS.iloadN X6.here hx rfl (hb hby d1_27) rfl ?_
    refine XS.imul X6.here hx rfl (hb hby d1_28) rfl ?_
    exact k_
  obtain ⟨T7, h7, k7, X7, e7, E7, A7, fc7, st7⟩ := own_newI X6 hx hZ (own_w hw 40 rfl) e6 (g := (mkF m 29 #[.val (.ref a), .val (.int n), .val (.int (4 : Int32)), .val (.int (4 : Int32)), .unset] [(.int (n * (4 : Int32))), (.ref a)])) rfl (hb hby d1_29) rfl (own_n0 (by rw [own_nr4 hn]; omega)) (cap := 16) (by have h := own_nr4 hn; have q := own_tn (x := (n * (4 : Int32))) (by omega); omega) (by decide) (by decide) (by decide)
  obtain ⟨b7, g7⟩ : ∃ z, z = h6.size := ⟨_, rfl⟩
  rw [← g7] at A7 st7
  refine own_go st7 ?_
  have K7 : Keep h0 h7 [a] := K6.ext E7
  have O7 := O6.ext E7
  obtain ⟨vs7, hvs7⟩ : ∃ z_ : List Value, z_ = List.replicate ((n * (4 : Int32))).toNatClampNeg (.int (0 : Int32)) := ⟨_, rfl⟩
  have B7 : Arv Z h7 b7 k7 .int (n * (4 : Int32)) vs7 (.int (0 : Int32)) := hvs7 ▸ (Arv.new A7 (own_n0 (by rw [own_nr4 hn]; omega))).pad (pad_rep [] (.int (0 : Int32)) _)
  have ln7 : vs7.length = ((n * (4 : Int32))).toNatClampNeg := by rw [hvs7]; exact List.length_replicate
  obtain ⟨T8, h8, X8, e8, W8, st8⟩ := putF X7 hx hZ hown (host := "") (Or.inl (own_w hw 41 rfl)) Via.refl e7 ((((((u11.ext E2).keep Kc3 (ninS (Nat.ne_of_lt (Nat.lt_of_lt_of_le u7.lt (Nat.le_of_eq g2.symm))) nin0)).other W4 (Or.inr (slot_ne (Or.inr (own_w hw 42 rfl)) (Or.inr (own_w hw 35 rfl)) (by decide) (t := (.array .int)) (t' := (.object "java/util/List")) (by decide) (by decide)))).other W5 (Or.inr (slot_ne (Or.inr (own_w hw 42 rfl)) (Or.inr (own_w hw 37 rfl)) (by decide) (t := (.array .int)) (t' := .int) (by decide) (by decide)))).other W6 (Or.inr (slot_ne (Or.inr (own_w hw 42 rfl)) (Or.inr (own_w hw 39 rfl)) (by decide) (t := (.array .int)) (t' := .int) (by decide) (by decide)))).ext E7) ((((((u7.ext E2).keep Kc3).wr W4).wr W5).wr W6).ext E7) (Or.inr ⟨(own_w hw 42 rfl), rfl, hnm⟩) (own_w hw 2 rfl) (ty := (.array .int)) (by decide) rfl rfl (g := (mkF m 31 #[.val (.ref a), .val (.int n), .val (.int (4 : Int32)), .val (.int (4 : Int32)), .unset] [(.ref b7), (.ref a)])) rfl rfl (hb hby d1_31)
  have Fw8 : Fld Z h8 a "com/example/kneiphof/kneiphof/Assignment" "workers" "[I" (.ref b7) := ((((((u11.ext E2).keep Kc3 (ninS (Nat.ne_of_lt (Nat.lt_of_lt_of_le u7.lt (Nat.le_of_eq g2.symm))) nin0)).other W4 (Or.inr (slot_ne (Or.inr (own_w hw 42 rfl)) (Or.inr (own_w hw 35 rfl)) (by decide) (t := (.array .int)) (t' := (.object "java/util/List")) (by decide) (by decide)))).other W5 (Or.inr (slot_ne (Or.inr (own_w hw 42 rfl)) (Or.inr (own_w hw 37 rfl)) (by decide) (t := (.array .int)) (t' := .int) (by decide) (by decide)))).other W6 (Or.inr (slot_ne (Or.inr (own_w hw 42 rfl)) (Or.inr (own_w hw 39 rfl)) (by decide) (t := (.array .int)) (t' := .int) (by decide) (by decide)))).ext E7).same W8
  refine own_go st8 ?_
  have K8 : Keep h0 h8 [a] := K7.wr W8 (Or.inl (List.mem_of_getElem? (i := 0) rfl))
  have O8 := O7.wr W8 u14
  have N8 := Fr.snoc X8 N6 u14
  refine own_go (A := T8.setTop (mkF m 36 #[.val (.ref a), .val (.int n), .val (.int (4 : Int32)), .val (.int (4 : Int32)), .unset] [(.ref a), (.ref a)])) (fun t_ k_ => ?_) ?_
  · show Steps p.tables e below (T8.setTop (mkF m 34 #[.val (.ref a), .val (.int n), .val (.int (4 : Int32)), .val (.int (4 : Int32)), .unset] [])) t_
    refine XS.aloadN X8.here hx rfl (hb hby d1_34) rfl rfl ?_
    refine XS.aloadN X8.here hx rfl (hb hby d1_35) rfl rfl ?_
    exact k_
  obtain ⟨T9, X9, e9, st9⟩ := getF X8 hx hZ hown (host := "") (Or.inl (own_w hw 41 rfl)) Via.refl e8 Fw8 (g := (mkF m 36 #[.val (.ref a), .val (.int n), .val (.int (4 : Int32)), .val (.int (4 : Int32)), .unset] [(.ref a), (.ref a)])) rfl rfl (hb hby d1_36)
  refine own_go st9 ?_
  obtain ⟨cl10, Ar10, q10, S10, M10, H10, G10⟩ := id (B7.other W8 (Ne.symm (Nat.ne_of_lt (Nat.lt_of_lt_of_le Fw6.lt (Nat.le_of_eq g7.symm)))))
  refine own_go (A := T9.setTop (mkF m 42 #[.val (.ref a), .val (.int n), .val (.int (4 : Int32)), .val (.int (4 : Int32)), .unset] [(.int ((n * (4 : Int32)) + (4 : Int32))), (.ref a)])) (fun t_ k_ => ?_) ?_
  · show Steps p.tables e below (T9.setTop (mkF m 39 #[.val (.ref a), .val (.int n), .val (.int (4 : Int32)), .val (.int (4 : Int32)), .unset] [(.ref b7), (.ref a)])) t_
    refine X9.arraylength hx (by rw [e9]; exact Ar10.1) (State.isArrayOf_alike hZ.alike Ar10.2.1) (g := (mkF m 39 #[.val (.ref a), .val (.int n), .val (.int (4 : Int32)), .val (.int (4 : Int32)), .unset] [(.ref b7), (.ref a)])) rfl rfl (hb hby d1_39) _ ?_
    rw [len_of S10 M10]
    refine XS.iloadN X9.here hx rfl (hb hby d1_40) rfl ?_
    refine XS.iadd X9.here hx rfl (hb hby d1_41) rfl ?_
    exact k_
  obtain ⟨T11, h11, k11, X11, e11, E11, A11, st11⟩ := newP X9 hx hZ (own_w hw 40 rfl) e9 (g := (mkF m 42 #[.val (.ref a), .val (.int n), .val (.int (4 : Int32)), .val (.int (4 : Int32)), .unset] [(.int ((n * (4 : Int32)) + (4 : Int32))), (.ref a)])) rfl (hb hby d1_42) rfl (own_n0 (by rw [own_ns4 hn]; omega)) (cap := 20) (by have h := own_ns4 hn; have q := own_tn (x := ((n * (4 : Int32)) + (4 : Int32))) (by omega); omega) (by decide) (by decide) (by decide)
  obtain ⟨b11, g11⟩ : ∃ z, z = h8.size := ⟨_, rfl⟩
  rw [← g11] at A11 st11
  refine own_go st11 ?_
  have K11 : Keep h0 h11 [a] := K8.ext E11
  have O11 := O8.ext E11
  obtain ⟨vs11, hvs11⟩ : ∃ z_ : List Value, z_ = List.replicate (((n * (4 : Int32)) + (4 : Int32))).toNatClampNeg (.int (0 : Int32)) := ⟨_, rfl⟩
  have B11 : Arv Z h11 b11 k11 .int ((n * (4 : Int32)) + (4 : Int32)) vs11 (.int (0 : Int32)) := hvs11 ▸ (Arv.new A11 (own_n0 (by rw [own_ns4 hn]; omega))).pad (pad_rep [] (.int (0 : Int32)) _)
  have ln11 : vs11.length = (((n * (4 : Int32)) + (4 : Int32))).toNatClampNeg := by rw [hvs11]; exact List.length_replicate
  obtain ⟨T12, h12, X12, e12, W12, st12⟩ := putF X11 hx hZ hown (host := "") (Or.inl (own_w hw 43 rfl)) Via.refl e11 ((((((((u12.ext E2).keep Kc3 (ninS (Nat.ne_of_lt (Nat.lt_of_lt_of_le u7.lt (Nat.le_of_eq g2.symm))) nin0)).other W4 (Or.inr (slot_ne (Or.inr (own_w hw 44 rfl)) (Or.inr (own_w hw 35 rfl)) (by decide) (t := (.array .int)) (t' := (.object "java/util/List")) (by decide) (by decide)))).other W5 (Or.inr (slot_ne (Or.inr (own_w hw 44 rfl)) (Or.inr (own_w hw 37 rfl)) (by decide) (t := (.array .int)) (t' := .int) (by decide) (by decide)))).other W6 (Or.inr (slot_ne (Or.inr (own_w hw 44 rfl)) (Or.inr (own_w hw 39 rfl)) (by decide) (t := (.array .int)) (t' := .int) (by decide) (by decide)))).ext E7).other W8 (Or.inr (slot_ne (Or.inr (own_w hw 44 rfl)) (Or.inr (own_w hw 42 rfl)) (by decide) (t := (.array .int)) (t' := (.array .int)) (by decide) (by decide)))).ext E11) ((((((((u7.ext E2).keep Kc3).wr W4).wr W5).wr W6).ext E7).wr W8).ext E11) (Or.inr ⟨(own_w hw 44 rfl), rfl, hnm⟩) (own_w hw 2 rfl) (ty := (.array .int)) (by decide) rfl rfl (g := (mkF m 44 #[.val (.ref a), .val (.int n), .val (.int (4 : Int32)), .val (.int (4 : Int32)), .unset] [(.ref b11), (.ref a)])) rfl rfl (hb hby d1_44)
  have Fw12 : Fld Z h12 a "com/example/kneiphof/kneiphof/Assignment" "slots" "[I" (.ref b11) := ((((((((u12.ext E2).keep Kc3 (ninS (Nat.ne_of_lt (Nat.lt_of_lt_of_le u7.lt (Nat.le_of_eq g2.symm))) nin0)).other W4 (Or.inr (slot_ne (Or.inr (own_w hw 44 rfl)) (Or.inr (own_w hw 35 rfl)) (by decide) (t := (.array .int)) (t' := (.object "java/util/List")) (by decide) (by decide)))).other W5 (Or.inr (slot_ne (Or.inr (own_w hw 44 rfl)) (Or.inr (own_w hw 37 rfl)) (by decide) (t := (.array .int)) (t' := .int) (by decide) (by decide)))).other W6 (Or.inr (slot_ne (Or.inr (own_w hw 44 rfl)) (Or.inr (own_w hw 39 rfl)) (by decide) (t := (.array .int)) (t' := .int) (by decide) (by decide)))).ext E7).other W8 (Or.inr (slot_ne (Or.inr (own_w hw 44 rfl)) (Or.inr (own_w hw 42 rfl)) (by decide) (t := (.array .int)) (t' := (.array .int)) (by decide) (by decide)))).ext E11).same W12
  refine own_go st12 ?_
  have K12 : Keep h0 h12 [a] := K11.wr W12 (Or.inl (List.mem_of_getElem? (i := 0) rfl))
  have O12 := O11.wr W12 u14
  have N12 := Fr.snoc X12 N8 u14
  refine own_go (A := T12.setTop (mkF m 48 #[.val (.ref a), .val (.int n), .val (.int (4 : Int32)), .val (.int (4 : Int32)), .unset] [(.ref a)])) (fun t_ k_ => ?_) ?_
  · show Steps p.tables e below (T12.setTop (mkF m 47 #[.val (.ref a), .val (.int n), .val (.int (4 : Int32)), .val (.int (4 : Int32)), .unset] [])) t_
    refine XS.aloadN X12.here hx rfl (hb hby d1_47) rfl rfl ?_
    exact k_
  obtain ⟨T13, X13, e13, st13⟩ := getF X12 hx hZ hown (host := "") (Or.inl (own_w hw 43 rfl)) Via.refl e12 Fw12 (g := (mkF m 48 #[.val (.ref a), .val (.int n), .val (.int (4 : Int32)), .val (.int (4 : Int32)), .unset] [(.ref a)])) rfl rfl (hb hby d1_48)
  refine own_go st13 ?_
  refine own_go (A := T13.setTop (mkF m 52 #[.val (.ref a), .val (.int n), .val (.int (4 : Int32)), .val (.int (4 : Int32)), .unset] [(.int (-1 : Int32)), (.ref b11)])) (fun t_ k_ => ?_) ?_
  · show Steps p.tables e below (T13.setTop (mkF m 51 #[.val (.ref a), .val (.int n), .val (.int (4 : Int32)), .val (.int (4 : Int32)), .unset] [(.ref b11)])) t_
    refine XS.iconst X13.here hx rfl (hb hby d1_51) ?_
    exact k_
  obtain ⟨_, _, ⟨T14, L14, k14, n14⟩, -, X14, ⟨Lc14, hQ14, l14, y14, z14⟩, st14⟩ := Jvm.LawKit.callS X13 hx (y := own_y0) hown (mvT hZ (own_w hw 45 rfl)) (mvT hZ (own_w hw 46 rfl)) (mvT hZ (own_w hw 47 rfl)) (mvT hZ (own_w hw 48 rfl)) (by decide) (backOf (W := 0) (rmFill l Z a0 hw [] b11 (-1 : Int32) k11 ((n * (4 : Int32)) + (4 : Int32)) vs11 h12 n0 (Nat.le_trans Z0 K12.1) (B11.other W12 (Ne.symm (Nat.ne_of_lt (Nat.lt_of_lt_of_le Fw8.lt (Nat.le_of_eq g11.symm))))) (Nat.le_trans Z0 (Nat.le_trans K8.1 (Nat.le_of_eq g11.symm))) ln11 (by rw [own_ns4 hn]; omega)) hZ (own_w hw 48 rfl) (own_w hw 47 rfl) (by decide) (by decide)) (g := (mkF m 52 #[.val (.ref a), .val (.int n), .val (.int (4 : Int32)), .val (.int (4 : Int32)), .unset] [(.int (-1 : Int32)), (.ref b11)])) rfl (by rw [hml]; rfl) (argsL := [(.ref b11), (.int (-1 : Int32))]) (rest := []) (lenOf pd_7 rfl) rfl (by show 2 * 0 + _ ≤ _; exact Nat.le_of_eq rfl) (hb hby d1_52) (fun _ _ => ⟨rfl, e13, (by decide : 3 + 0 ≤ _), (by decide : 39 + 0 ≤ _)⟩)
  dsimp only [Pt.U, Pt.locs, Pt.cells, Pt.slots] at X14 l14 y14 z14 st14 hQ14
  subst l14 y14 z14
  obtain ⟨vr_14, rfl, N14q, Kc14, r14_0, w14_0⟩ := hQ14
  have N14 := Fr.app N12 N14q
  refine own_go st14 ?_
  have K14 : Keep h0 T14.heap [a] := K12.trans Kc14 (allS (P := fun x => x ∈ _ ∨ _ ≤ x) (Or.inr (Nat.le_trans K8.1 (Nat.le_of_eq g11.symm))) all0)
  have O14 := O12.keep Kc14 (allS (P := fun x => n0 ≤ x) (Nat.le_trans Z0 (Nat.le_trans K8.1 (Nat.le_of_eq g11.symm))) all0)
  refine own_go (A := T14.setTop (mkF m 58 #[.val (.ref a), .val (.int n), .val (.int (4 : Int32)), .val (.int (4 : Int32)), .val (.int (0 : Int32))] [])) (fun t_ k_ => ?_) ?_
  · show Steps p.tables e below (T14.setTop (mkF m 55 #[.val (.ref a), .val (.int n), .val (.int (4 : Int32)), .val (.int (4 : Int32)), .unset] [])) t_
    refine XS.iconst X14.here hx rfl (hb hby d1_55) ?_
    refine XS.istore X14.here hx rfl (hb hby d1_56) rfl (l' := #[.val (.ref a), .val (.int n), .val (.int (4 : Int32)), .val (.int (4 : Int32)), .val (.int (0 : Int32))]) rfl ?_
    exact k_
  exact own_ini4 l Z a0 hw a n dc kd ca bxc el b2 b7 b11 k7 k11 h0 n0 Z0 hx hZ hby hml hown Bd.returns (BodyLoose.notSynchronized Bd) hh (((n * (4 : Int32))).toInt).toNat T14 T14.heap _ (0 : Int32) vs7 vr_14 X14 rfl N14 K14 O14 u1 u2 u3 u4 u6 ((((((((((u7.ext E2).keep Kc3).wr W4).wr W5).wr W6).ext E7).wr W8).ext E11).wr W12).keep Kc14) (((((((Fw4.other W5 (Or.inr (slot_ne (Or.inr (own_w hw 35 rfl)) (Or.inr (own_w hw 37 rfl)) (by decide) (t := (.object "java/util/List")) (t' := .int) (by decide) (by decide)))).other W6 (Or.inr (slot_ne (Or.inr (own_w hw 35 rfl)) (Or.inr (own_w hw 39 rfl)) (by decide) (t := (.object "java/util/List")) (t' := .int) (by decide) (by decide)))).ext E7).other W8 (Or.inr (slot_ne (Or.inr (own_w hw 35 rfl)) (Or.inr (own_w hw 42 rfl)) (by decide) (t := (.object "java/util/List")) (t' := (.array .int)) (by decide) (by decide)))).ext E11).other W12 (Or.inr (slot_ne (Or.inr (own_w hw 35 rfl)) (Or.inr (own_w hw 44 rfl)) (by decide) (t := (.object "java/util/List")) (t' := (.array .int)) (by decide) (by decide)))).keep Kc14 (ninS (Nat.ne_of_lt (Nat.lt_of_lt_of_le Fw8.lt (Nat.le_of_eq g11.symm))) nin0)) ((((((Fw5.other W6 (Or.inr (slot_ne (Or.inr (own_w hw 37 rfl)) (Or.inr (own_w hw 39 rfl)) (by decide) (t := .int) (t' := .int) (by decide) (by decide)))).ext E7).other W8 (Or.inr (slot_ne (Or.inr (own_w hw 37 rfl)) (Or.inr (own_w hw 42 rfl)) (by decide) (t := .int) (t' := (.array .int)) (by decide) (by decide)))).ext E11).other W12 (Or.inr (slot_ne (Or.inr (own_w hw 37 rfl)) (Or.inr (own_w hw 44 rfl)) (by decide) (t := .int) (t' := (.array .int)) (by decide) (by decide)))).keep Kc14 (ninS (Nat.ne_of_lt (Nat.lt_of_lt_of_le Fw8.lt (Nat.le_of_eq g11.symm))) nin0)) (((((Fw6.ext E7).other W8 (Or.inr (slot_ne (Or.inr (own_w hw 39 rfl)) (Or.inr (own_w hw 42 rfl)) (by decide) (t := .int) (t' := (.array .int)) (by decide) (by decide)))).ext E11).other W12 (Or.inr (slot_ne (Or.inr (own_w hw 39 rfl)) (Or.inr (own_w hw 44 rfl)) (by decide) (t := .int) (t' := (.array .int)) (by decide) (by decide)))).keep Kc14 (ninS (Nat.ne_of_lt (Nat.lt_of_lt_of_le Fw8.lt (Nat.le_of_eq g11.symm))) nin0)) (((Fw8.ext E11).other W12 (Or.inr (slot_ne (Or.inr (own_w hw 42 rfl)) (Or.inr (own_w hw 44 rfl)) (by decide) (t := (.array .int)) (t' := (.array .int)) (by decide) (by decide)))).keep Kc14 (ninS (Nat.ne_of_lt (Nat.lt_of_lt_of_le Fw8.lt (Nat.le_of_eq g11.symm))) nin0)) (Fw12.keep Kc14 (ninS (Nat.ne_of_lt (Nat.lt_of_lt_of_le Fw8.lt (Nat.le_of_eq g11.symm))) nin0)) ((((((((((u13.ext E2).keep Kc3 (ninS (Nat.ne_of_lt (Nat.lt_of_lt_of_le u7.lt (Nat.le_of_eq g2.symm))) nin0)).other W4 (Or.inr (slot_ne (Or.inl (own_w hw 112 rfl)) (Or.inr (own_w hw 35 rfl)) (by decide) (t := (.object "com/example/kneiphof/kneiphof/Partitioning")) (t' := (.object "java/util/List")) (by decide) (by decide)))).other W5 (Or.inr (slot_ne (Or.inl (own_w hw 112 rfl)) (Or.inr (own_w hw 37 rfl)) (by decide) (t := (.object "com/example/kneiphof/kneiphof/Partitioning")) (t' := .int) (by decide) (by decide)))).other W6 (Or.inr (slot_ne (Or.inl (own_w hw 112 rfl)) (Or.inr (own_w hw 39 rfl)) (by decide) (t := (.object "com/example/kneiphof/kneiphof/Partitioning")) (t' := .int) (by decide) (by decide)))).ext E7).other W8 (Or.inr (slot_ne (Or.inl (own_w hw 112 rfl)) (Or.inr (own_w hw 42 rfl)) (by decide) (t := (.object "com/example/kneiphof/kneiphof/Partitioning")) (t' := (.array .int)) (by decide) (by decide)))).ext E11).other W12 (Or.inr (slot_ne (Or.inl (own_w hw 112 rfl)) (Or.inr (own_w hw 44 rfl)) (by decide) (t := (.object "com/example/kneiphof/kneiphof/Partitioning")) (t' := (.array .int)) (by decide) (by decide)))).keep Kc14 (ninS (Nat.ne_of_lt (Nat.lt_of_lt_of_le Fw8.lt (Nat.le_of_eq g11.symm))) nin0)) (((((((((A2.keep Kc3).wr W4).wr W5).wr W6).ext E7).wr W8).ext E11).wr W12).keep Kc14) ((((((((r3_0.other W4 (Or.inl (Ne.symm (Nat.ne_of_lt (Nat.lt_of_lt_of_le u7.lt (Nat.le_of_eq g2.symm)))))).other W5 (Or.inl (Ne.symm (Nat.ne_of_lt (Nat.lt_of_lt_of_le u7.lt (Nat.le_of_eq g2.symm)))))).other W6 (Or.inl (Ne.symm (Nat.ne_of_lt (Nat.lt_of_lt_of_le u7.lt (Nat.le_of_eq g2.symm)))))).ext E7).other W8 (Or.inl (Ne.symm (Nat.ne_of_lt (Nat.lt_of_lt_of_le u7.lt (Nat.le_of_eq g2.symm)))))).ext E11).other W12 (Or.inl (Ne.symm (Nat.ne_of_lt (Nat.lt_of_lt_of_le u7.lt (Nat.le_of_eq g2.symm)))))).keep Kc14 (ninS (Nat.ne_of_lt (Nat.lt_of_lt_of_le (Nat.lt_of_lt_of_le (Nat.lt_of_lt_of_le (Nat.lt_of_lt_of_le (Nat.lt_of_lt_of_le (Nat.lt_of_lt_of_le r3_0.lt (Keep.of_wr W4).1) (Keep.of_wr W5).1) (Keep.of_wr W6).1) E7.1) (Keep.of_wr W8).1) (Nat.le_of_eq g11.symm))) nin0)) ((((((((r3_1.other W4 (Or.inl (Ne.symm (Nat.ne_of_lt (Nat.lt_of_lt_of_le u7.lt (Nat.le_of_eq g2.symm)))))).other W5 (Or.inl (Ne.symm (Nat.ne_of_lt (Nat.lt_of_lt_of_le u7.lt (Nat.le_of_eq g2.symm)))))).other W6 (Or.inl (Ne.symm (Nat.ne_of_lt (Nat.lt_of_lt_of_le u7.lt (Nat.le_of_eq g2.symm)))))).ext E7).other W8 (Or.inl (Ne.symm (Nat.ne_of_lt (Nat.lt_of_lt_of_le u7.lt (Nat.le_of_eq g2.symm)))))).ext E11).other W12 (Or.inl (Ne.symm (Nat.ne_of_lt (Nat.lt_of_lt_of_le u7.lt (Nat.le_of_eq g2.symm)))))).keep Kc14 (ninS (Nat.ne_of_lt (Nat.lt_of_lt_of_le (Nat.lt_of_lt_of_le (Nat.lt_of_lt_of_le (Nat.lt_of_lt_of_le (Nat.lt_of_lt_of_le (Nat.lt_of_lt_of_le r3_0.lt (Keep.of_wr W4).1) (Keep.of_wr W5).1) (Keep.of_wr W6).1) E7.1) (Keep.of_wr W8).1) (Nat.le_of_eq g11.symm))) nin0)) ((((((((r3_2.other W4 (Or.inl (Ne.symm (Nat.ne_of_lt (Nat.lt_of_lt_of_le u7.lt (Nat.le_of_eq g2.symm)))))).other W5 (Or.inl (Ne.symm (Nat.ne_of_lt (Nat.lt_of_lt_of_le u7.lt (Nat.le_of_eq g2.symm)))))).other W6 (Or.inl (Ne.symm (Nat.ne_of_lt (Nat.lt_of_lt_of_le u7.lt (Nat.le_of_eq g2.symm)))))).ext E7).other W8 (Or.inl (Ne.symm (Nat.ne_of_lt (Nat.lt_of_lt_of_le u7.lt (Nat.le_of_eq g2.symm)))))).ext E11).other W12 (Or.inl (Ne.symm (Nat.ne_of_lt (Nat.lt_of_lt_of_le u7.lt (Nat.le_of_eq g2.symm)))))).keep Kc14 (ninS (Nat.ne_of_lt (Nat.lt_of_lt_of_le (Nat.lt_of_lt_of_le (Nat.lt_of_lt_of_le (Nat.lt_of_lt_of_le (Nat.lt_of_lt_of_le (Nat.lt_of_lt_of_le r3_0.lt (Keep.of_wr W4).1) (Keep.of_wr W5).1) (Keep.of_wr W6).1) E7.1) (Keep.of_wr W8).1) (Nat.le_of_eq g11.symm))) nin0)) ((((B7.other W8 (Ne.symm (Nat.ne_of_lt (Nat.lt_of_lt_of_le Fw6.lt (Nat.le_of_eq g7.symm))))).ext E11).other W12 (Ne.symm (Nat.ne_of_lt (Nat.lt_of_lt_of_le Fw6.lt (Nat.le_of_eq g7.symm))))).keep Kc14 (ninS (Nat.ne_of_lt (Nat.lt_of_lt_of_le (Nat.lt_of_lt_of_le B7.lt (Keep.of_wr W8).1) (Nat.le_of_eq g11.symm))) nin0)) r14_0 u14 (Nat.le_trans Z0 (Nat.le_trans K6.1 (Nat.le_of_eq g7.symm))) (Nat.le_trans K6.1 (Nat.le_of_eq g7.symm)) (Nat.le_trans Z0 (Nat.le_trans K8.1 (Nat.le_of_eq g11.symm))) (Nat.le_trans K8.1 (Nat.le_of_eq g11.symm)) (Nat.le_trans Z0 (Nat.le_of_eq g2.symm)) (Nat.le_of_eq g2.symm) (Nat.ne_of_lt (Nat.lt_of_lt_of_le (Nat.lt_of_lt_of_le B7.lt (Keep.of_wr W8).1) (Nat.le_of_eq g11.symm))) (Nat.ne_of_lt (Nat.lt_of_lt_of_le Fw6.lt (Nat.le_of_eq g7.symm))) (Nat.ne_of_lt (Nat.lt_of_lt_of_le Fw8.lt (Nat.le_of_eq g11.symm))) (Nat.ne_of_lt (Nat.lt_of_lt_of_le (Nat.lt_of_lt_of_le (Nat.lt_of_lt_of_le (Nat.lt_of_lt_of_le r3_0.lt (Keep.of_wr W4).1) (Keep.of_wr W5).1) (Keep.of_wr W6).1) (Nat.le_of_eq g7.symm))) (Nat.ne_of_lt (Nat.lt_of_lt_of_le (Nat.lt_of_lt_of_le (Nat.lt_of_lt_of_le (Nat.lt_of_lt_of_le (Nat.lt_of_lt_of_le (Nat.lt_of_lt_of_le r3_0.lt (Keep.of_wr W4).1) (Keep.of_wr W5).1) (Keep.of_wr W6).1) E7.1) (Keep.of_wr W8).1) (Nat.le_of_eq g11.symm))) (Nat.ne_of_lt (Nat.lt_of_lt_of_le u7.lt (Nat.le_of_eq g2.symm))) hbx hn fc7 (by show (0 : Int) + _ = _; have := own_nr4 hn; omega) (Int.le_refl 0) ln7 w14_0 (fun j hj => absurd hj (by show ¬ ((j : Int) < 0); omega))
theorem d17_0 : decode prog_5_method_6_code 0 = .ok (.iload_n 1, 1) := by decide +kernel
theorem d17_1 : decode prog_5_method_6_code 1 = .ok (.aload_n 0, 1) := by decide +kernel
theorem d17_2 : decode prog_5_method_6_code 2 = .ok (.getfield 20, 3) := by decide +kernel
theorem d17_5 : decode prog_5_method_6_code 5 = .ok (.imul, 1) := by decide +kernel
theorem d17_6 : decode prog_5_method_6_code 6 = .ok (.iload_n 2, 1) := by decide +kernel
theorem d17_7 : decode prog_5_method_6_code 7 = .ok (.iadd, 1) := by decide +kernel
theorem d17_8 : decode prog_5_method_6_code 8 = .ok (.ireturn, 1) := by decide +kernel
abbrev own_y15 : MethodName := ⟨"com/example/kneiphof/kneiphof/Assignment", "slot", "(II)I"⟩
theorem ef_rmSlot (m : MethodId) (a : Addr) (pq : Int32) (ii : Int32) : entryFrame m #[(.ref a), (.int pq), (.int ii)] 3 = mkF m 0 #[.val (.ref a), .val (.int pq), .val (.int ii)] [] := by first | (simp [entryFrame, mkF, argsToLocals, Value.category]; done) | rfl
def Q_rmSlot (Z : State) (a : Addr) (pq : Int32) (ii : Int32) (rr : Int32) (h0 : Heap) (n0 : Nat) (v_ : Option Value) (h_ : Heap) (L_ : List Loc) : Prop := v_ = some (.int ((pq * rr) + ii)) ∧ Fr n0 L_ ∧ h_ = h0
set_option maxRecDepth 65536 in
set_option maxHeartbeats 40000000 in
theorem rmSlot (l : Launch) (Z : State) (a0 : Array Value) (hw : ∀ d ∈ tables_1, d.before a0 Z = true) (ws : List Jvm.Cond) (a : Addr) (pq : Int32) (ii : Int32) (rr : Int32) (h0 : Heap) (n0 : Nat) (Z0 : n0 ≤ h0.size) (u0 : Exa Z h0 a "com/example/kneiphof/kneiphof/Assignment") (u1 : Fld Z h0 a "com/example/kneiphof/kneiphof/Assignment" "replicas" "I" (.int rr)) :
    MetFree l own_y15 (head1 (Jvm.Cond.code own_y15 prog_5_method_6_code 3 (some .int) :: ws) ({ frames := 0, cells := 0, slots := 0, locals := 0 } : Room)) (fun a_ U_ => a_ = #[(.ref a), (.int pq), (.int ii)] ∧ Z.Warmed39 U_.vm ∧ U_.heap = h0) (fun _ _ _ _ _ => True) (fun _ U_ o_ U2_ => ∃ v_ L_, o_ = .returned v_ ∧ Q_rmSlot Z a pq ii rr h0 n0 v_ U2_.heap L_ ∧ FrameEnd U_ o_ U2_ L_ ({ frames := 0, cells := 0, slots := 0, locals := 0 } : Room).cells ({ frames := 0, cells := 0, slots := 0, locals := 0 } : Room).slots) := by
  refine MetFree.of_bodySF (plainFor_of_name pn_7) hisR ?_
  intro p e s m args below meth c s₁ Bd hml0 hP hK
  obtain ⟨rfl, hZ, hh⟩ := hP
  have hx := Bd.exec
  have hby := Bd.bytes
  have hml : c.maxLocals = 3 := hml0
  have hown : s.vm.findClass "com/example/kneiphof/kneiphof/Assignment" = some m.cls := findClass_of_methodNamed Bd.named
  have hnm := (name_of_methodNamed Bd.named Bd.method).1
  have X0 : Stand p l e ({ frames := 0, cells := 0, slots := 0, locals := 0 } : Room) s m #[(.ref a), (.int pq), (.int ii)] below meth c s₁ [] 0 0 := Stand.of_body Bd
  have e0 : s₁.heap = h0 := by rw [← hh, Bd.state]; rfl
  have N0 := Fr.nil n0
  refine own_go (A := s₁.setTop (mkF m 0 #[.val (.ref a), .val (.int pq), .val (.int ii)] [])) (fun t_ k_ => castTop (ef_rmSlot m a pq ii) k_) ?_
  refine own_go (A := s₁.setTop (mkF m 2 #[.val (.ref a), .val (.int pq), .val (.int ii)] [(.ref a), (.int pq)])) (fun t_ k_ => ?_) ?_
  · show Steps p.tables e below (s₁.setTop (mkF m 0 #[.val (.ref a), .val (.int pq), .val (.int ii)] [])) t_
    refine XS.iloadN X0.here hx rfl (hb hby d17_0) rfl ?_
    refine XS.aloadN X0.here hx rfl (hb hby d17_1) rfl rfl ?_
    exact k_
  obtain ⟨T1, X1, e1, st1⟩ := getF X0 hx hZ hown (host := "") (Or.inl (own_w hw 38 rfl)) Via.refl e0 u1 (g := (mkF m 2 #[.val (.ref a), .val (.int pq), .val (.int ii)] [(.ref a), (.int pq)])) rfl rfl (hb hby d17_2)
  refine own_go st1 ?_
  refine own_go (A := T1.setTop (mkF m 8 #[.val (.ref a), .val (.int pq), .val (.int ii)] [(.int ((pq * rr) + ii))])) (fun t_ k_ => ?_) ?_
  · show Steps p.tables e below (T1.setTop (mkF m 5 #[.val (.ref a), .val (.int pq), .val (.int ii)] [(.int rr), (.int pq)])) t_
    refine XS.imul X1.here hx rfl (hb hby d17_5) rfl ?_
    refine XS.iloadN X1.here hx rfl (hb hby d17_6) rfl ?_
    refine XS.iadd X1.here hx rfl (hb hby d17_7) rfl ?_
    exact k_
  obtain ⟨fs2, hr2, hrun2, hended2, hW2, hsame2⟩ := X1.leave (v := some (.int ((pq * rr) + ii))) (fun h => by rw [Bd.returns] at h; cases h)
  refine ⟨_, _, ?_, hrun2, hended2, _, _, rfl, ?_, ⟨_, rfl⟩, hW2, hsame2.mono (by decide) (by decide)⟩
  · exact own_retI X1 hx Bd.returns (hb hby d17_8) hr2
  · show Q_rmSlot Z a pq ii rr h0 n0 _ T1.heap _
    rw [e1]
    exact ⟨rfl, N0, rfl⟩
theorem d16_0 : decode prog_5_method_11_code 0 = .ok (.aload_n 0, 1) := by decide +kernel
theorem d16_1 : decode prog_5_method_11_code 1 = .ok (.getfield 23, 3) := by decide +kernel
theorem d16_4 : decode prog_5_method_11_code 4 = .ok (.aload_n 0, 1) := by decide +kernel
theorem d16_5 : decode prog_5_method_11_code 5 = .ok (.iload_n 1, 1) := by decide +kernel
theorem d16_6 : decode prog_5_method_11_code 6 = .ok (.iconst 0, 1) := by decide +kernel
theorem d16_7 : decode prog_5_method_11_code 7 = .ok (.invokevirtual 57, 3) := by decide +kernel
theorem d16_10 : decode prog_5_method_11_code 10 = .ok (.iaload, 1) := by decide +kernel
theorem d16_11 : decode prog_5_method_11_code 11 = .ok (.iconst (-1), 1) := by decide +kernel
theorem d16_12 : decode prog_5_method_11_code 12 = .ok (.if_icmp .eq 7, 3) := by decide +kernel
theorem d16_19 : decode prog_5_method_11_code 19 = .ok (.iconst 0, 1) := by decide +kernel
theorem d16_20 : decode prog_5_method_11_code 20 = .ok (.ireturn, 1) := by decide +kernel
abbrev own_y16 : MethodName := ⟨"com/example/kneiphof/kneiphof/Assignment", "runs", "(I)Z"⟩
theorem ef_rmRuns0 (m : MethodId) (a : Addr) (pq : Int32) : entryFrame m #[(.ref a), (.int pq)] 2 = mkF m 0 #[.val (.ref a), .val (.int pq)] [] := by first | (simp [entryFrame, mkF, argsToLocals, Value.category]; done) | rfl
def Q_rmRuns0 (Z : State) (a : Addr) (pq : Int32) (rr : Int32) (wk : Addr) (kw : ClassId) (nr : Int32) (vs : List Value) (w : Int32) (h0 : Heap) (n0 : Nat) (v_ : Option Value) (h_ : Heap) (L_ : List Loc) : Prop := v_ = some (.int (0 : Int32)) ∧ Fr n0 L_ ∧ h_ = h0
set_option maxRecDepth 65536 in
set_option maxHeartbeats 40000000 in
theorem rmRuns0 (l : Launch) (Z : State) (a0 : Array Value) (hw : ∀ d ∈ tables_1, d.before a0 Z = true) (ws : List Jvm.Cond) (a : Addr) (pq : Int32) (rr : Int32) (wk : Addr) (kw : ClassId) (nr : Int32) (vs : List Value) (w : Int32) (h0 : Heap) (n0 : Nat) (Z0 : n0 ≤ h0.size) (u0 : Exa Z h0 a "com/example/kneiphof/kneiphof/Assignment") (u1 : Fld Z h0 a "com/example/kneiphof/kneiphof/Assignment" "replicas" "I" (.int rr)) (u2 : Fld Z h0 a "com/example/kneiphof/kneiphof/Assignment" "workers" "[I" (.ref wk)) (u3 : Arv Z h0 wk kw .int nr vs (.int (0 : Int32))) (h1 : ¬ (((pq * rr) + (0 : Int32)) < 0)) (h2 : ((pq * rr) + (0 : Int32)) < nr) (hat : vs.getD (((pq * rr) + (0 : Int32))).toNatClampNeg (.int (0 : Int32)) = (.int w)) (hv : w = (-1 : Int32)) :
    MetFree l own_y16 (head1 (Jvm.Cond.code own_y16 prog_5_method_11_code 2 (some .boolean) :: ws) ({ frames := 1, cells := 0, slots := 0, locals := 15 } : Room)) (fun a_ U_ => a_ = #[(.ref a), (.int pq)] ∧ Z.Warmed39 U_.vm ∧ U_.heap = h0) (fun _ _ _ _ _ => True) (fun _ U_ o_ U2_ => ∃ v_ L_, o_ = .returned v_ ∧ Q_rmRuns0 Z a pq rr wk kw nr vs w h0 n0 v_ U2_.heap L_ ∧ FrameEnd U_ o_ U2_ L_ ({ frames := 1, cells := 0, slots := 0, locals := 15 } : Room).cells ({ frames := 1, cells := 0, slots := 0, locals := 15 } : Room).slots) := by
  refine MetFree.of_bodySF (plainFor_of_name pn_7) hisR ?_
  intro p e s m args below meth c s₁ Bd hml0 hP hK
  obtain ⟨rfl, hZ, hh⟩ := hP
  have hx := Bd.exec
  have hby := Bd.bytes
  have hml : c.maxLocals = 2 := hml0
  have hown : s.vm.findClass "com/example/kneiphof/kneiphof/Assignment" = some m.cls := findClass_of_methodNamed Bd.named
  have hnm := (name_of_methodNamed Bd.named Bd.method).1
  have X0 : Stand p l e ({ frames := 1, cells := 0, slots := 0, locals := 15 } : Room) s m #[(.ref a), (.int pq)] below meth c s₁ [] 0 0 := Stand.of_body Bd
  have e0 : s₁.heap = h0 := by rw [← hh, Bd.state]; rfl
  have N0 := Fr.nil n0
  refine own_go (A := s₁.setTop (mkF m 0 #[.val (.ref a), .val (.int pq)] [])) (fun t_ k_ => castTop (ef_rmRuns0 m a pq) k_) ?_
  refine own_go (A := s₁.setTop (mkF m 1 #[.val (.ref a), .val (.int pq)] [(.ref a)])) (fun t_ k_ => ?_) ?_
  · show Steps p.tables e below (s₁.setTop (mkF m 0 #[.val (.ref a), .val (.int pq)] [])) t_
    refine XS.aloadN X0.here hx rfl (hb hby d16_0) rfl rfl ?_
    exact k_
  obtain ⟨T1, X1, e1, st1⟩ := getF X0 hx hZ hown (host := "") (Or.inl (own_w hw 41 rfl)) Via.refl e0 u2 (g := (mkF m 1 #[.val (.ref a), .val (.int pq)] [(.ref a)])) rfl rfl (hb hby d16_1)
  refine own_go st1 ?_
  refine own_go (A := T1.setTop (mkF m 7 #[.val (.ref a), .val (.int pq)] [(.int (0 : Int32)), (.int pq), (.ref a), (.ref wk)])) (fun t_ k_ => ?_) ?_
  · show Steps p.tables e below (T1.setTop (mkF m 4 #[.val (.ref a), .val (.int pq)] [(.ref wk)])) t_
    refine XS.aloadN X1.here hx rfl (hb hby d16_4) rfl rfl ?_
    refine XS.iloadN X1.here hx rfl (hb hby d16_5) rfl ?_
    refine XS.iconst X1.here hx rfl (hb hby d16_6) ?_
    exact k_
  obtain ⟨cq2, kq2, q2a, q2b, q2c⟩ := isOf hZ e1 u0
  obtain ⟨_, _, ⟨T2, L2, k2, n2⟩, -, X2, ⟨Lc2, hQ2, l2, y2, z2⟩, st2⟩ := X1.virtualBack hx (y := own_y15) (z := own_y15) hown (mvT hZ (own_w hw 118 rfl)) (mvT hZ (own_w hw 119 rfl)) (notFace_of_selects (args := #[]) (mvT hZ (own_w hw 121 rfl))) (mvT hZ (own_w hw 121 rfl)) (mvT hZ (own_w hw 120 rfl)) (by decide) (backOf (W := 1) (rmSlot l Z a0 hw [] a pq (0 : Int32) rr h0 n0 Z0 u0 u1) hZ (own_w hw 122 rfl) (own_w hw 3 rfl) (by decide) (by decide)) q2a q2c (g := (mkF m 7 #[.val (.ref a), .val (.int pq)] [(.int (0 : Int32)), (.int pq), (.ref a), (.ref wk)])) rfl (by rw [hml]; rfl) (Steps.refl _) (argsL := [(.int pq), (.int (0 : Int32))]) (rest := [(.ref wk)]) (lenOf pd_1 rfl) rfl (by show 2 * 0 + _ ≤ _; exact Nat.le_of_eq rfl) (hb hby d16_7) (fun _ _ => ⟨rfl, e1, (by decide : 0 + 0 ≤ _), (by decide : 0 + 0 ≤ _)⟩)
  dsimp only [Pt.U, Pt.locs, Pt.cells, Pt.slots] at X2 l2 y2 z2 st2 hQ2
  subst l2 y2 z2
  obtain ⟨rfl, N2q, eh2⟩ := hQ2
  have N2 := Fr.app N0 N2q
  refine own_via st2 ?_
  obtain ⟨cl3, Ar3, q3, S3, M3, H3, G3⟩ := id u3
  have hin3 : ¬ (((pq * rr) + (0 : Int32)) < 0 ∨ cl3.slots.size ≤ (((pq * rr) + (0 : Int32))).toNatClampNeg) := inb_of S3 ⟨h1, h2⟩
  have hat3 : cl3.slots[(((pq * rr) + (0 : Int32))).toNatClampNeg]? = some (.int w) := Has.at H3 hin3 hat
  refine own_go (A := T2.setTop (mkF m 20 #[.val (.ref a), .val (.int pq)] [(.int (0 : Int32))])) (fun t_ k_ => ?_) ?_
  · show Steps p.tables e below (T2.setTop (mkF m 10 #[.val (.ref a), .val (.int pq)] [(.int ((pq * rr) + (0 : Int32))), (.ref wk)])) t_
    refine X2.iaload hx (j := ((pq * rr) + (0 : Int32))) (v := (.int w)) (by rw [eh2]; exact Ar3.1) (State.isArrayOf_alike hZ.alike Ar3.2.1) Ar3.2.2 hin3 hat3 (g := (mkF m 10 #[.val (.ref a), .val (.int pq)] [(.int ((pq * rr) + (0 : Int32))), (.ref wk)])) rfl rfl (hb hby d16_10) _ ?_
    refine XS.iconst X2.here hx rfl (hb hby d16_11) ?_
    refine XS.icmpYes X2.here hx rfl (pc0 := 12) (pc' := 19) rfl (hb hby d16_12) rfl (teq hv).1 (by decide) (by decide) ?_
    refine XS.iconst X2.here hx rfl (hb hby d16_19) ?_
    exact k_
  obtain ⟨fs4, hr4, hrun4, hended4, hW4, hsame4⟩ := X2.leave (v := some (.int (0 : Int32))) (fun h => by rw [Bd.returns] at h; cases h)
  refine ⟨_, _, ?_, hrun4, hended4, _, _, rfl, ?_, ⟨_, rfl⟩, hW4, hsame4.mono (by decide) (by decide)⟩
  · exact retN X2 hx (t := .boolean) Bd.returns (by simp) (hb hby d16_20) hr4
  · show Q_rmRuns0 Z a pq rr wk kw nr vs w h0 n0 _ T2.heap _
    rw [eh2]
    exact ⟨rfl, N2, rfl⟩
theorem d16_15 : decode prog_5_method_11_code 15 = .ok (.iconst 1, 1) := by decide +kernel
theorem d16_16 : decode prog_5_method_11_code 16 = .ok (.goto 4, 3) := by decide +kernel
theorem ef_rmRuns1 (m : MethodId) (a : Addr) (pq : Int32) : entryFrame m #[(.ref a), (.int pq)] 2 = mkF m 0 #[.val (.ref a), .val (.int pq)] [] := by first | (simp [entryFrame, mkF, argsToLocals, Value.category]; done) | rfl
def Q_rmRuns1 (Z : State) (a : Addr) (pq : Int32) (rr : Int32) (wk : Addr) (kw : ClassId) (nr : Int32) (vs : List Value) (w : Int32) (h0 : Heap) (n0 : Nat) (v_ : Option Value) (h_ : Heap) (L_ : List Loc) : Prop := v_ = some (.int (1 : Int32)) ∧ Fr n0 L_ ∧ h_ = h0
set_option maxRecDepth 65536 in
set_option maxHeartbeats 40000000 in
theorem rmRuns1 (l : Launch) (Z : State) (a0 : Array Value) (hw : ∀ d ∈ tables_1, d.before a0 Z = true) (ws : List Jvm.Cond) (a : Addr) (pq : Int32) (rr : Int32) (wk : Addr) (kw : ClassId) (nr : Int32) (vs : List Value) (w : Int32) (h0 : Heap) (n0 : Nat) (Z0 : n0 ≤ h0.size) (u0 : Exa Z h0 a "com/example/kneiphof/kneiphof/Assignment") (u1 : Fld Z h0 a "com/example/kneiphof/kneiphof/Assignment" "replicas" "I" (.int rr)) (u2 : Fld Z h0 a "com/example/kneiphof/kneiphof/Assignment" "workers" "[I" (.ref wk)) (u3 : Arv Z h0 wk kw .int nr vs (.int (0 : Int32))) (h1 : ¬ (((pq * rr) + (0 : Int32)) < 0)) (h2 : ((pq * rr) + (0 : Int32)) < nr) (hat : vs.getD (((pq * rr) + (0 : Int32))).toNatClampNeg (.int (0 : Int32)) = (.int w)) (hv : ¬ (w = (-1 : Int32))) :
    MetFree l own_y16 (head1 (Jvm.Cond.code own_y16 prog_5_method_11_code 2 (some .boolean) :: ws) ({ frames := 1, cells := 0, slots := 0, locals := 15 } : Room)) (fun a_ U_ => a_ = #[(.ref a), (.int pq)] ∧ Z.Warmed39 U_.vm ∧ U_.heap = h0) (fun _ _ _ _ _ => True) (fun _ U_ o_ U2_ => ∃ v_ L_, o_ = .returned v_ ∧ Q_rmRuns1 Z a pq rr wk kw nr vs w h0 n0 v_ U2_.heap L_ ∧ FrameEnd U_ o_ U2_ L_ ({ frames := 1, cells := 0, slots := 0, locals := 15 } : Room).cells ({ frames := 1, cells := 0, slots := 0, locals := 15 } : Room).slots) := by
  refine MetFree.of_bodySF (plainFor_of_name pn_7) hisR ?_
  intro p e s m args below meth c s₁ Bd hml0 hP hK
  obtain ⟨rfl, hZ, hh⟩ := hP
  have hx := Bd.exec
  have hby := Bd.bytes
  have hml : c.maxLocals = 2 := hml0
  have hown : s.vm.findClass "com/example/kneiphof/kneiphof/Assignment" = some m.cls := findClass_of_methodNamed Bd.named
  have hnm := (name_of_methodNamed Bd.named Bd.method).1
  have X0 : Stand p l e ({ frames := 1, cells := 0, slots := 0, locals := 15 } : Room) s m #[(.ref a), (.int pq)] below meth c s₁ [] 0 0 := Stand.of_body Bd
  have e0 : s₁.heap = h0 := by rw [← hh, Bd.state]; rfl
  have N0 := Fr.nil n0
  refine own_go (A := s₁.setTop (mkF m 0 #[.val (.ref a), .val (.int pq)] [])) (fun t_ k_ => castTop (ef_rmRuns1 m a pq) k_) ?_
  refine own_go (A := s₁.setTop (mkF m 1 #[.val (.ref a), .val (.int pq)] [(.ref a)])) (fun t_ k_ => ?_) ?_
  · show Steps p.tables e below (s₁.setTop (mkF m 0 #[.val (.ref a), .val (.int pq)] [])) t_
    refine XS.aloadN X0.here hx rfl (hb hby d16_0) rfl rfl ?_
    exact k_
  obtain ⟨T1, X1, e1, st1⟩ := getF X0 hx hZ hown (host := "") (Or.inl (own_w hw 41 rfl)) Via.refl e0 u2 (g := (mkF m 1 #[.val (.ref a), .val (.int pq)] [(.ref a)])) rfl rfl (hb hby d16_1)
  refine own_go st1 ?_
  refine own_go (A := T1.setTop (mkF m 7 #[.val (.ref a), .val (.int pq)] [(.int (0 : Int32)), (.int pq), (.ref a), (.ref wk)])) (fun t_ k_ => ?_) ?_
  · show Steps p.tables e below (T1.setTop (mkF m 4 #[.val (.ref a), .val (.int pq)] [(.ref wk)])) t_
    refine XS.aloadN X1.here hx rfl (hb hby d16_4) rfl rfl ?_
    refine XS.iloadN X1.here hx rfl (hb hby d16_5) rfl ?_
    refine XS.iconst X1.here hx rfl (hb hby d16_6) ?_
    exact k_
  obtain ⟨cq2, kq2, q2a, q2b, q2c⟩ := isOf hZ e1 u0
  obtain ⟨_, _, ⟨T2, L2, k2, n2⟩, -, X2, ⟨Lc2, hQ2, l2, y2, z2⟩, st2⟩ := X1.virtualBack hx (y := own_y15) (z := own_y15) hown (mvT hZ (own_w hw 118 rfl)) (mvT hZ (own_w hw 119 rfl)) (notFace_of_selects (args := #[]) (mvT hZ (own_w hw 121 rfl))) (mvT hZ (own_w hw 121 rfl)) (mvT hZ (own_w hw 120 rfl)) (by decide) (backOf (W := 1) (rmSlot l Z a0 hw [] a pq (0 : Int32) rr h0 n0 Z0 u0 u1) hZ (own_w hw 122 rfl) (own_w hw 3 rfl) (by decide) (by decide)) q2a q2c (g := (mkF m 7 #[.val (.ref a), .val (.int pq)] [(.int (0 : Int32)), (.int pq), (.ref a), (.ref wk)])) rfl (by rw [hml]; rfl) (Steps.refl _) (argsL := [(.int pq), (.int (0 : Int32))]) (rest := [(.ref wk)]) (lenOf pd_1 rfl) rfl (by show 2 * 0 + _ ≤ _; exact Nat.le_of_eq rfl) (hb hby d16_7) (fun _ _ => ⟨rfl, e1, (by decide : 0 + 0 ≤ _), (by decide : 0 + 0 ≤ _)⟩)
  dsimp only [Pt.U, Pt.locs, Pt.cells, Pt.slots] at X2 l2 y2 z2 st2 hQ2
  subst l2 y2 z2
  obtain ⟨rfl, N2q, eh2⟩ := hQ2
  have N2 := Fr.app N0 N2q
  refine own_via st2 ?_
  obtain ⟨cl3, Ar3, q3, S3, M3, H3, G3⟩ := id u3
  have hin3 : ¬ (((pq * rr) + (0 : Int32)) < 0 ∨ cl3.slots.size ≤ (((pq * rr) + (0 : Int32))).toNatClampNeg) := inb_of S3 ⟨h1, h2⟩
  have hat3 : cl3.slots[(((pq * rr) + (0 : Int32))).toNatClampNeg]? = some (.int w) := Has.at H3 hin3 hat
  refine own_go (A := T2.setTop (mkF m 20 #[.val (.ref a), .val (.int pq)] [(.int (1 : Int32))])) (fun t_ k_ => ?_) ?_
  · show Steps p.tables e below (T2.setTop (mkF m 10 #[.val (.ref a), .val (.int pq)] [(.int ((pq * rr) + (0 : Int32))), (.ref wk)])) t_
    refine X2.iaload hx (j := ((pq * rr) + (0 : Int32))) (v := (.int w)) (by rw [eh2]; exact Ar3.1) (State.isArrayOf_alike hZ.alike Ar3.2.1) Ar3.2.2 hin3 hat3 (g := (mkF m 10 #[.val (.ref a), .val (.int pq)] [(.int ((pq * rr) + (0 : Int32))), (.ref wk)])) rfl rfl (hb hby d16_10) _ ?_
    refine XS.iconst X2.here hx rfl (hb hby d16_11) ?_
    refine XS.icmpNo X2.here hx rfl (hb hby d16_12) rfl (feq hv).1 ?_
    refine XS.iconst X2.here hx rfl (hb hby d16_15) ?_
    show Steps p.tables e below (T2.setTop (mkF m 16 #[.val (.ref a), .val (.int pq)] [(.int (1 : Int32))])) t_
    refine XS.goto X2.here hx rfl (pc0 := 16) (pc' := 20) rfl (hb hby d16_16) (by decide) (by decide) ?_
    exact k_
  obtain ⟨fs4, hr4, hrun4, hended4, hW4, hsame4⟩ := X2.leave (v := some (.int (1 : Int32))) (fun h => by rw [Bd.returns] at h; cases h)
  refine ⟨_, _, ?_, hrun4, hended4, _, _, rfl, ?_, ⟨_, rfl⟩, hW4, hsame4.mono (by decide) (by decide)⟩
  · exact retN X2 hx (t := .boolean) Bd.returns (by simp) (hb hby d16_20) hr4
  · show Q_rmRuns1 Z a pq rr wk kw nr vs w h0 n0 _ T2.heap _
    rw [eh2]
    exact ⟨rfl, N2, rfl⟩
theorem d19_0 : decode prog_5_method_12_code 0 = .ok (.aload_n 0, 1) := by decide +kernel
theorem d19_1 : decode prog_5_method_12_code 1 = .ok (.iload_n 1, 1) := by decide +kernel
theorem pd_11 : parseMethodDescriptor "(I)Z" = some ⟨[.int], some .boolean⟩ := by decide +kernel
theorem d19_2 : decode prog_5_method_12_code 2 = .ok (.invokevirtual 61, 3) := by decide +kernel
theorem d19_5 : decode prog_5_method_12_code 5 = .ok (.ifCond .ne 7, 3) := by decide +kernel
theorem d19_12 : decode prog_5_method_12_code 12 = .ok (.aload_n 0, 1) := by decide +kernel
theorem d19_13 : decode prog_5_method_12_code 13 = .ok (.getfield 23, 3) := by decide +kernel
theorem d19_16 : decode prog_5_method_12_code 16 = .ok (.aload_n 0, 1) := by decide +kernel
theorem d19_17 : decode prog_5_method_12_code 17 = .ok (.iload_n 1, 1) := by decide +kernel
theorem d19_18 : decode prog_5_method_12_code 18 = .ok (.iconst 0, 1) := by decide +kernel
theorem d19_19 : decode prog_5_method_12_code 19 = .ok (.invokevirtual 57, 3) := by decide +kernel
theorem d19_22 : decode prog_5_method_12_code 22 = .ok (.aload_n 0, 1) := by decide +kernel
theorem d19_23 : decode prog_5_method_12_code 23 = .ok (.iload_n 1, 1) := by decide +kernel
theorem d19_24 : decode prog_5_method_12_code 24 = .ok (.aload_n 0, 1) := by decide +kernel
theorem d19_25 : decode prog_5_method_12_code 25 = .ok (.getfield 20, 3) := by decide +kernel
theorem d19_28 : decode prog_5_method_12_code 28 = .ok (.invokevirtual 57, 3) := by decide +kernel
theorem d19_31 : decode prog_5_method_12_code 31 = .ok (.invokestatic 65, 3) := by decide +kernel
theorem d19_34 : decode prog_5_method_12_code 34 = .ok (.areturn, 1) := by decide +kernel
abbrev own_y17 : MethodName := ⟨"com/example/kneiphof/kneiphof/Assignment", "set", "(I)[I"⟩
theorem ef_rmSet (m : MethodId) (a : Addr) (pq : Int32) : entryFrame m #[(.ref a), (.int pq)] 2 = mkF m 0 #[.val (.ref a), .val (.int pq)] [] := by first | (simp [entryFrame, mkF, argsToLocals, Value.category]; done) | rfl
def Q_rmSet (Z : State) (a : Addr) (pq : Int32) (rr : Int32) (wk : Addr) (kw : ClassId) (nr : Int32) (vs : List Value) (w : Int32) (h0 : Heap) (n0 : Nat) (v_ : Option Value) (h_ : Heap) (L_ : List Loc) : Prop := ∃ rb : Addr, v_ = some (.ref rb) ∧ Fr n0 L_ ∧ Keep h0 h_ []
set_option maxRecDepth 65536 in
set_option maxHeartbeats 40000000 in
theorem rmSet (l : Launch) (Z : State) (a0 : Array Value) (hw : ∀ d ∈ tables_1, d.before a0 Z = true) (ws : List Jvm.Cond) (a : Addr) (pq : Int32) (rr : Int32) (wk : Addr) (kw : ClassId) (nr : Int32) (vs : List Value) (w : Int32) (h0 : Heap) (n0 : Nat) (Z0 : n0 ≤ h0.size) (u0 : Exa Z h0 a "com/example/kneiphof/kneiphof/Assignment") (u1 : Fld Z h0 a "com/example/kneiphof/kneiphof/Assignment" "replicas" "I" (.int rr)) (u2 : Fld Z h0 a "com/example/kneiphof/kneiphof/Assignment" "workers" "[I" (.ref wk)) (u3 : Arv Z h0 wk kw .int nr vs (.int (0 : Int32))) (h1 : ¬ (((pq * rr) + (0 : Int32)) < 0)) (h2 : ((pq * rr) + (0 : Int32)) < nr) (hat : vs.getD (((pq * rr) + (0 : Int32))).toNatClampNeg (.int (0 : Int32)) = (.int w)) (hv : ¬ (w = (-1 : Int32))) (hfc : Z.vm.findClass "[I" = some kw) (h3 : ((pq * rr) + (0 : Int32)).toInt ≤ ((pq * rr) + rr).toInt) (h4 : ((pq * rr) + rr).toInt ≤ nr.toInt) (h5 : ((pq * rr) + rr).toInt ≤ ((pq * rr) + (0 : Int32)).toInt + 4) :
    MetFree l own_y17 (head1 (Jvm.Cond.code own_y17 prog_5_method_12_code 2 (some (.array .int)) :: ws) ({ frames := 3, cells := 1, slots := 4, locals := 70 } : Room)) (fun a_ U_ => a_ = #[(.ref a), (.int pq)] ∧ Z.Warmed39 U_.vm ∧ U_.heap = h0) (fun _ _ _ _ _ => True) (fun _ U_ o_ U2_ => ∃ v_ L_, o_ = .returned v_ ∧ Q_rmSet Z a pq rr wk kw nr vs w h0 n0 v_ U2_.heap L_ ∧ FrameEnd U_ o_ U2_ L_ ({ frames := 3, cells := 1, slots := 4, locals := 70 } : Room).cells ({ frames := 3, cells := 1, slots := 4, locals := 70 } : Room).slots) := by
  refine MetFree.of_bodySF (plainFor_of_name pn_7) hisR ?_
  intro p e s m args below meth c s₁ Bd hml0 hP hK
  obtain ⟨rfl, hZ, hh⟩ := hP
  have hx := Bd.exec
  have hby := Bd.bytes
  have hml : c.maxLocals = 2 := hml0
  have hown : s.vm.findClass "com/example/kneiphof/kneiphof/Assignment" = some m.cls := findClass_of_methodNamed Bd.named
  have hnm := (name_of_methodNamed Bd.named Bd.method).1
  have X0 : Stand p l e ({ frames := 3, cells := 1, slots := 4, locals := 70 } : Room) s m #[(.ref a), (.int pq)] below meth c s₁ [] 0 0 := Stand.of_body Bd
  have e0 : s₁.heap = h0 := by rw [← hh, Bd.state]; rfl
  have N0 := Fr.nil n0
  refine own_go (A := s₁.setTop (mkF m 0 #[.val (.ref a), .val (.int pq)] [])) (fun t_ k_ => castTop (ef_rmSet m a pq) k_) ?_
  refine own_go (A := s₁.setTop (mkF m 2 #[.val (.ref a), .val (.int pq)] [(.int pq), (.ref a)])) (fun t_ k_ => ?_) ?_
  · show Steps p.tables e below (s₁.setTop (mkF m 0 #[.val (.ref a), .val (.int pq)] [])) t_
    refine XS.aloadN X0.here hx rfl (hb hby d19_0) rfl rfl ?_
    refine XS.iloadN X0.here hx rfl (hb hby d19_1) rfl ?_
    exact k_
  obtain ⟨cq1, kq1, q1a, q1b, q1c⟩ := isOf hZ e0 u0
  obtain ⟨_, _, ⟨T1, L1, k1, n1⟩, -, X1, ⟨Lc1, hQ1, l1, y1, z1⟩, st1⟩ := X0.virtualBack hx (y := own_y16) (z := own_y16) hown (mvT hZ (own_w hw 133 rfl)) (mvT hZ (own_w hw 114 rfl)) (notFace_of_selects (args := #[]) (mvT hZ (own_w hw 116 rfl))) (mvT hZ (own_w hw 116 rfl)) (mvT hZ (own_w hw 115 rfl)) (by decide) (backOf (W := 0) (rmRuns1 l Z a0 hw [] a pq rr wk kw nr vs w h0 n0 Z0 u0 u1 u2 u3 h1 h2 hat hv) hZ (own_w hw 117 rfl) (own_w hw 3 rfl) (by decide) (by decide)) q1a q1c (g := (mkF m 2 #[.val (.ref a), .val (.int pq)] [(.int pq), (.ref a)])) rfl (by rw [hml]; rfl) (Steps.refl _) (argsL := [(.int pq)]) (rest := []) (lenOf pd_11 rfl) rfl (by show 2 * 0 + _ ≤ _; exact Nat.le_of_eq rfl) (hb hby d19_2) (fun _ _ => ⟨rfl, e0, (by decide : 0 + 0 ≤ _), (by decide : 0 + 0 ≤ _)⟩)
  dsimp only [Pt.U, Pt.locs, Pt.cells, Pt.slots] at X1 l1 y1 z1 st1 hQ1
  subst l1 y1 z1
  obtain ⟨rfl, N1q, eh1⟩ := hQ1
  have N1 := Fr.app N0 N1q
  refine own_via st1 ?_
  refine own_go (A := T1.setTop (mkF m 13 #[.val (.ref a), .val (.int pq)] [(.ref a)])) (fun t_ k_ => ?_) ?_
  · show Steps p.tables e below (T1.setTop (mkF m 5 #[.val (.ref a), .val (.int pq)] [(.int (1 : Int32))])) t_
    refine XS.ifYes X1.here hx rfl (pc0 := 5) (pc' := 12) rfl (hb hby d19_5) rfl ((if0 _ _).trans (feq (by decide : ¬ ((1 : Int32) = (0 : Int32)))).2) (by decide) (by decide) ?_
    refine XS.aloadN X1.here hx rfl (hb hby d19_12) rfl rfl ?_
    exact k_
  obtain ⟨T2, X2, e2, st2⟩ := getF X1 hx hZ hown (host := "") (Or.inl (own_w hw 41 rfl)) Via.refl eh1 u2 (g := (mkF m 13 #[.val (.ref a), .val (.int pq)] [(.ref a)])) rfl rfl (hb hby d19_13)
  refine own_go st2 ?_
  refine own_go (A := T2.setTop (mkF m 19 #[.val (.ref a), .val (.int pq)] [(.int (0 : Int32)), (.int pq), (.ref a), (.ref wk)])) (fun t_ k_ => ?_) ?_
  · show Steps p.tables e below (T2.setTop (mkF m 16 #[.val (.ref a), .val (.int pq)] [(.ref wk)])) t_
    refine XS.aloadN X2.here hx rfl (hb hby d19_16) rfl rfl ?_
    refine XS.iloadN X2.here hx rfl (hb hby d19_17) rfl ?_
    refine XS.iconst X2.here hx rfl (hb hby d19_18) ?_
    exact k_
  obtain ⟨cq3, kq3, q3a, q3b, q3c⟩ := isOf hZ e2 u0
  obtain ⟨_, _, ⟨T3, L3, k3, n3⟩, -, X3, ⟨Lc3, hQ3, l3, y3, z3⟩, st3⟩ := X2.virtualBack hx (y := own_y15) (z := own_y15) hown (mvT hZ (own_w hw 118 rfl)) (mvT hZ (own_w hw 119 rfl)) (notFace_of_selects (args := #[]) (mvT hZ (own_w hw 121 rfl))) (mvT hZ (own_w hw 121 rfl)) (mvT hZ (own_w hw 120 rfl)) (by decide) (backOf (W := 1) (rmSlot l Z a0 hw [] a pq (0 : Int32) rr h0 n0 Z0 u0 u1) hZ (own_w hw 122 rfl) (own_w hw 3 rfl) (by decide) (by decide)) q3a q3c (g := (mkF m 19 #[.val (.ref a), .val (.int pq)] [(.int (0 : Int32)), (.int pq), (.ref a), (.ref wk)])) rfl (by rw [hml]; rfl) (Steps.refl _) (argsL := [(.int pq), (.int (0 : Int32))]) (rest := [(.ref wk)]) (lenOf pd_1 rfl) rfl (by show 2 * 0 + _ ≤ _; exact Nat.le_of_eq rfl) (hb hby d19_19) (fun _ _ => ⟨rfl, e2, (by decide : 0 + 0 ≤ _), (by decide : 0 + 0 ≤ _)⟩)
  dsimp only [Pt.U, Pt.locs, Pt.cells, Pt.slots] at X3 l3 y3 z3 st3 hQ3
  subst l3 y3 z3
  obtain ⟨rfl, N3q, eh3⟩ := hQ3
  have N3 := Fr.app N1 N3q
  refine own_via st3 ?_
  refine own_go (A := T3.setTop (mkF m 25 #[.val (.ref a), .val (.int pq)] [(.ref a), (.int pq), (.ref a), (.int ((pq * rr) + (0 : Int32))), (.ref wk)])) (fun t_ k_ => ?_) ?_
  · show Steps p.tables e below (T3.setTop (mkF m 22 #[.val (.ref a), .val (.int pq)] [(.int ((pq * rr) + (0 : Int32))), (.ref wk)])) t_
    refine XS.aloadN X3.here hx rfl (hb hby d19_22) rfl rfl ?_
    refine XS.iloadN X3.here hx rfl (hb hby d19_23) rfl ?_
    refine XS.aloadN X3.here hx rfl (hb hby d19_24) rfl rfl ?_
    exact k_
  obtain ⟨T4, X4, e4, st4⟩ := getF X3 hx hZ hown (host := "") (Or.inl (own_w hw 38 rfl)) Via.refl eh3 u1 (g := (mkF m 25 #[.val (.ref a), .val (.int pq)] [(.ref a), (.int pq), (.ref a), (.int ((pq * rr) + (0 : Int32))), (.ref wk)])) rfl rfl (hb hby d19_25)
  refine own_go st4 ?_
  obtain ⟨cq5, kq5, q5a, q5b, q5c⟩ := isOf hZ e4 u0
  obtain ⟨_, _, ⟨T5, L5, k5, n5⟩, -, X5, ⟨Lc5, hQ5, l5, y5, z5⟩, st5⟩ := X4.virtualBack hx (y := own_y15) (z := own_y15) hown (mvT hZ (own_w hw 118 rfl)) (mvT hZ (own_w hw 119 rfl)) (notFace_of_selects (args := #[]) (mvT hZ (own_w hw 121 rfl))) (mvT hZ (own_w hw 121 rfl)) (mvT hZ (own_w hw 120 rfl)) (by decide) (backOf (W := 2) (rmSlot l Z a0 hw [] a pq rr rr h0 n0 Z0 u0 u1) hZ (own_w hw 122 rfl) (own_w hw 3 rfl) (by decide) (by decide)) q5a q5c (g := (mkF m 28 #[.val (.ref a), .val (.int pq)] [(.int rr), (.int pq), (.ref a), (.int ((pq * rr) + (0 : Int32))), (.ref wk)])) rfl (by rw [hml]; rfl) (Steps.refl _) (argsL := [(.int pq), (.int rr)]) (rest := [(.int ((pq * rr) + (0 : Int32))), (.ref wk)]) (lenOf pd_1 rfl) rfl (by show 2 * 0 + _ ≤ _; exact Nat.le_of_eq rfl) (hb hby d19_28) (fun _ _ => ⟨rfl, e4, (by decide : 0 + 0 ≤ _), (by decide : 0 + 0 ≤ _)⟩)
  dsimp only [Pt.U, Pt.locs, Pt.cells, Pt.slots] at X5 l5 y5 z5 st5 hQ5
  subst l5 y5 z5
  obtain ⟨rfl, N5q, eh5⟩ := hQ5
  have N5 := Fr.app N3 N5q
  refine own_via st5 ?_
  obtain ⟨T6, h6, X6, e6, Kc6, st6⟩ := own_cor X5 hx hZ hw hown eh5 u3 hfc h1 h3 h4 h5 (g := (mkF m 31 #[.val (.ref a), .val (.int pq)] [(.int ((pq * rr) + rr)), (.int ((pq * rr) + (0 : Int32))), (.ref wk)])) rfl (by rw [hml]; rfl) (rest := []) rfl (hb hby d19_31) (W := 0) (by show 2 * 0 + _ ≤ _; exact Nat.le_of_eq rfl) (by decide) (by decide) (by decide) (by decide)
  obtain ⟨b6, g6⟩ : ∃ z, z = h0.size := ⟨_, rfl⟩
  rw [← g6] at st6
  refine own_go st6 ?_
  have K6 : Keep h0 h6 [] := (Keep.refl h0 []).trans Kc6 all0
  obtain ⟨fs7, hr7, hrun7, hended7, hW7, hsame7⟩ := X6.leave (v := some (.ref b6)) (fun h => by rw [Bd.returns] at h; cases h)
  refine ⟨_, _, ?_, hrun7, hended7, _, _, rfl, ?_, ⟨_, rfl⟩, hW7, hsame7.mono (by decide) (by decide)⟩
  · exact own_retA X6 hx Bd.returns rfl rfl rfl (hb hby d19_34) hr7
  · show Q_rmSet Z a pq rr wk kw nr vs w h0 n0 _ T6.heap _
    rw [e6]
    exact ⟨b6, rfl, N5, K6⟩
theorem own_r4 {r : Int} (h : 1 ≤ r ∧ r ≤ 4) : r = 1 ∨ r = 2 ∨ r = 3 ∨ r = 4 := by omega
theorem own_pr {q n r : Int} (hr : 1 ≤ r ∧ r ≤ 4) (hn : 1 ≤ n ∧ n ≤ 4) (hq : 0 ≤ q ∧ q < n) : 0 ≤ q * r ∧ q * r + r ≤ n * r ∧ n * r ≤ 16 := by
  rcases own_r4 hr with h | h | h | h <;> subst h <;> omega
theorem own_jx {pq rr n i : Int32} (hr : 1 ≤ rr.toInt ∧ rr.toInt ≤ 4) (hn : 1 ≤ n.toInt ∧ n.toInt ≤ 4) (hp : 0 ≤ pq.toInt ∧ pq.toInt < n.toInt) (h0 : 0 ≤ i.toInt) (h1 : i.toInt ≤ rr.toInt) : ((pq * rr) + i).toInt = pq.toInt * rr.toInt + i.toInt := by
  have b := own_pr hr hn hp
  have h2 := c_imul pq rr; have h3 := rng32 (pq * rr); have h4 := c_iadd (pq * rr) i; have h5 := rng32 ((pq * rr) + i)
  generalize pq.toInt * rr.toInt = z at *
  omega
theorem own_j0 {pq rr n i : Int32} (hr : 1 ≤ rr.toInt ∧ rr.toInt ≤ 4) (hn : 1 ≤ n.toInt ∧ n.toInt ≤ 4) (hp : 0 ≤ pq.toInt ∧ pq.toInt < n.toInt) (h0 : 0 ≤ i.toInt) (h1 : i.toInt ≤ rr.toInt) : ¬ (((pq * rr) + i) < 0) := by
  apply own_n0; rw [own_jx hr hn hp h0 h1]; have b := own_pr hr hn hp; omega
theorem own_j1 {pq rr n i nr : Int32} (hr : 1 ≤ rr.toInt ∧ rr.toInt ≤ 4) (hn : 1 ≤ n.toInt ∧ n.toInt ≤ 4) (hp : 0 ≤ pq.toInt ∧ pq.toInt < n.toInt) (hnr : nr.toInt = n.toInt * rr.toInt) (h0 : 0 ≤ i.toInt) (h1 : i.toInt < rr.toInt) : ((pq * rr) + i) < nr := by
  apply own_lt; rw [own_jx hr hn hp h0 (by omega), hnr]; have b := own_pr hr hn hp; omega
theorem own_jn {pq rr n i : Int32} (hr : 1 ≤ rr.toInt ∧ rr.toInt ≤ 4) (hn : 1 ≤ n.toInt ∧ n.toInt ≤ 4) (hp : 0 ≤ pq.toInt ∧ pq.toInt < n.toInt) (h0 : 0 ≤ i.toInt) (h1 : i.toInt ≤ rr.toInt) : ((pq * rr) + i).toNatClampNeg = (pq.toInt * rr.toInt + i.toInt).toNat := by
  have h2 := own_tn (own_nn (own_j0 hr hn hp h0 h1)); rw [own_jx hr hn hp h0 h1] at h2; omega
def own_blk (vs : List Value) (r q M : Int) : Prop := ∀ i : Int, 0 ≤ i → i < r → ∃ w : Int32, vs.getD (q * r + i).toNat (.int (0 : Int32)) = .int w ∧ 0 ≤ w.toInt ∧ w.toInt < M
def own_rem (vs vl : List Value) (r q i : Int) : Prop := (∀ t : Int, 0 ≤ t → t < i → vl.getD (q * r + t).toNat (.int (0 : Int32)) = .int (-1 : Int32)) ∧ ∀ j : Nat, (∀ t : Int, 0 ≤ t → t < i → j ≠ (q * r + t).toNat) → vl.getD j (.int (0 : Int32)) = vs.getD j (.int (0 : Int32))
theorem own_rem0 {vs : List Value} {r q : Int} : own_rem vs vs r q 0 := ⟨fun t h1 h2 => by omega, fun _ _ => rfl⟩
theorem own_rem1 {vs vl : List Value} {r q i : Int} {J : Nat} (hb : 0 ≤ q * r) (h0 : 0 ≤ i) (hJ : J = (q * r + i).toNat) (hl : J < vl.length) (h : own_rem vs vl r q i) : own_rem vs (vl.set J (.int (-1 : Int32))) r q (i + 1) := by
  refine ⟨fun t h1 h2 => ?_, fun j hj => ?_⟩
  · by_cases e : t = i
    · rw [e, ← hJ]; exact own_geq hl
    · rw [own_gne (by omega)]; exact h.1 t h1 (by omega)
  · rw [own_gne (by rw [hJ]; exact hj i h0 (by omega))]; exact h.2 j fun t h1 h2 => hj t h1 (by omega)
theorem own_rat {vs vl : List Value} {r q i : Int} (hb : 0 ≤ q * r) (h0 : 0 ≤ i) (h : own_rem vs vl r q i) : vl.getD (q * r + i).toNat (.int (0 : Int32)) = vs.getD (q * r + i).toNat (.int (0 : Int32)) := h.2 _ fun t h1 h2 => by omega
theorem own_eqr {vs vl : List Value} {r q i j : Int} (h : own_rem vs vl r q i) (e : i = j) : own_rem vs vl r q j := e ▸ h
theorem own_m1 {w : Int32} (h : 0 ≤ w.toInt) : ¬ (w = (-1 : Int32)) := fun e => by rw [e] at h; exact absurd h (by decide)
theorem d18_0 : decode prog_5_method_18_code 0 = .ok (.aload_n 0, 1) := by decide +kernel
theorem d18_1 : decode prog_5_method_18_code 1 = .ok (.iload_n 1, 1) := by decide +kernel
theorem pd_12 : parseMethodDescriptor "(I)[I" = some ⟨[.int], some (.array .int)⟩ := by decide +kernel
theorem d18_2 : decode prog_5_method_18_code 2 = .ok (.invokevirtual 122, 3) := by decide +kernel
theorem d18_5 : decode prog_5_method_18_code 5 = .ok (.astore_n 2, 1) := by decide +kernel
theorem d18_6 : decode prog_5_method_18_code 6 = .ok (.iconst 0, 1) := by decide +kernel
theorem d18_7 : decode prog_5_method_18_code 7 = .ok (.istore_n 3, 1) := by decide +kernel
def Q_rmRem (Z : State) (a : Addr) (pq : Int32) (n : Int32) (rr : Int32) (nr : Int32) (ns : Int32) (wk : Addr) (kw : ClassId) (sl : Addr) (ks : ClassId) (vs : List Value) (us : List Value) (h0 : Heap) (n0 : Nat) (v_ : Option Value) (h_ : Heap) (L_ : List Loc) : Prop := ∃ rb : Addr, ∃ vr : List Value, ∃ ur : List Value, v_ = some (.ref rb) ∧ Fr n0 L_ ∧ Keep h0 h_ [wk, sl] ∧ Arv Z h_ wk kw .int nr vr (.int (0 : Int32)) ∧ Arv Z h_ sl ks .int ns ur (.int (0 : Int32)) ∧ (vr.length = (nr).toNatClampNeg) ∧ (ur.length = (ns).toNatClampNeg) ∧ (own_rem vs vr rr.toInt pq.toInt rr.toInt)
theorem d18_8 : decode prog_5_method_18_code 8 = .ok (.iload_n 3, 1) := by decide +kernel
theorem d18_9 : decode prog_5_method_18_code 9 = .ok (.aload_n 0, 1) := by decide +kernel
theorem d18_10 : decode prog_5_method_18_code 10 = .ok (.getfield 20, 3) := by decide +kernel
theorem d18_13 : decode prog_5_method_18_code 13 = .ok (.if_icmp .ge 38, 3) := by decide +kernel
theorem d18_51 : decode prog_5_method_18_code 51 = .ok (.aload_n 2, 1) := by decide +kernel
theorem d18_52 : decode prog_5_method_18_code 52 = .ok (.areturn, 1) := by decide +kernel
theorem d18_16 : decode prog_5_method_18_code 16 = .ok (.aload_n 0, 1) := by decide +kernel
theorem d18_17 : decode prog_5_method_18_code 17 = .ok (.getfield 27, 3) := by decide +kernel
theorem d18_20 : decode prog_5_method_18_code 20 = .ok (.aload_n 0, 1) := by decide +kernel
theorem d18_21 : decode prog_5_method_18_code 21 = .ok (.getfield 23, 3) := by decide +kernel
theorem d18_24 : decode prog_5_method_18_code 24 = .ok (.aload_n 0, 1) := by decide +kernel
theorem d18_25 : decode prog_5_method_18_code 25 = .ok (.iload_n 1, 1) := by decide +kernel
theorem d18_26 : decode prog_5_method_18_code 26 = .ok (.iload_n 3, 1) := by decide +kernel
theorem d18_27 : decode prog_5_method_18_code 27 = .ok (.invokevirtual 57, 3) := by decide +kernel
theorem d18_30 : decode prog_5_method_18_code 30 = .ok (.iaload, 1) := by decide +kernel
theorem d18_31 : decode prog_5_method_18_code 31 = .ok (.iconst (-1), 1) := by decide +kernel
theorem d18_32 : decode prog_5_method_18_code 32 = .ok (.iastore, 1) := by decide +kernel
theorem d18_33 : decode prog_5_method_18_code 33 = .ok (.aload_n 0, 1) := by decide +kernel
theorem d18_34 : decode prog_5_method_18_code 34 = .ok (.getfield 23, 3) := by decide +kernel
theorem d18_37 : decode prog_5_method_18_code 37 = .ok (.aload_n 0, 1) := by decide +kernel
theorem d18_38 : decode prog_5_method_18_code 38 = .ok (.iload_n 1, 1) := by decide +kernel
theorem d18_39 : decode prog_5_method_18_code 39 = .ok (.iload_n 3, 1) := by decide +kernel
theorem d18_40 : decode prog_5_method_18_code 40 = .ok (.invokevirtual 57, 3) := by decide +kernel
theorem d18_43 : decode prog_5_method_18_code 43 = .ok (.iconst (-1), 1) := by decide +kernel
theorem d18_44 : decode prog_5_method_18_code 44 = .ok (.iastore, 1) := by decide +kernel
theorem d18_45 : decode prog_5_method_18_code 45 = .ok (.iinc 3 1, 3) := by decide +kernel
theorem d18_48 : decode prog_5_method_18_code 48 = .ok (.goto (-40), 3) := by decide +kernel
set_option maxRecDepth 65536 in
set_option maxHeartbeats 40000000 in
theorem own_rmlp (l : Launch) (Z : State) (a0 : Array Value) (hw : ∀ d ∈ tables_1, d.before a0 Z = true) (a : Addr) (pq : Int32) (n : Int32) (rr : Int32) (nr : Int32) (ns : Int32) (wk : Addr) (kw : ClassId) (sl : Addr) (ks : ClassId) (vs : List Value) (us : List Value) (rb_1 : Addr) (h0 : Heap) (n0 : Nat) (Z0 : n0 ≤ h0.size) {p : Program} {e : Env} {s : State} {m : MethodId} {below : List Frame} {meth : Method} {c : Code} (hx : p.tables.exec = Jvm.exec) (hZ : Z.Warmed39 s.vm) (hby : c.code = prog_5_method_18_code) (hml : c.maxLocals = 4) (hown : s.vm.findClass "com/example/kneiphof/kneiphof/Assignment" = some m.cls) (hret : meth.sig.returnType = some (.array .int)) (hlk : meth.locks = false) (hh : s.heap = h0) (k_ : Nat) :
    ∀ (Tc : State) (Hc : Heap) (locsc : List Loc) (i : Int32) (vw : List Value) (vu : List Value) (Xc : Stand p l e ({ frames := 4, cells := 1, slots := 4, locals := 83 } : Room) s m #[(.ref a), (.int pq)] below meth c Tc locsc 1 4) (ec : Tc.heap = Hc) (Nc : Fr n0 locsc) (Kc0 : Keep h0 Hc [wk, sl]) (zc0 : Exa Z Hc a "com/example/kneiphof/kneiphof/Assignment") (zc1 : Fld Z Hc a "com/example/kneiphof/kneiphof/Assignment" "replicas" "I" (.int rr)) (zc2 : Fld Z Hc a "com/example/kneiphof/kneiphof/Assignment" "workers" "[I" (.ref wk)) (zc3 : Fld Z Hc a "com/example/kneiphof/kneiphof/Assignment" "slots" "[I" (.ref sl)) (zc4 : Arv Z Hc wk kw .int nr vw (.int (0 : Int32))) (zc5 : Arv Z Hc sl ks .int ns vu (.int (0 : Int32))) (gc6 : n0 ≤ wk) (gc7 : n0 ≤ sl) (nc8 : wk ≠ sl) (nc9 : a ≠ wk) (nc10 : a ≠ sl) (hn : 1 ≤ n.toInt ∧ n.toInt ≤ 4) (hr : 1 ≤ rr.toInt ∧ rr.toInt ≤ 4) (hnr : nr.toInt = n.toInt * rr.toInt) (hns : ns.toInt = n.toInt * rr.toInt + rr.toInt) (hp : 0 ≤ pq.toInt ∧ pq.toInt < n.toInt) (hvl : vs.length = (nr).toNatClampNeg) (hul : us.length = (ns).toNatClampNeg) (hfc : Z.vm.findClass "[I" = some kw) (hblk : own_blk vs rr.toInt pq.toInt ns.toInt) (hms : i.toInt + (k_ : Int) = rr.toInt) (hi0 : 0 ≤ i.toInt) (hvw : vw.length = (nr).toNatClampNeg) (hvu : vu.length = (ns).toNatClampNeg) (hrm : own_rem vs vw rr.toInt pq.toInt i.toInt),
    ∃ U_ o_, Steps p.tables e below (Tc.setTop (mkF m 8 #[.val (.ref a), .val (.int pq), .val (.ref rb_1), .val (.int i)] [])) U_ ∧ U_.status = .running ∧ Ended U_ below o_ ∧ (∃ v_ L_, o_ = .returned v_ ∧ Q_rmRem Z a pq n rr nr ns wk kw sl ks vs us h0 n0 v_ U_.heap L_ ∧ FrameEnd s o_ U_ L_ ({ frames := 4, cells := 1, slots := 4, locals := 83 } : Room).cells ({ frames := 4, cells := 1, slots := 4, locals := 83 } : Room).slots) := by
  induction k_ with
  | zero =>
    intro Tc Hc locsc i vw vu Xc ec Nc Kc0 zc0 zc1 zc2 zc3 zc4 zc5 gc6 gc7 nc8 nc9 nc10 hn hr hnr hns hp hvl hul hfc hblk hms hi0 hvw hvu hrm
    have hge : ¬ (i < rr) := by rw [Int32.lt_iff_toInt_lt]; omega
    refine own_go (A := Tc.setTop (mkF m 10 #[.val (.ref a), .val (.int pq), .val (.ref rb_1), .val (.int i)] [(.ref a), (.int i)])) (fun t_ k_ => ?_) ?_
    · show Steps p.tables e below (Tc.setTop (mkF m 8 #[.val (.ref a), .val (.int pq), .val (.ref rb_1), .val (.int i)] [])) t_
      refine XS.iloadN Xc.here hx rfl (hb hby d18_8) rfl ?_
      refine XS.aloadN Xc.here hx rfl (hb hby d18_9) rfl rfl ?_
      exact k_
    obtain ⟨T2, X2, e2, st2⟩ := getF Xc hx hZ hown (host := "") (Or.inl (own_w hw 38 rfl)) Via.refl ec zc1 (g := (mkF m 10 #[.val (.ref a), .val (.int pq), .val (.ref rb_1), .val (.int i)] [(.ref a), (.int i)])) rfl rfl (hb hby d18_10)
    refine own_go st2 ?_
    refine own_go (A := T2.setTop (mkF m 52 #[.val (.ref a), .val (.int pq), .val (.ref rb_1), .val (.int i)] [(.ref rb_1)])) (fun t_ k_ => ?_) ?_
    · show Steps p.tables e below (T2.setTop (mkF m 13 #[.val (.ref a), .val (.int pq), .val (.ref rb_1), .val (.int i)] [(.int rr), (.int i)])) t_
      refine XS.icmpYes X2.here hx rfl (pc0 := 13) (pc' := 51) rfl (hb hby d18_13) rfl (flt hge).2.1 (by decide) (by decide) ?_
      refine XS.aloadN X2.here hx rfl (hb hby d18_51) rfl rfl ?_
      exact k_
    obtain ⟨fs3, hr3, hrun3, hended3, hW3, hsame3⟩ := X2.leave (v := some (.ref rb_1)) (fun h => by rw [hret] at h; cases h)
    refine ⟨_, _, ?_, hrun3, hended3, _, _, rfl, ?_, ⟨_, rfl⟩, hW3, hsame3.mono (by decide) (by decide)⟩
    · exact own_retA X2 hx hret rfl rfl rfl (hb hby d18_52) hr3
    · show Q_rmRem Z a pq n rr nr ns wk kw sl ks vs us h0 n0 _ T2.heap _
      rw [e2]
      exact ⟨rb_1, vw, vu, rfl, Nc, Kc0, zc4, zc5, hvw, hvu, (own_eqr hrm (by omega))⟩
  | succ k_ ih =>
    intro Tc Hc locsc i vw vu Xc ec Nc Kc0 zc0 zc1 zc2 zc3 zc4 zc5 gc6 gc7 nc8 nc9 nc10 hn hr hnr hns hp hvl hul hfc hblk hms hi0 hvw hvu hrm
    have hlt : i < rr := own_lt (by omega)
    have hlt' : i.toInt < rr.toInt := by omega
    refine own_go (A := Tc.setTop (mkF m 10 #[.val (.ref a), .val (.int pq), .val (.ref rb_1), .val (.int i)] [(.ref a), (.int i)])) (fun t_ k_ => ?_) ?_
    · show Steps p.tables e below (Tc.setTop (mkF m 8 #[.val (.ref a), .val (.int pq), .val (.ref rb_1), .val (.int i)] [])) t_
      refine XS.iloadN Xc.here hx rfl (hb hby d18_8) rfl ?_
      refine XS.aloadN Xc.here hx rfl (hb hby d18_9) rfl rfl ?_
      exact k_
    obtain ⟨T4, X4, e4, st4⟩ := getF Xc hx hZ hown (host := "") (Or.inl (own_w hw 38 rfl)) Via.refl ec zc1 (g := (mkF m 10 #[.val (.ref a), .val (.int pq), .val (.ref rb_1), .val (.int i)] [(.ref a), (.int i)])) rfl rfl (hb hby d18_10)
    refine own_go st4 ?_
    refine own_go (A := T4.setTop (mkF m 17 #[.val (.ref a), .val (.int pq), .val (.ref rb_1), .val (.int i)] [(.ref a)])) (fun t_ k_ => ?_) ?_
    · show Steps p.tables e below (T4.setTop (mkF m 13 #[.val (.ref a), .val (.int pq), .val (.ref rb_1), .val (.int i)] [(.int rr), (.int i)])) t_
      refine XS.icmpNo X4.here hx rfl (hb hby d18_13) rfl (tlt hlt).2.1 ?_
      refine XS.aloadN X4.here hx rfl (hb hby d18_16) rfl rfl ?_
      exact k_
    obtain ⟨T5, X5, e5, st5⟩ := getF X4 hx hZ hown (host := "") (Or.inl (own_w hw 43 rfl)) Via.refl e4 zc3 (g := (mkF m 17 #[.val (.ref a), .val (.int pq), .val (.ref rb_1), .val (.int i)] [(.ref a)])) rfl rfl (hb hby d18_17)
    refine own_go st5 ?_
    refine own_go (A := T5.setTop (mkF m 21 #[.val (.ref a), .val (.int pq), .val (.ref rb_1), .val (.int i)] [(.ref a), (.ref sl)])) (fun t_ k_ => ?_) ?_
    · show Steps p.tables e below (T5.setTop (mkF m 20 #[.val (.ref a), .val (.int pq), .val (.ref rb_1), .val (.int i)] [(.ref sl)])) t_
      refine XS.aloadN X5.here hx rfl (hb hby d18_20) rfl rfl ?_
      exact k_
    obtain ⟨T6, X6, e6, st6⟩ := getF X5 hx hZ hown (host := "") (Or.inl (own_w hw 41 rfl)) Via.refl e5 zc2 (g := (mkF m 21 #[.val (.ref a), .val (.int pq), .val (.ref rb_1), .val (.int i)] [(.ref a), (.ref sl)])) rfl rfl (hb hby d18_21)
    refine own_go st6 ?_
    refine own_go (A := T6.setTop (mkF m 27 #[.val (.ref a), .val (.int pq), .val (.ref rb_1), .val (.int i)] [(.int i), (.int pq), (.ref a), (.ref wk), (.ref sl)])) (fun t_ k_ => ?_) ?_
    · show Steps p.tables e below (T6.setTop (mkF m 24 #[.val (.ref a), .val (.int pq), .val (.ref rb_1), .val (.int i)] [(.ref wk), (.ref sl)])) t_
      refine XS.aloadN X6.here hx rfl (hb hby d18_24) rfl rfl ?_
      refine XS.iloadN X6.here hx rfl (hb hby d18_25) rfl ?_
      refine XS.iloadN X6.here hx rfl (hb hby d18_26) rfl ?_
      exact k_
    obtain ⟨cq7, kq7, q7a, q7b, q7c⟩ := isOf hZ e6 zc0
    obtain ⟨_, _, ⟨T7, L7, k7, n7⟩, -, X7, ⟨Lc7, hQ7, l7, y7, z7⟩, st7⟩ := X6.virtualBack hx (y := own_y15) (z := own_y15) hown (mvT hZ (own_w hw 118 rfl)) (mvT hZ (own_w hw 119 rfl)) (notFace_of_selects (args := #[]) (mvT hZ (own_w hw 121 rfl))) (mvT hZ (own_w hw 121 rfl)) (mvT hZ (own_w hw 120 rfl)) (by decide) (backOf (W := 2) (rmSlot l Z a0 hw [] a pq i rr Hc n0 (Nat.le_trans Z0 Kc0.1) zc0 zc1) hZ (own_w hw 122 rfl) (own_w hw 3 rfl) (by decide) (by decide)) q7a q7c (g := (mkF m 27 #[.val (.ref a), .val (.int pq), .val (.ref rb_1), .val (.int i)] [(.int i), (.int pq), (.ref a), (.ref wk), (.ref sl)])) rfl (by rw [hml]; rfl) (Steps.refl _) (argsL := [(.int pq), (.int i)]) (rest := [(.ref wk), (.ref sl)]) (lenOf pd_1 rfl) rfl (by show 2 * 0 + _ ≤ _; exact Nat.le_of_eq rfl) (hb hby d18_27) (fun _ _ => ⟨rfl, e6, (by decide : 1 + 0 ≤ _), (by decide : 4 + 0 ≤ _)⟩)
    dsimp only [Pt.U, Pt.locs, Pt.cells, Pt.slots] at X7 l7 y7 z7 st7 hQ7
    subst l7 y7 z7
    obtain ⟨rfl, N7q, eh7⟩ := hQ7
    have N7 := Fr.app Nc N7q
    refine own_via st7 ?_
    obtain ⟨cl8, Ar8, q8, S8, M8, H8, G8⟩ := id zc4
    obtain ⟨w9, hw9, hwa9, hwb9⟩ := hblk i.toInt hi0 hlt'
    have hin8 : ¬ (((pq * rr) + i) < 0 ∨ cl8.slots.size ≤ (((pq * rr) + i)).toNatClampNeg) := inb_of S8 ⟨own_j0 hr hn hp hi0 (Int.le_of_lt hlt'), own_j1 hr hn hp hnr hi0 hlt'⟩
    have hat8 : cl8.slots[(((pq * rr) + i)).toNatClampNeg]? = some (.int w9) := Has.at H8 hin8 (by rw [own_jn hr hn hp hi0 (Int.le_of_lt hlt'), own_rat (own_pr hr hn hp).1 hi0 hrm]; exact hw9)
    refine own_go (A := T7.setTop (mkF m 32 #[.val (.ref a), .val (.int pq), .val (.ref rb_1), .val (.int i)] [(.int (-1 : Int32)), (.int w9), (.ref sl)])) (fun t_ k_ => ?_) ?_
    · show Steps p.tables e below (T7.setTop (mkF m 30 #[.val (.ref a), .val (.int pq), .val (.ref rb_1), .val (.int i)] [(.int ((pq * rr) + i)), (.ref wk), (.ref sl)])) t_
      refine X7.iaload hx (j := ((pq * rr) + i)) (v := (.int w9)) (by rw [eh7]; exact Ar8.1) (State.isArrayOf_alike hZ.alike Ar8.2.1) Ar8.2.2 hin8 hat8 (g := (mkF m 30 #[.val (.ref a), .val (.int pq), .val (.ref rb_1), .val (.int i)] [(.int ((pq * rr) + i)), (.ref wk), (.ref sl)])) rfl rfl (hb hby d18_30) _ ?_
      refine XS.iconst X7.here hx rfl (hb hby d18_31) ?_
      exact k_
    obtain ⟨cl10, Ar10, q10, S10, M10, H10, G10⟩ := id zc5
    have hin10 : ¬ (w9 < 0 ∨ cl10.slots.size ≤ (w9).toNatClampNeg) := inb_of S10 ⟨own_n0 hwa9, own_lt hwb9⟩
    obtain ⟨T11, h11, X11, e11, W11, st11⟩ := stI X7 hx hZ eh7 Ar10 (j := w9) hin10 (g := (mkF m 32 #[.val (.ref a), .val (.int pq), .val (.ref rb_1), .val (.int i)] [(.int (-1 : Int32)), (.int w9), (.ref sl)])) rfl rfl (hb hby d18_32)
    obtain ⟨vs11, hvs11⟩ : ∃ z_ : List Value, z_ = (vu.set (w9).toNatClampNeg (.int (-1 : Int32))) := ⟨_, rfl⟩
    have B11 : Arv Z h11 sl ks .int ns vs11 (.int (0 : Int32)) := hvs11 ▸ Arv.set Ar10 q10 S10 M10 H10 G10 rfl W11 _ rfl (own_ln hwa9 (own_lt hwb9) hvu)
    refine own_go st11 ?_
    have K11 : Keep h0 h11 [wk, sl] := Kc0.wr W11 (Or.inl (List.mem_of_getElem? (i := 1) rfl))
    have N11 := Fr.snoc X11 N7 gc7
    refine own_go (A := T11.setTop (mkF m 34 #[.val (.ref a), .val (.int pq), .val (.ref rb_1), .val (.int i)] [(.ref a)])) (fun t_ k_ => ?_) ?_
    · show Steps p.tables e below (T11.setTop (mkF m 33 #[.val (.ref a), .val (.int pq), .val (.ref rb_1), .val (.int i)] [])) t_
      refine XS.aloadN X11.here hx rfl (hb hby d18_33) rfl rfl ?_
      exact k_
    obtain ⟨T12, X12, e12, st12⟩ := getF X11 hx hZ hown (host := "") (Or.inl (own_w hw 41 rfl)) Via.refl e11 (zc2.other W11 (Or.inl nc10)) (g := (mkF m 34 #[.val (.ref a), .val (.int pq), .val (.ref rb_1), .val (.int i)] [(.ref a)])) rfl rfl (hb hby d18_34)
    refine own_go st12 ?_
    refine own_go (A := T12.setTop (mkF m 40 #[.val (.ref a), .val (.int pq), .val (.ref rb_1), .val (.int i)] [(.int i), (.int pq), (.ref a), (.ref wk)])) (fun t_ k_ => ?_) ?_
    · show Steps p.tables e below (T12.setTop (mkF m 37 #[.val (.ref a), .val (.int pq), .val (.ref rb_1), .val (.int i)] [(.ref wk)])) t_
      refine XS.aloadN X12.here hx rfl (hb hby d18_37) rfl rfl ?_
      refine XS.iloadN X12.here hx rfl (hb hby d18_38) rfl ?_
      refine XS.iloadN X12.here hx rfl (hb hby d18_39) rfl ?_
      exact k_
    obtain ⟨cq13, kq13, q13a, q13b, q13c⟩ := isOf hZ e12 (zc0.wr W11)
    obtain ⟨_, _, ⟨T13, L13, k13, n13⟩, -, X13, ⟨Lc13, hQ13, l13, y13, z13⟩, st13⟩ := X12.virtualBack hx (y := own_y15) (z := own_y15) hown (mvT hZ (own_w hw 118 rfl)) (mvT hZ (own_w hw 119 rfl)) (notFace_of_selects (args := #[]) (mvT hZ (own_w hw 121 rfl))) (mvT hZ (own_w hw 121 rfl)) (mvT hZ (own_w hw 120 rfl)) (by decide) (backOf (W := 1) (rmSlot l Z a0 hw [] a pq i rr h11 n0 (Nat.le_trans Z0 K11.1) (zc0.wr W11) (zc1.other W11 (Or.inl nc10))) hZ (own_w hw 122 rfl) (own_w hw 3 rfl) (by decide) (by decide)) q13a q13c (g := (mkF m 40 #[.val (.ref a), .val (.int pq), .val (.ref rb_1), .val (.int i)] [(.int i), (.int pq), (.ref a), (.ref wk)])) rfl (by rw [hml]; rfl) (Steps.refl _) (argsL := [(.int pq), (.int i)]) (rest := [(.ref wk)]) (lenOf pd_1 rfl) rfl (by show 2 * 0 + _ ≤ _; exact Nat.le_of_eq rfl) (hb hby d18_40) (fun _ _ => ⟨rfl, e12, (by decide : 1 + 0 ≤ _), (by decide : 4 + 0 ≤ _)⟩)
    dsimp only [Pt.U, Pt.locs, Pt.cells, Pt.slots] at X13 l13 y13 z13 st13 hQ13
    subst l13 y13 z13
    obtain ⟨rfl, N13q, eh13⟩ := hQ13
    have N13 := Fr.app N11 N13q
    refine own_via st13 ?_
    refine own_go (A := T13.setTop (mkF m 44 #[.val (.ref a), .val (.int pq), .val (.ref rb_1), .val (.int i)] [(.int (-1 : Int32)), (.int ((pq * rr) + i)), (.ref wk)])) (fun t_ k_ => ?_) ?_
    · show Steps p.tables e below (T13.setTop (mkF m 43 #[.val (.ref a), .val (.int pq), .val (.ref rb_1), .val (.int i)] [(.int ((pq * rr) + i)), (.ref wk)])) t_
      refine XS.iconst X13.here hx rfl (hb hby d18_43) ?_
      exact k_
    obtain ⟨cl14, Ar14, q14, S14, M14, H14, G14⟩ := id (zc4.other W11 nc8)
    have hin14 : ¬ (((pq * rr) + i) < 0 ∨ cl14.slots.size ≤ (((pq * rr) + i)).toNatClampNeg) := inb_of S14 ⟨own_j0 hr hn hp hi0 (Int.le_of_lt hlt'), own_j1 hr hn hp hnr hi0 hlt'⟩
    obtain ⟨T15, h15, X15, e15, W15, st15⟩ := stI X13 hx hZ eh13 Ar14 (j := ((pq * rr) + i)) hin14 (g := (mkF m 44 #[.val (.ref a), .val (.int pq), .val (.ref rb_1), .val (.int i)] [(.int (-1 : Int32)), (.int ((pq * rr) + i)), (.ref wk)])) rfl rfl (hb hby d18_44)
    obtain ⟨vs15, hvs15⟩ : ∃ z_ : List Value, z_ = (vw.set (((pq * rr) + i)).toNatClampNeg (.int (-1 : Int32))) := ⟨_, rfl⟩
    have B15 : Arv Z h15 wk kw .int nr vs15 (.int (0 : Int32)) := hvs15 ▸ Arv.set Ar14 q14 S14 M14 H14 G14 rfl W15 _ rfl (own_ln (own_nn (own_j0 hr hn hp hi0 (Int.le_of_lt hlt'))) (own_j1 hr hn hp hnr hi0 hlt') hvw)
    refine own_go st15 ?_
    have K15 : Keep h0 h15 [wk, sl] := K11.wr W15 (Or.inl (List.mem_of_getElem? (i := 0) rfl))
    have N15 := Fr.snoc X15 N13 gc6
    refine own_go (A := T15.setTop (mkF m 8 #[.val (.ref a), .val (.int pq), .val (.ref rb_1), .val (.int (i + (1 : Int32)))] [])) (fun t_ k_ => ?_) ?_
    · show Steps p.tables e below (T15.setTop (mkF m 45 #[.val (.ref a), .val (.int pq), .val (.ref rb_1), .val (.int i)] [])) t_
      refine XS.iinc X15.here hx rfl (hb hby d18_45) rfl (l' := #[.val (.ref a), .val (.int pq), .val (.ref rb_1), .val (.int (i + (1 : Int32)))]) rfl ?_
      refine XS.goto X15.here hx rfl (pc0 := 48) (pc' := 8) rfl (hb hby d18_48) (by decide) (by decide) ?_
      exact k_
    exact ih T15 h15 _ (i + (1 : Int32)) vs15 vs11 X15 e15 N15 K15 ((zc0.wr W11).wr W15) ((zc1.other W11 (Or.inl nc10)).other W15 (Or.inl nc9)) ((zc2.other W11 (Or.inl nc10)).other W15 (Or.inl nc9)) ((zc3.other W11 (Or.inl nc10)).other W15 (Or.inl nc9)) B15 (B11.other W15 (Ne.symm nc8)) gc6 gc7 nc8 nc9 nc10 hn hr hnr hns hp hvl hul hfc hblk (by rw [own_inc hi0 hlt]; omega) (by rw [own_inc hi0 hlt]; omega) (by rw [hvs15, List.length_set]; exact hvw) (by rw [hvs11, List.length_set]; exact hvu) (by rw [hvs15, own_inc hi0 hlt]; exact own_rem1 (own_pr hr hn hp).1 hi0 (own_jn hr hn hp hi0 (Int.le_of_lt hlt')) (own_ln (own_nn (own_j0 hr hn hp hi0 (Int.le_of_lt hlt'))) (own_j1 hr hn hp hnr hi0 hlt') hvw) hrm)
abbrev own_y18 : MethodName := ⟨"com/example/kneiphof/kneiphof/Assignment", "remove", "(I)[I"⟩
theorem ef_rmRem (m : MethodId) (a : Addr) (pq : Int32) : entryFrame m #[(.ref a), (.int pq)] 4 = mkF m 0 #[.val (.ref a), .val (.int pq), .unset, .unset] [] := by first | (simp [entryFrame, mkF, argsToLocals, Value.category]; done) | rfl
set_option maxRecDepth 65536 in
set_option maxHeartbeats 40000000 in
theorem rmRem (l : Launch) (Z : State) (a0 : Array Value) (hw : ∀ d ∈ tables_1, d.before a0 Z = true) (ws : List Jvm.Cond) (a : Addr) (pq : Int32) (n : Int32) (rr : Int32) (nr : Int32) (ns : Int32) (wk : Addr) (kw : ClassId) (sl : Addr) (ks : ClassId) (vs : List Value) (us : List Value) (h0 : Heap) (n0 : Nat) (Z0 : n0 ≤ h0.size) (u0 : Exa Z h0 a "com/example/kneiphof/kneiphof/Assignment") (u1 : Fld Z h0 a "com/example/kneiphof/kneiphof/Assignment" "replicas" "I" (.int rr)) (u2 : Fld Z h0 a "com/example/kneiphof/kneiphof/Assignment" "workers" "[I" (.ref wk)) (u3 : Fld Z h0 a "com/example/kneiphof/kneiphof/Assignment" "slots" "[I" (.ref sl)) (u4 : Arv Z h0 wk kw .int nr vs (.int (0 : Int32))) (u5 : Arv Z h0 sl ks .int ns us (.int (0 : Int32))) (u6 : n0 ≤ wk) (u7 : n0 ≤ sl) (u8 : wk ≠ sl) (u9 : a ≠ wk) (u10 : a ≠ sl) (hn : 1 ≤ n.toInt ∧ n.toInt ≤ 4) (hr : 1 ≤ rr.toInt ∧ rr.toInt ≤ 4) (hnr : nr.toInt = n.toInt * rr.toInt) (hns : ns.toInt = n.toInt * rr.toInt + rr.toInt) (hp : 0 ≤ pq.toInt ∧ pq.toInt < n.toInt) (hvl : vs.length = (nr).toNatClampNeg) (hul : us.length = (ns).toNatClampNeg) (hfc : Z.vm.findClass "[I" = some kw) (hblk : own_blk vs rr.toInt pq.toInt ns.toInt) :
    MetFree l own_y18 (head1 (Jvm.Cond.code own_y18 prog_5_method_18_code 4 (some (.array .int)) :: ws) ({ frames := 4, cells := 1, slots := 4, locals := 83 } : Room)) (fun a_ U_ => a_ = #[(.ref a), (.int pq)] ∧ Z.Warmed39 U_.vm ∧ U_.heap = h0) (fun _ _ _ _ _ => True) (fun _ U_ o_ U2_ => ∃ v_ L_, o_ = .returned v_ ∧ Q_rmRem Z a pq n rr nr ns wk kw sl ks vs us h0 n0 v_ U2_.heap L_ ∧ FrameEnd U_ o_ U2_ L_ ({ frames := 4, cells := 1, slots := 4, locals := 83 } : Room).cells ({ frames := 4, cells := 1, slots := 4, locals := 83 } : Room).slots) := by
  refine MetFree.of_bodySF (plainFor_of_name pn_7) hisR ?_
  intro p e s m args below meth c s₁ Bd hml0 hP hK
  obtain ⟨rfl, hZ, hh⟩ := hP
  have hx := Bd.exec
  have hby := Bd.bytes
  have hml : c.maxLocals = 4 := hml0
  have hown : s.vm.findClass "com/example/kneiphof/kneiphof/Assignment" = some m.cls := findClass_of_methodNamed Bd.named
  have hnm := (name_of_methodNamed Bd.named Bd.method).1
  have X0 : Stand p l e ({ frames := 4, cells := 1, slots := 4, locals := 83 } : Room) s m #[(.ref a), (.int pq)] below meth c s₁ [] 0 0 := Stand.of_body Bd
  have e0 : s₁.heap = h0 := by rw [← hh, Bd.state]; rfl
  have N0 := Fr.nil n0
  refine own_go (A := s₁.setTop (mkF m 0 #[.val (.ref a), .val (.int pq), .unset, .unset] [])) (fun t_ k_ => castTop (ef_rmRem m a pq) k_) ?_
  refine own_go (A := s₁.setTop (mkF m 2 #[.val (.ref a), .val (.int pq), .unset, .unset] [(.int pq), (.ref a)])) (fun t_ k_ => ?_) ?_
  · show Steps p.tables e below (s₁.setTop (mkF m 0 #[.val (.ref a), .val (.int pq), .unset, .unset] [])) t_
    refine XS.aloadN X0.here hx rfl (hb hby d18_0) rfl rfl ?_
    refine XS.iloadN X0.here hx rfl (hb hby d18_1) rfl ?_
    exact k_
  obtain ⟨w0, hw0, hw0a, hw0b⟩ := hblk 0 (Int.le_refl 0) (by omega)
  obtain ⟨cq1, kq1, q1a, q1b, q1c⟩ := isOf hZ e0 u0
  obtain ⟨_, _, ⟨T1, L1, k1, n1⟩, -, X1, ⟨Lc1, hQ1, l1, y1, z1⟩, st1⟩ := X0.virtualBack hx (y := own_y17) (z := own_y17) hown (mvT hZ (own_w hw 128 rfl)) (mvT hZ (own_w hw 129 rfl)) (notFace_of_selects (args := #[]) (mvT hZ (own_w hw 131 rfl))) (mvT hZ (own_w hw 131 rfl)) (mvT hZ (own_w hw 130 rfl)) (by decide) (backOf (W := 0) (rmSet l Z a0 hw [] a pq rr wk kw nr vs w0 h0 n0 Z0 u0 u1 u2 u4 (own_j0 hr hn hp (show (0 : Int) ≤ (0 : Int32).toInt from Int.le_refl 0) (show (0 : Int32).toInt ≤ rr.toInt by rw [own_i0]; omega)) (own_j1 hr hn hp hnr (show (0 : Int) ≤ (0 : Int32).toInt from Int.le_refl 0) (by rw [own_i0]; omega)) (by rw [own_jn hr hn hp (show (0 : Int) ≤ (0 : Int32).toInt from Int.le_refl 0) (show (0 : Int32).toInt ≤ rr.toInt by rw [own_i0]; omega)]; exact hw0) (own_m1 hw0a) hfc (by rw [own_jx hr hn hp (show (0 : Int) ≤ (0 : Int32).toInt from Int.le_refl 0) (show (0 : Int32).toInt ≤ rr.toInt by rw [own_i0]; omega), own_jx hr hn hp (by omega) (Int.le_refl _), own_i0]; omega) (by rw [own_jx hr hn hp (by omega) (Int.le_refl _), hnr]; exact (own_pr hr hn hp).2.1) (by rw [own_jx hr hn hp (show (0 : Int) ≤ (0 : Int32).toInt from Int.le_refl 0) (show (0 : Int32).toInt ≤ rr.toInt by rw [own_i0]; omega), own_jx hr hn hp (by omega) (Int.le_refl _), own_i0]; omega)) hZ (own_w hw 132 rfl) (own_w hw 3 rfl) (by decide) (by decide)) q1a q1c (g := (mkF m 2 #[.val (.ref a), .val (.int pq), .unset, .unset] [(.int pq), (.ref a)])) rfl (by rw [hml]; rfl) (Steps.refl _) (argsL := [(.int pq)]) (rest := []) (lenOf pd_12 rfl) rfl (by show 2 * 0 + _ ≤ _; exact Nat.le_of_eq rfl) (hb hby d18_2) (fun _ _ => ⟨rfl, e0, (by decide : 0 + 1 ≤ _), (by decide : 0 + 4 ≤ _)⟩)
  dsimp only [Pt.U, Pt.locs, Pt.cells, Pt.slots] at X1 l1 y1 z1 st1 hQ1
  subst l1 y1 z1
  obtain ⟨rb_1, rfl, N1q, Kc1⟩ := hQ1
  have N1 := Fr.app N0 N1q
  refine own_via st1 ?_
  have K1 : Keep h0 T1.heap [wk, sl] := (Keep.refl h0 [wk, sl]).trans Kc1 all0
  refine own_go (A := T1.setTop (mkF m 8 #[.val (.ref a), .val (.int pq), .val (.ref rb_1), .val (.int (0 : Int32))] [])) (fun t_ k_ => ?_) ?_
  · show Steps p.tables e below (T1.setTop (mkF m 5 #[.val (.ref a), .val (.int pq), .unset, .unset] [(.ref rb_1)])) t_
    refine XS.astoreN X1.here hx rfl (hb hby d18_5) rfl rfl (l' := #[.val (.ref a), .val (.int pq), .val (.ref rb_1), .unset]) rfl ?_
    refine XS.iconst X1.here hx rfl (hb hby d18_6) ?_
    refine XS.istoreN X1.here hx rfl (hb hby d18_7) rfl (l' := #[.val (.ref a), .val (.int pq), .val (.ref rb_1), .val (.int (0 : Int32))]) rfl ?_
    exact k_
  exact own_rmlp l Z a0 hw a pq n rr nr ns wk kw sl ks vs us rb_1 h0 n0 Z0 hx hZ hby hml hown Bd.returns (BodyLoose.notSynchronized Bd) hh (rr.toInt).toNat T1 T1.heap _ (0 : Int32) vs us X1 rfl N1 K1 (u0.keep Kc1) (u1.keep Kc1 nin0) (u2.keep Kc1 nin0) (u3.keep Kc1 nin0) (u4.keep Kc1 nin0) (u5.keep Kc1 nin0) u6 u7 u8 u9 u10 hn hr hnr hns hp hvl hul hfc hblk (by show (0 : Int) + _ = _; omega) (Int.le_refl 0) hvl hul own_rem0
theorem own_nf {s : State} {args : Array Value} {C : String} {x z y : MethodName} (hsel : (Jvm.Cond.selects C x z).before args s = true) (hc : z.cls = y.cls) : NotFace s y := fun r0 h0 => by
  obtain ⟨_, _, m2, _, _, q3, _, mk, h5, h6⟩ := Cond.selects_spec hsel
  have e1 := findClass_of_methodNamed h0; have e2 := findClass_of_methodNamed q3
  rw [hc] at e2
  have e3 : r0.cls = m2.cls := Option.some.inj (e1.symm.trans e2)
  exact ⟨mk, by rw [e3]; exact h5, h6⟩
theorem d27_0 : decode jdk_33_method_27_code 0 = .ok (.aload_n 0, 1) := by decide +kernel
theorem d27_1 : decode jdk_33_method_27_code 1 = .ok (.getfield 205, 3) := by decide +kernel
theorem d27_4 : decode jdk_33_method_27_code 4 = .ok (.ireturn, 1) := by decide +kernel
abbrev own_y19 : MethodName := ⟨"java/lang/Integer", "intValue", "()I"⟩
theorem ef_rmIV (m : MethodId) (xx : Addr) : entryFrame m #[(.ref xx)] 1 = mkF m 0 #[.val (.ref xx)] [] := by first | (simp [entryFrame, mkF, argsToLocals, Value.category]; done) | rfl
def Q_rmIV (Z : State) (xx : Addr) (z : Int32) (h0 : Heap) (n0 : Nat) (v_ : Option Value) (h_ : Heap) (L_ : List Loc) : Prop := v_ = some (.int z) ∧ Fr n0 L_ ∧ h_ = h0
set_option maxRecDepth 65536 in
set_option maxHeartbeats 40000000 in
theorem rmIV (l : Launch) (Z : State) (a0 : Array Value) (hw : ∀ d ∈ tables_1, d.before a0 Z = true) (ws : List Jvm.Cond) (xx : Addr) (z : Int32) (h0 : Heap) (n0 : Nat) (Z0 : n0 ≤ h0.size) (O0 : Old Z n0 h0) (u1 : Exa Z Z.heap xx "java/lang/Integer") (u2 : Fld Z Z.heap xx "java/lang/Integer" "value" "I" (.int z)) :
    MetFree l own_y19 (head1 (Jvm.Cond.code own_y19 jdk_33_method_27_code 1 (some .int) :: ws) ({ frames := 0, cells := 0, slots := 0, locals := 0 } : Room)) (fun a_ U_ => a_ = #[(.ref xx)] ∧ Z.Warmed39 U_.vm ∧ U_.heap = h0) (fun _ _ _ _ _ => True) (fun _ U_ o_ U2_ => ∃ v_ L_, o_ = .returned v_ ∧ Q_rmIV Z xx z h0 n0 v_ U2_.heap L_ ∧ FrameEnd U_ o_ U2_ L_ ({ frames := 0, cells := 0, slots := 0, locals := 0 } : Room).cells ({ frames := 0, cells := 0, slots := 0, locals := 0 } : Room).slots) := by
  refine MetFree.of_bodySF (plainFor_of_name pn_4) hisR ?_
  intro p e s m args below meth c s₁ Bd hml0 hP hK
  obtain ⟨rfl, hZ, hh⟩ := hP
  have hx := Bd.exec
  have hby := Bd.bytes
  have hml : c.maxLocals = 1 := hml0
  have hown : s.vm.findClass "java/lang/Integer" = some m.cls := findClass_of_methodNamed Bd.named
  have hnm := (name_of_methodNamed Bd.named Bd.method).1
  have X0 : Stand p l e ({ frames := 0, cells := 0, slots := 0, locals := 0 } : Room) s m #[(.ref xx)] below meth c s₁ [] 0 0 := Stand.of_body Bd
  have e0 : s₁.heap = h0 := by rw [← hh, Bd.state]; rfl
  have N0 := Fr.nil n0
  refine own_go (A := s₁.setTop (mkF m 0 #[.val (.ref xx)] [])) (fun t_ k_ => castTop (ef_rmIV m xx) k_) ?_
  refine own_go (A := s₁.setTop (mkF m 1 #[.val (.ref xx)] [(.ref xx)])) (fun t_ k_ => ?_) ?_
  · show Steps p.tables e below (s₁.setTop (mkF m 0 #[.val (.ref xx)] [])) t_
    refine XS.aloadN X0.here hx rfl (hb hby d27_0) rfl rfl ?_
    exact k_
  obtain ⟨T1, X1, e1, st1⟩ := getF X0 hx hZ hown (host := "") (Or.inl (own_w hw 180 rfl)) Via.refl e0 (u2.ext O0.2) (g := (mkF m 1 #[.val (.ref xx)] [(.ref xx)])) rfl rfl (hb hby d27_1)
  refine own_go st1 ?_
  obtain ⟨fs2, hr2, hrun2, hended2, hW2, hsame2⟩ := X1.leave (v := some (.int z)) (fun h => by rw [Bd.returns] at h; cases h)
  refine ⟨_, _, ?_, hrun2, hended2, _, _, rfl, ?_, ⟨_, rfl⟩, hW2, hsame2.mono (by decide) (by decide)⟩
  · exact own_retI X1 hx Bd.returns (hb hby d27_4) hr2
  · show Q_rmIV Z xx z h0 n0 _ T1.heap _
    rw [e1]
    exact ⟨rfl, N0, rfl⟩
theorem d26_0 : decode jdk_33_method_34_code 0 = .ok (.aload_n 1, 1) := by decide +kernel
theorem d26_1 : decode jdk_33_method_34_code 1 = .ok (.instanceof 1, 3) := by decide +kernel
theorem d26_4 : decode jdk_33_method_34_code 4 = .ok (.ifCond .eq 23, 3) := by decide +kernel
theorem d26_7 : decode jdk_33_method_34_code 7 = .ok (.aload_n 0, 1) := by decide +kernel
theorem d26_8 : decode jdk_33_method_34_code 8 = .ok (.getfield 205, 3) := by decide +kernel
theorem d26_11 : decode jdk_33_method_34_code 11 = .ok (.aload_n 1, 1) := by decide +kernel
theorem d26_12 : decode jdk_33_method_34_code 12 = .ok (.checkcast 1, 3) := by decide +kernel
theorem pd_13 : parseMethodDescriptor "()I" = some ⟨[], some .int⟩ := by decide +kernel
theorem d26_15 : decode jdk_33_method_34_code 15 = .ok (.invokevirtual 211, 3) := by decide +kernel
theorem d26_18 : decode jdk_33_method_34_code 18 = .ok (.if_icmp .ne 7, 3) := by decide +kernel
theorem d26_21 : decode jdk_33_method_34_code 21 = .ok (.iconst 1, 1) := by decide +kernel
theorem d26_22 : decode jdk_33_method_34_code 22 = .ok (.goto 4, 3) := by decide +kernel
theorem d26_26 : decode jdk_33_method_34_code 26 = .ok (.ireturn, 1) := by decide +kernel
abbrev own_y20 : MethodName := ⟨"java/lang/Integer", "equals", "(Ljava/lang/Object;)Z"⟩
theorem ef_rmEq (m : MethodId) (xx : Addr) (yy : Addr) : entryFrame m #[(.ref xx), (.ref yy)] 2 = mkF m 0 #[.val (.ref xx), .val (.ref yy)] [] := by first | (simp [entryFrame, mkF, argsToLocals, Value.category]; done) | rfl
def Q_rmEq (Z : State) (xx : Addr) (yy : Addr) (z : Int32) (h0 : Heap) (n0 : Nat) (v_ : Option Value) (h_ : Heap) (L_ : List Loc) : Prop := v_ = some (.int (1 : Int32)) ∧ Fr n0 L_ ∧ h_ = h0
set_option maxRecDepth 65536 in
set_option maxHeartbeats 40000000 in
theorem rmEq (l : Launch) (Z : State) (a0 : Array Value) (hw : ∀ d ∈ tables_1, d.before a0 Z = true) (ws : List Jvm.Cond) (xx : Addr) (yy : Addr) (z : Int32) (h0 : Heap) (n0 : Nat) (Z0 : n0 ≤ h0.size) (O0 : Old Z n0 h0) (u1 : Exa Z Z.heap xx "java/lang/Integer") (u2 : Fld Z Z.heap xx "java/lang/Integer" "value" "I" (.int z)) (u3 : Exa Z Z.heap yy "java/lang/Integer") (u4 : Fld Z Z.heap yy "java/lang/Integer" "value" "I" (.int z)) :
    MetFree l own_y20 (head1 (Jvm.Cond.code own_y20 jdk_33_method_34_code 2 (some .boolean) :: ws) ({ frames := 1, cells := 0, slots := 0, locals := 13 } : Room)) (fun a_ U_ => a_ = #[(.ref xx), (.ref yy)] ∧ Z.Warmed39 U_.vm ∧ U_.heap = h0) (fun _ _ _ _ _ => True) (fun _ U_ o_ U2_ => ∃ v_ L_, o_ = .returned v_ ∧ Q_rmEq Z xx yy z h0 n0 v_ U2_.heap L_ ∧ FrameEnd U_ o_ U2_ L_ ({ frames := 1, cells := 0, slots := 0, locals := 13 } : Room).cells ({ frames := 1, cells := 0, slots := 0, locals := 13 } : Room).slots) := by
  refine MetFree.of_bodySF (plainFor_of_name pn_4) hisR ?_
  intro p e s m args below meth c s₁ Bd hml0 hP hK
  obtain ⟨rfl, hZ, hh⟩ := hP
  have hx := Bd.exec
  have hby := Bd.bytes
  have hml : c.maxLocals = 2 := hml0
  have hown : s.vm.findClass "java/lang/Integer" = some m.cls := findClass_of_methodNamed Bd.named
  have hnm := (name_of_methodNamed Bd.named Bd.method).1
  have X0 : Stand p l e ({ frames := 1, cells := 0, slots := 0, locals := 13 } : Room) s m #[(.ref xx), (.ref yy)] below meth c s₁ [] 0 0 := Stand.of_body Bd
  have e0 : s₁.heap = h0 := by rw [← hh, Bd.state]; rfl
  have N0 := Fr.nil n0
  refine own_go (A := s₁.setTop (mkF m 0 #[.val (.ref xx), .val (.ref yy)] [])) (fun t_ k_ => castTop (ef_rmEq m xx yy) k_) ?_
  refine own_go (A := s₁.setTop (mkF m 1 #[.val (.ref xx), .val (.ref yy)] [(.ref yy)])) (fun t_ k_ => ?_) ?_
  · show Steps p.tables e below (s₁.setTop (mkF m 0 #[.val (.ref xx), .val (.ref yy)] [])) t_
    refine XS.aloadN X0.here hx rfl (hb hby d26_0) rfl rfl ?_
    exact k_
  obtain ⟨T1, X1, e1, st1⟩ := instY X0 hx hZ hown (own_w hw 178 rfl) e0 (Ins.self (u3.ext O0.2)) (g := (mkF m 1 #[.val (.ref xx), .val (.ref yy)] [(.ref yy)])) rfl rfl (hb hby d26_1)
  refine own_go st1 ?_
  refine own_go (A := T1.setTop (mkF m 8 #[.val (.ref xx), .val (.ref yy)] [(.ref xx)])) (fun t_ k_ => ?_) ?_
  · show Steps p.tables e below (T1.setTop (mkF m 4 #[.val (.ref xx), .val (.ref yy)] [(.int (1 : Int32))])) t_
    refine XS.ifNo X1.here hx rfl (hb hby d26_4) rfl ((if0 _ _).trans (feq (by decide : ¬ ((1 : Int32) = (0 : Int32)))).1) ?_
    refine XS.aloadN X1.here hx rfl (hb hby d26_7) rfl rfl ?_
    exact k_
  obtain ⟨T2, X2, e2, st2⟩ := getF X1 hx hZ hown (host := "") (Or.inl (own_w hw 180 rfl)) Via.refl e1 (u2.ext O0.2) (g := (mkF m 8 #[.val (.ref xx), .val (.ref yy)] [(.ref xx)])) rfl rfl (hb hby d26_8)
  refine own_go st2 ?_
  refine own_go (A := T2.setTop (mkF m 12 #[.val (.ref xx), .val (.ref yy)] [(.ref yy), (.int z)])) (fun t_ k_ => ?_) ?_
  · show Steps p.tables e below (T2.setTop (mkF m 11 #[.val (.ref xx), .val (.ref yy)] [(.int z)])) t_
    refine XS.aloadN X2.here hx rfl (hb hby d26_11) rfl rfl ?_
    exact k_
  obtain ⟨T3, X3, e3, st3⟩ := castY X2 hx hZ hown (own_w hw 178 rfl) e2 (Ins.self (u3.ext O0.2)) (g := (mkF m 12 #[.val (.ref xx), .val (.ref yy)] [(.ref yy), (.int z)])) rfl rfl (hb hby d26_12)
  refine own_go st3 ?_
  obtain ⟨cq4, kq4, q4a, q4b, q4c⟩ := isOf hZ e3 (u3.ext O0.2)
  obtain ⟨_, _, ⟨T4, L4, k4, n4⟩, -, X4, ⟨Lc4, hQ4, l4, y4, z4⟩, st4⟩ := X3.virtualBack hx (y := own_y19) (z := own_y19) hown (mvT hZ (own_w hw 182 rfl)) (mvT hZ (own_w hw 183 rfl)) (notFace_of_selects (args := #[]) (mvT hZ (own_w hw 185 rfl))) (mvT hZ (own_w hw 185 rfl)) (mvT hZ (own_w hw 184 rfl)) (by decide) (backOf (W := 1) (rmIV l Z a0 hw [] yy z h0 n0 Z0 O0 u3 u4) hZ (own_w hw 186 rfl) (own_w hw 51 rfl) (by decide) (by decide)) q4a q4c (g := (mkF m 15 #[.val (.ref xx), .val (.ref yy)] [(.ref yy), (.int z)])) rfl (by rw [hml]; rfl) (Steps.refl _) (argsL := []) (rest := [(.int z)]) (lenOf pd_13 rfl) rfl (by show 2 * 0 + _ ≤ _; exact Nat.le_of_eq rfl) (hb hby d26_15) (fun _ _ => ⟨rfl, e3, (by decide : 0 + 0 ≤ _), (by decide : 0 + 0 ≤ _)⟩)
  dsimp only [Pt.U, Pt.locs, Pt.cells, Pt.slots] at X4 l4 y4 z4 st4 hQ4
  subst l4 y4 z4
  obtain ⟨rfl, N4q, eh4⟩ := hQ4
  have N4 := Fr.app N0 N4q
  refine own_via st4 ?_
  refine own_go (A := T4.setTop (mkF m 26 #[.val (.ref xx), .val (.ref yy)] [(.int (1 : Int32))])) (fun t_ k_ => ?_) ?_
  · show Steps p.tables e below (T4.setTop (mkF m 18 #[.val (.ref xx), .val (.ref yy)] [(.int z), (.int z)])) t_
    refine XS.icmpNo X4.here hx rfl (hb hby d26_18) rfl (teq (rfl : z = z)).2 ?_
    refine XS.iconst X4.here hx rfl (hb hby d26_21) ?_
    refine XS.goto X4.here hx rfl (pc0 := 22) (pc' := 26) rfl (hb hby d26_22) (by decide) (by decide) ?_
    exact k_
  obtain ⟨fs5, hr5, hrun5, hended5, hW5, hsame5⟩ := X4.leave (v := some (.int (1 : Int32))) (fun h => by rw [Bd.returns] at h; cases h)
  refine ⟨_, _, ?_, hrun5, hended5, _, _, rfl, ?_, ⟨_, rfl⟩, hW5, hsame5.mono (by decide) (by decide)⟩
  · exact retN X4 hx (t := .boolean) Bd.returns (by simp) (hb hby d26_26) hr5
  · show Q_rmEq Z xx yy z h0 n0 _ T4.heap _
    rw [eh4]
    exact ⟨rfl, N4, rfl⟩
def own_sp (Z : State) (ee : List Value) (m b : Int) : Prop := ∀ j : Nat, (j : Int) < m → ∃ (x : Addr) (v : Int32), ee.getD j .null = .ref x ∧ Exa Z Z.heap x "java/lang/Integer" ∧ Fld Z Z.heap x "java/lang/Integer" "value" "I" (.int v) ∧ v.toInt = b + j
theorem own_stol {Z : State} {h : Heap} {a : Addr} : ∀ (us : List Value), (∀ u ∈ us, Sto Z h a u) → StoL Z h a us
  | [], _ => trivial
  | u :: r, H => ⟨H u (List.mem_cons_self), own_stol r fun v hv => H v (List.mem_cons_of_mem _ hv)⟩
def own_sh (ee er : List Value) (m : Int) : Prop := ∀ j : Nat, (j : Int) < m - 1 → er.getD j .null = ee.getD (j + 1) .null
theorem own_sub1 {x : Int32} (h : 1 ≤ x.toInt) : (x - (1 : Int32)).toInt = x.toInt - 1 := by
  have h1 := c_isub x 1; have h2 := rng32 (x - 1); have h3 := rng32 x; rw [show ((1 : Int32).toInt) = 1 from rfl] at h1; omega
theorem own_sub0 {x : Int32} : (x - (0 : Int32)) = x := by apply Int32.toBitVec_inj.mp; simp
theorem own_mvl {ee us : List Value} {k : Nat} (hl : ee.length = 10) (hk : k < 10) (hu : us = (List.range k).map fun i => ee.getD (1 + i) .null) : (ee.take 0 ++ us ++ ee.drop (0 + k)).length = 10 ∧ ∀ j, j < k → (ee.take 0 ++ us ++ ee.drop (0 + k)).getD j .null = ee.getD (j + 1) .null := by
  have h1 : us.length = k := by rw [hu]; simp
  refine ⟨by simp [h1, hl]; omega, fun j hj => ?_⟩
  rw [List.take_zero, List.nil_append, List.getD_eq_getElem?_getD, List.getElem?_append_left (by omega), hu, List.getElem?_map, List.getElem?_range hj]
  show ee.getD (1 + j) .null = _; rw [Nat.add_comm]
theorem own_hst {Z : State} {h : Heap} {ed : Addr} {kk : ClassId} {ee : List Value} {sz : Int32} {bb : Int} {n0 : Nat} {a0 : Array Value} (hA : Arv Z h ed kk (.object "java/lang/Object") (10 : Int32) ee .null) (ov : Ovr Z kk "java/lang/Object") (hO : Old Z n0 h) (hc : (Jvm.Cond.castable "java/lang/Integer" "java/lang/Object").before a0 Z = true) (hsp : own_sp Z ee sz.toInt bb) {k : Nat} (hk : k = (sz.toInt - 1).toNat) : StoL Z h ed ((List.range k).map fun i => ee.getD (1 + i) .null) := own_stol _ fun u hu => by
  obtain ⟨j, hj, rfl⟩ := List.mem_map.mp hu
  rw [List.mem_range] at hj
  obtain ⟨x, v, e1, e2, -, -⟩ := hsp (1 + j) (by omega)
  show Sto Z _ ed (ee.getD (1 + j) .null)
  rw [e1]; exact own_stoV hA ov (Ins.of_exa (e2.ext hO.2) hc)
theorem own_fr1 {ee L er : List Value} {sz : Int32} (hsz : 1 ≤ sz.toInt ∧ sz.toInt ≤ 4) {k : Nat} (hk : k = (sz.toInt - 1).toNat) (hm : ∀ j, j < k → L.getD j .null = ee.getD (j + 1) .null) (he : er = L.set (sz - (1 : Int32)).toNatClampNeg .null) : own_sh ee er sz.toInt := fun j hj => by
  have q := own_tn (x := sz - (1 : Int32)) (by rw [own_sub1 hsz.1]; omega)
  rw [own_sub1 hsz.1] at q
  rw [he, own_gne (by omega)]; exact hm j (by omega)
theorem own_spn {Z : State} {ee er : List Value} {m b : Int} (h : own_sp Z ee m b) (hs : own_sh ee er m) : own_sp Z er (m - 1) (b + 1) := fun j hj => by
  obtain ⟨x, v, e1, e2, e3, e4⟩ := h (j + 1) (by omega)
  exact ⟨x, v, by rw [hs j hj]; exact e1, e2, e3, by omega⟩
theorem d28_0 : decode jdk_38_method_39_code 0 = .ok (.aload_n 0, 1) := by decide +kernel
theorem d28_1 : decode jdk_38_method_39_code 1 = .ok (.dup, 1) := by decide +kernel
theorem d28_2 : decode jdk_38_method_39_code 2 = .ok (.getfield 63, 3) := by decide +kernel
theorem d28_5 : decode jdk_38_method_39_code 5 = .ok (.iconst 1, 1) := by decide +kernel
theorem d28_6 : decode jdk_38_method_39_code 6 = .ok (.iadd, 1) := by decide +kernel
theorem d28_7 : decode jdk_38_method_39_code 7 = .ok (.putfield 63, 3) := by decide +kernel
theorem d28_10 : decode jdk_38_method_39_code 10 = .ok (.aload_n 0, 1) := by decide +kernel
theorem d28_11 : decode jdk_38_method_39_code 11 = .ok (.getfield 48, 3) := by decide +kernel
theorem d28_14 : decode jdk_38_method_39_code 14 = .ok (.iconst 1, 1) := by decide +kernel
theorem d28_15 : decode jdk_38_method_39_code 15 = .ok (.isub, 1) := by decide +kernel
theorem d28_16 : decode jdk_38_method_39_code 16 = .ok (.dup, 1) := by decide +kernel
theorem d28_17 : decode jdk_38_method_39_code 17 = .ok (.istore_n 3, 1) := by decide +kernel
theorem d28_18 : decode jdk_38_method_39_code 18 = .ok (.iload_n 2, 1) := by decide +kernel
theorem d28_19 : decode jdk_38_method_39_code 19 = .ok (.if_icmp .le 15, 3) := by decide +kernel
theorem d28_22 : decode jdk_38_method_39_code 22 = .ok (.aload_n 1, 1) := by decide +kernel
theorem d28_23 : decode jdk_38_method_39_code 23 = .ok (.iload_n 2, 1) := by decide +kernel
theorem d28_24 : decode jdk_38_method_39_code 24 = .ok (.iconst 1, 1) := by decide +kernel
theorem d28_25 : decode jdk_38_method_39_code 25 = .ok (.iadd, 1) := by decide +kernel
theorem d28_26 : decode jdk_38_method_39_code 26 = .ok (.aload_n 1, 1) := by decide +kernel
theorem d28_27 : decode jdk_38_method_39_code 27 = .ok (.iload_n 2, 1) := by decide +kernel
theorem d28_28 : decode jdk_38_method_39_code 28 = .ok (.iload_n 3, 1) := by decide +kernel
theorem d28_29 : decode jdk_38_method_39_code 29 = .ok (.iload_n 2, 1) := by decide +kernel
theorem d28_30 : decode jdk_38_method_39_code 30 = .ok (.isub, 1) := by decide +kernel
theorem d28_31 : decode jdk_38_method_39_code 31 = .ok (.invokestatic 112, 3) := by decide +kernel
theorem d28_34 : decode jdk_38_method_39_code 34 = .ok (.aload_n 1, 1) := by decide +kernel
theorem d28_35 : decode jdk_38_method_39_code 35 = .ok (.aload_n 0, 1) := by decide +kernel
theorem d28_36 : decode jdk_38_method_39_code 36 = .ok (.iload_n 3, 1) := by decide +kernel
theorem d28_37 : decode jdk_38_method_39_code 37 = .ok (.dup_x1, 1) := by decide +kernel
theorem d28_38 : decode jdk_38_method_39_code 38 = .ok (.putfield 48, 3) := by decide +kernel
theorem d28_41 : decode jdk_38_method_39_code 41 = .ok (.aconst_null, 1) := by decide +kernel
theorem d28_42 : decode jdk_38_method_39_code 42 = .ok (.aastore, 1) := by decide +kernel
theorem d28_43 : decode jdk_38_method_39_code 43 = .ok (.return_, 1) := by decide +kernel
abbrev own_y21 : MethodName := ⟨"java/util/ArrayList", "fastRemove", "([Ljava/lang/Object;I)V"⟩
theorem ef_rmFR (m : MethodId) (al : Addr) (ed : Addr) : entryFrame m #[(.ref al), (.ref ed), (.int (0 : Int32))] 4 = mkF m 0 #[.val (.ref al), .val (.ref ed), .val (.int (0 : Int32)), .unset] [] := by first | (simp [entryFrame, mkF, argsToLocals, Value.category]; done) | rfl
def Q_rmFR (Z : State) (al : Addr) (ed : Addr) (sz : Int32) (mc : Int32) (kk : ClassId) (ee : List Value) (bb : Int) (h0 : Heap) (n0 : Nat) (v_ : Option Value) (h_ : Heap) (L_ : List Loc) : Prop := ∃ er : List Value, v_ = none ∧ Fr n0 L_ ∧ Keep h0 h_ [al, ed] ∧ Fld Z h_ al "java/util/ArrayList" "elementData" "[Ljava/lang/Object;" (.ref ed) ∧ Fld Z h_ al "java/util/ArrayList" "size" "I" (.int (sz - (1 : Int32))) ∧ Fld Z h_ al "java/util/AbstractList" "modCount" "I" (.int (mc + (1 : Int32))) ∧ Arv Z h_ ed kk (.object "java/lang/Object") (10 : Int32) er .null ∧ (er.length = 10) ∧ (own_sh ee er sz.toInt)
set_option maxRecDepth 65536 in
set_option maxHeartbeats 40000000 in
theorem rmFR (l : Launch) (Z : State) (a0 : Array Value) (hw : ∀ d ∈ tables_1, d.before a0 Z = true) (ws : List Jvm.Cond) (al : Addr) (ed : Addr) (sz : Int32) (mc : Int32) (kk : ClassId) (ee : List Value) (bb : Int) (h0 : Heap) (n0 : Nat) (Z0 : n0 ≤ h0.size) (O0 : Old Z n0 h0) (u1 : Exa Z h0 al "java/util/ArrayList") (u2 : Fld Z h0 al "java/util/ArrayList" "elementData" "[Ljava/lang/Object;" (.ref ed)) (u3 : Fld Z h0 al "java/util/ArrayList" "size" "I" (.int sz)) (u4 : Fld Z h0 al "java/util/AbstractList" "modCount" "I" (.int mc)) (u5 : Arv Z h0 ed kk (.object "java/lang/Object") (10 : Int32) ee .null) (u6 : Ovr Z kk "java/lang/Object") (u7 : n0 ≤ al) (u8 : n0 ≤ ed) (u9 : al ≠ ed) (hsz : 1 ≤ sz.toInt ∧ sz.toInt ≤ 4) (hel : ee.length = 10) (hsp : own_sp Z ee sz.toInt bb) :
    MetFree l own_y21 (head1 (Jvm.Cond.code own_y21 jdk_38_method_39_code 4 none :: ws) ({ frames := 1, cells := 0, slots := 0, locals := 18 } : Room)) (fun a_ U_ => a_ = #[(.ref al), (.ref ed), (.int (0 : Int32))] ∧ Z.Warmed39 U_.vm ∧ U_.heap = h0) (fun _ _ _ _ _ => True) (fun _ U_ o_ U2_ => ∃ v_ L_, o_ = .returned v_ ∧ Q_rmFR Z al ed sz mc kk ee bb h0 n0 v_ U2_.heap L_ ∧ FrameEnd U_ o_ U2_ L_ ({ frames := 1, cells := 0, slots := 0, locals := 18 } : Room).cells ({ frames := 1, cells := 0, slots := 0, locals := 18 } : Room).slots) := by
  refine MetFree.of_bodySF (plainFor_of_name pn_3) hisR ?_
  intro p e s m args below meth c s₁ Bd hml0 hP hK
  obtain ⟨rfl, hZ, hh⟩ := hP
  have hx := Bd.exec
  have hby := Bd.bytes
  have hml : c.maxLocals = 4 := hml0
  have hown : s.vm.findClass "java/util/ArrayList" = some m.cls := findClass_of_methodNamed Bd.named
  have hnm := (name_of_methodNamed Bd.named Bd.method).1
  have X0 : Stand p l e ({ frames := 1, cells := 0, slots := 0, locals := 18 } : Room) s m #[(.ref al), (.ref ed), (.int (0 : Int32))] below meth c s₁ [] 0 0 := Stand.of_body Bd
  have e0 : s₁.heap = h0 := by rw [← hh, Bd.state]; rfl
  have N0 := Fr.nil n0
  refine own_go (A := s₁.setTop (mkF m 0 #[.val (.ref al), .val (.ref ed), .val (.int (0 : Int32)), .unset] [])) (fun t_ k_ => castTop (ef_rmFR m al ed) k_) ?_
  refine own_go (A := s₁.setTop (mkF m 2 #[.val (.ref al), .val (.ref ed), .val (.int (0 : Int32)), .unset] [(.ref al), (.ref al)])) (fun t_ k_ => ?_) ?_
  · show Steps p.tables e below (s₁.setTop (mkF m 0 #[.val (.ref al), .val (.ref ed), .val (.int (0 : Int32)), .unset] [])) t_
    refine XS.aloadN X0.here hx rfl (hb hby d28_0) rfl rfl ?_
    refine XS.dup X0.here hx rfl (hb hby d28_1) rfl rfl ?_
    exact k_
  obtain ⟨T1, X1, e1, st1⟩ := getF X0 hx hZ hown (host := "") (Or.inl (own_w hw 65 rfl)) (Via.of (own_w hw 66 rfl)) e0 u4 (g := (mkF m 2 #[.val (.ref al), .val (.ref ed), .val (.int (0 : Int32)), .unset] [(.ref al), (.ref al)])) rfl rfl (hb hby d28_2)
  refine own_go st1 ?_
  refine own_go (A := T1.setTop (mkF m 7 #[.val (.ref al), .val (.ref ed), .val (.int (0 : Int32)), .unset] [(.int (mc + (1 : Int32))), (.ref al)])) (fun t_ k_ => ?_) ?_
  · show Steps p.tables e below (T1.setTop (mkF m 5 #[.val (.ref al), .val (.ref ed), .val (.int (0 : Int32)), .unset] [(.int mc), (.ref al)])) t_
    refine XS.iconst X1.here hx rfl (hb hby d28_5) ?_
    refine XS.iadd X1.here hx rfl (hb hby d28_6) rfl ?_
    exact k_
  obtain ⟨T2, h2, X2, e2, W2, st2⟩ := putF X1 hx hZ hown (host := "") (Or.inl (own_w hw 65 rfl)) (Via.of (own_w hw 66 rfl)) e1 u4 u1 (Or.inl (own_w hw 30 rfl)) (own_w hw 11 rfl) (ty := .int) (by decide) rfl rfl (g := (mkF m 7 #[.val (.ref al), .val (.ref ed), .val (.int (0 : Int32)), .unset] [(.int (mc + (1 : Int32))), (.ref al)])) rfl rfl (hb hby d28_7)
  have Fw2 : Fld Z h2 al "java/util/AbstractList" "modCount" "I" (.int (mc + (1 : Int32))) := u4.same W2
  refine own_go st2 ?_
  have K2 : Keep h0 h2 [al, ed] := (Keep.refl h0 [al, ed]).wr W2 (Or.inl (List.mem_of_getElem? (i := 0) rfl))
  have O2 := O0.wr W2 u7
  have N2 := Fr.snoc X2 N0 u7
  refine own_go (A := T2.setTop (mkF m 11 #[.val (.ref al), .val (.ref ed), .val (.int (0 : Int32)), .unset] [(.ref al)])) (fun t_ k_ => ?_) ?_
  · show Steps p.tables e below (T2.setTop (mkF m 10 #[.val (.ref al), .val (.ref ed), .val (.int (0 : Int32)), .unset] [])) t_
    refine XS.aloadN X2.here hx rfl (hb hby d28_10) rfl rfl ?_
    exact k_
  obtain ⟨T3, X3, e3, st3⟩ := getF X2 hx hZ hown (host := "") (Or.inl (own_w hw 67 rfl)) Via.refl e2 (u3.other W2 (Or.inr (slot_ne (Or.inl (own_w hw 68 rfl)) (Or.inl (own_w hw 30 rfl)) (by decide) (t := .int) (t' := .int) (by decide) (by decide)))) (g := (mkF m 11 #[.val (.ref al), .val (.ref ed), .val (.int (0 : Int32)), .unset] [(.ref al)])) rfl rfl (hb hby d28_11)
  refine own_go st3 ?_
  refine own_go (A := T3.setTop (mkF m 19 #[.val (.ref al), .val (.ref ed), .val (.int (0 : Int32)), .val (.int (sz - (1 : Int32)))] [(.int (0 : Int32)), (.int (sz - (1 : Int32)))])) (fun t_ k_ => ?_) ?_
  · show Steps p.tables e below (T3.setTop (mkF m 14 #[.val (.ref al), .val (.ref ed), .val (.int (0 : Int32)), .unset] [(.int sz)])) t_
    refine XS.iconst X3.here hx rfl (hb hby d28_14) ?_
    refine XS.isub X3.here hx rfl (hb hby d28_15) rfl ?_
    refine XS.dup X3.here hx rfl (hb hby d28_16) rfl rfl ?_
    refine XS.istoreN X3.here hx rfl (hb hby d28_17) rfl (l' := #[.val (.ref al), .val (.ref ed), .val (.int (0 : Int32)), .val (.int (sz - (1 : Int32)))]) rfl ?_
    show Steps p.tables e below (T3.setTop (mkF m 18 #[.val (.ref al), .val (.ref ed), .val (.int (0 : Int32)), .val (.int (sz - (1 : Int32)))] [(.int (sz - (1 : Int32)))])) t_
    refine XS.iloadN X3.here hx rfl (hb hby d28_18) rfl ?_
    exact k_
  by_cases hc19_4 : (0 : Int32) < (sz - (1 : Int32))
  · refine own_go (A := T3.setTop (mkF m 31 #[.val (.ref al), .val (.ref ed), .val (.int (0 : Int32)), .val (.int (sz - (1 : Int32)))] [(.int ((sz - (1 : Int32)) - (0 : Int32))), (.int (0 : Int32)), (.ref ed), (.int (1 : Int32)), (.ref ed)])) (fun t_ k_ => ?_) ?_
    · show Steps p.tables e below (T3.setTop (mkF m 19 #[.val (.ref al), .val (.ref ed), .val (.int (0 : Int32)), .val (.int (sz - (1 : Int32)))] [(.int (0 : Int32)), (.int (sz - (1 : Int32)))])) t_
      refine XS.icmpNo X3.here hx rfl (hb hby d28_19) rfl (tlt hc19_4).2.2.2 ?_
      refine XS.aloadN X3.here hx rfl (hb hby d28_22) rfl rfl ?_
      refine XS.iloadN X3.here hx rfl (hb hby d28_23) rfl ?_
      refine XS.iconst X3.here hx rfl (hb hby d28_24) ?_
      show Steps p.tables e below (T3.setTop (mkF m 25 #[.val (.ref al), .val (.ref ed), .val (.int (0 : Int32)), .val (.int (sz - (1 : Int32)))] [(.int (1 : Int32)), (.int (0 : Int32)), (.ref ed)])) t_
      refine XS.iadd X3.here hx rfl (hb hby d28_25) rfl ?_
      refine XS.aloadN X3.here hx rfl (hb hby d28_26) rfl rfl ?_
      refine XS.iloadN X3.here hx rfl (hb hby d28_27) rfl ?_
      refine XS.iloadN X3.here hx rfl (hb hby d28_28) rfl ?_
      show Steps p.tables e below (T3.setTop (mkF m 29 #[.val (.ref al), .val (.ref ed), .val (.int (0 : Int32)), .val (.int (sz - (1 : Int32)))] [(.int (sz - (1 : Int32))), (.int (0 : Int32)), (.ref ed), (.int (1 : Int32)), (.ref ed)])) t_
      refine XS.iloadN X3.here hx rfl (hb hby d28_29) rfl ?_
      refine XS.isub X3.here hx rfl (hb hby d28_30) rfl ?_
      exact k_
    have hnn : (((sz - (1 : Int32)) - (0 : Int32))).toNatClampNeg = (sz.toInt - 1).toNat := by rw [own_sub0]; have q := own_tn (x := sz - (1 : Int32)) (by rw [own_sub1 hsz.1]; omega); rw [own_sub1 hsz.1] at q; omega
    have hA_ := (u5.other W2 (Ne.symm u9))
    have hst_ : StoL Z h2 ed ((List.range (((sz - (1 : Int32)) - (0 : Int32))).toNatClampNeg).map fun i => ee.getD ((1 : Int32).toNatClampNeg + i) .null) := own_hst hA_ u6 O2 (own_w hw 90 rfl) hsp hnn
    obtain ⟨T5, h5, L5, X5, e5, N5, Kc5, Bq5, st5⟩ := cpA X3 hx hZ hown (own_w hw 192 rfl) (own_w hw 149 rfl) (own_w hw 147 rfl) (own_w hw 148 rfl) e3 (u5.other W2 (Ne.symm u9)) (u5.other W2 (Ne.symm u9)) (us := ((List.range (((sz - (1 : Int32)) - (0 : Int32))).toNatClampNeg).map fun i => ee.getD ((1 : Int32).toNatClampNeg + i) .null)) (Or.inr ⟨rfl, rfl, hst_⟩) (by decide) (by decide) (by rw [own_sub0]; exact own_n0 (by rw [own_sub1 hsz.1]; omega)) (by rw [hnn]; show 1 + _ ≤ 10; omega) (by rw [hnn]; show 0 + _ ≤ 10; omega) rfl (by rw [hnn, hel]; show 0 + _ ≤ 10; omega) N2 u8 (g := (mkF m 31 #[.val (.ref al), .val (.ref ed), .val (.int (0 : Int32)), .val (.int (sz - (1 : Int32)))] [(.int ((sz - (1 : Int32)) - (0 : Int32))), (.int (0 : Int32)), (.ref ed), (.int (1 : Int32)), (.ref ed)])) rfl (by rw [hml]; rfl) (rest := []) rfl (hb hby d28_31) (by decide) (W := 0) (by show 2 * 0 + _ ≤ _; exact Nat.le_of_eq rfl) (by decide)
    obtain ⟨vs5, hvs5⟩ : ∃ z_ : List Value, z_ = (ee.take ((0 : Int32)).toNatClampNeg ++ ((List.range (((sz - (1 : Int32)) - (0 : Int32))).toNatClampNeg).map fun i => ee.getD ((1 : Int32).toNatClampNeg + i) .null) ++ ee.drop (((0 : Int32)).toNatClampNeg + (((sz - (1 : Int32)) - (0 : Int32))).toNatClampNeg)) := ⟨_, rfl⟩
    rw [← hvs5] at Bq5
    refine own_go st5 ?_
    have K5 : Keep h0 h5 [al, ed] := K2.trans Kc5 (allS (P := fun x => x ∈ _ ∨ _ ≤ x) (Or.inl (List.mem_of_getElem? (i := 1) rfl)) all0)
    have O5 := O2.keep Kc5 (allS (P := fun x => n0 ≤ x) u8 all0)
    have hml5 := own_mvl (k := (((sz - (1 : Int32)) - (0 : Int32))).toNatClampNeg) hel (by rw [hnn]; omega) rfl
    have hln5 : vs5.length = 10 := by rw [hvs5]; exact hml5.1
    refine own_go (A := T5.setTop (mkF m 38 #[.val (.ref al), .val (.ref ed), .val (.int (0 : Int32)), .val (.int (sz - (1 : Int32)))] [(.int (sz - (1 : Int32))), (.ref al), (.int (sz - (1 : Int32))), (.ref ed)])) (fun t_ k_ => ?_) ?_
    · show Steps p.tables e below (T5.setTop (mkF m 34 #[.val (.ref al), .val (.ref ed), .val (.int (0 : Int32)), .val (.int (sz - (1 : Int32)))] [])) t_
      refine XS.aloadN X5.here hx rfl (hb hby d28_34) rfl rfl ?_
      refine XS.aloadN X5.here hx rfl (hb hby d28_35) rfl rfl ?_
      refine XS.iloadN X5.here hx rfl (hb hby d28_36) rfl ?_
      refine XS.dupX1 X5.here hx rfl (hb hby d28_37) rfl rfl rfl ?_
      exact k_
    obtain ⟨T6, h6, X6, e6, W6, st6⟩ := putF X5 hx hZ hown (host := "") (Or.inl (own_w hw 67 rfl)) Via.refl e5 ((u3.other W2 (Or.inr (slot_ne (Or.inl (own_w hw 68 rfl)) (Or.inl (own_w hw 30 rfl)) (by decide) (t := .int) (t' := .int) (by decide) (by decide)))).keep Kc5 (ninS u9 nin0)) ((u1.wr W2).keep Kc5) (Or.inl (own_w hw 68 rfl)) (own_w hw 11 rfl) (ty := .int) (by decide) rfl rfl (g := (mkF m 38 #[.val (.ref al), .val (.ref ed), .val (.int (0 : Int32)), .val (.int (sz - (1 : Int32)))] [(.int (sz - (1 : Int32))), (.ref al), (.int (sz - (1 : Int32))), (.ref ed)])) rfl rfl (hb hby d28_38)
    have Fw6 : Fld Z h6 al "java/util/ArrayList" "size" "I" (.int (sz - (1 : Int32))) := ((u3.other W2 (Or.inr (slot_ne (Or.inl (own_w hw 68 rfl)) (Or.inl (own_w hw 30 rfl)) (by decide) (t := .int) (t' := .int) (by decide) (by decide)))).keep Kc5 (ninS u9 nin0)).same W6
    refine own_go st6 ?_
    have K6 : Keep h0 h6 [al, ed] := K5.wr W6 (Or.inl (List.mem_of_getElem? (i := 0) rfl))
    have O6 := O5.wr W6 u7
    have N6 := Fr.snoc X6 N5 u7
    refine own_go (A := T6.setTop (mkF m 42 #[.val (.ref al), .val (.ref ed), .val (.int (0 : Int32)), .val (.int (sz - (1 : Int32)))] [.null, (.int (sz - (1 : Int32))), (.ref ed)])) (fun t_ k_ => ?_) ?_
    · show Steps p.tables e below (T6.setTop (mkF m 41 #[.val (.ref al), .val (.ref ed), .val (.int (0 : Int32)), .val (.int (sz - (1 : Int32)))] [(.int (sz - (1 : Int32))), (.ref ed)])) t_
      refine XS.aconstNull X6.here hx rfl (hb hby d28_41) ?_
      exact k_
    obtain ⟨cl7, Ar7, q7, S7, M7, H7, G7⟩ := id (Bq5.other W6 (Ne.symm u9))
    have hin7 : ¬ ((sz - (1 : Int32)) < 0 ∨ cl7.slots.size ≤ ((sz - (1 : Int32))).toNatClampNeg) := inb_of S7 ⟨own_n0 (by rw [own_sub1 hsz.1]; omega), own_lt (by rw [own_sub1 hsz.1, show ((10 : Int32).toInt) = 10 from rfl]; omega)⟩
    obtain ⟨T8, h8, X8, e8, W8, st8⟩ := stR X6 hx hZ e6 Ar7 (j := (sz - (1 : Int32))) hin7 rfl (Or.inl rfl) (g := (mkF m 42 #[.val (.ref al), .val (.ref ed), .val (.int (0 : Int32)), .val (.int (sz - (1 : Int32)))] [.null, (.int (sz - (1 : Int32))), (.ref ed)])) rfl rfl (hb hby d28_42)
    obtain ⟨vs8, hvs8⟩ : ∃ z_ : List Value, z_ = (vs5.set ((sz - (1 : Int32))).toNatClampNeg .null) := ⟨_, rfl⟩
    have B8 : Arv Z h8 ed kk (.object "java/lang/Object") (10 : Int32) vs8 .null := hvs8 ▸ Arv.set Ar7 q7 S7 M7 H7 G7 rfl W8 _ rfl (by have q := own_tn (x := sz - (1 : Int32)) (by rw [own_sub1 hsz.1]; omega); rw [own_sub1 hsz.1] at q; rw [hln5]; omega)
    refine own_go st8 ?_
    have K8 : Keep h0 h8 [al, ed] := K6.wr W8 (Or.inl (List.mem_of_getElem? (i := 1) rfl))
    have O8 := O6.wr W8 u8
    have N8 := Fr.snoc X8 N6 u8
    obtain ⟨fs9, hr9, hrun9, hended9, hW9, hsame9⟩ := X8.leave (v := none) (fun _ => rfl)
    refine ⟨_, _, ?_, hrun9, hended9, _, _, rfl, ?_, ⟨_, rfl⟩, hW9, hsame9.mono (by decide) (by decide)⟩
    · exact X8.returnOut hx Bd.returns (hb hby d28_43) hr9
    · show Q_rmFR Z al ed sz mc kk ee bb h0 n0 _ T8.heap _
      rw [e8]
      exact ⟨vs8, rfl, N8, K8, ((((u2.other W2 (Or.inr (slot_ne (Or.inl (own_w hw 33 rfl)) (Or.inl (own_w hw 30 rfl)) (by decide) (t := (.array (.object "java/lang/Object"))) (t' := .int) (by decide) (by decide)))).keep Kc5 (ninS u9 nin0)).other W6 (Or.inr (slot_ne (Or.inl (own_w hw 33 rfl)) (Or.inl (own_w hw 68 rfl)) (by decide) (t := (.array (.object "java/lang/Object"))) (t' := .int) (by decide) (by decide)))).other W8 (Or.inl u9)), (Fw6.other W8 (Or.inl u9)), (((Fw2.keep Kc5 (ninS u9 nin0)).other W6 (Or.inr (slot_ne (Or.inl (own_w hw 30 rfl)) (Or.inl (own_w hw 68 rfl)) (by decide) (t := .int) (t' := .int) (by decide) (by decide)))).other W8 (Or.inl u9)), B8, (by rw [hvs8, List.length_set, hvs5]; exact hml5.1), (own_fr1 hsz hnn (by rw [hvs5]; exact hml5.2) hvs8)⟩
  · refine own_go (A := T3.setTop (mkF m 38 #[.val (.ref al), .val (.ref ed), .val (.int (0 : Int32)), .val (.int (sz - (1 : Int32)))] [(.int (sz - (1 : Int32))), (.ref al), (.int (sz - (1 : Int32))), (.ref ed)])) (fun t_ k_ => ?_) ?_
    · show Steps p.tables e below (T3.setTop (mkF m 19 #[.val (.ref al), .val (.ref ed), .val (.int (0 : Int32)), .val (.int (sz - (1 : Int32)))] [(.int (0 : Int32)), (.int (sz - (1 : Int32)))])) t_
      refine XS.icmpYes X3.here hx rfl (pc0 := 19) (pc' := 34) rfl (hb hby d28_19) rfl (flt hc19_4).2.2.2 (by decide) (by decide) ?_
      refine XS.aloadN X3.here hx rfl (hb hby d28_34) rfl rfl ?_
      refine XS.aloadN X3.here hx rfl (hb hby d28_35) rfl rfl ?_
      refine XS.iloadN X3.here hx rfl (hb hby d28_36) rfl ?_
      show Steps p.tables e below (T3.setTop (mkF m 37 #[.val (.ref al), .val (.ref ed), .val (.int (0 : Int32)), .val (.int (sz - (1 : Int32)))] [(.int (sz - (1 : Int32))), (.ref al), (.ref ed)])) t_
      refine XS.dupX1 X3.here hx rfl (hb hby d28_37) rfl rfl rfl ?_
      exact k_
    obtain ⟨T10, h10, X10, e10, W10, st10⟩ := putF X3 hx hZ hown (host := "") (Or.inl (own_w hw 67 rfl)) Via.refl e3 (u3.other W2 (Or.inr (slot_ne (Or.inl (own_w hw 68 rfl)) (Or.inl (own_w hw 30 rfl)) (by decide) (t := .int) (t' := .int) (by decide) (by decide)))) (u1.wr W2) (Or.inl (own_w hw 68 rfl)) (own_w hw 11 rfl) (ty := .int) (by decide) rfl rfl (g := (mkF m 38 #[.val (.ref al), .val (.ref ed), .val (.int (0 : Int32)), .val (.int (sz - (1 : Int32)))] [(.int (sz - (1 : Int32))), (.ref al), (.int (sz - (1 : Int32))), (.ref ed)])) rfl rfl (hb hby d28_38)
    have Fw10 : Fld Z h10 al "java/util/ArrayList" "size" "I" (.int (sz - (1 : Int32))) := (u3.other W2 (Or.inr (slot_ne (Or.inl (own_w hw 68 rfl)) (Or.inl (own_w hw 30 rfl)) (by decide) (t := .int) (t' := .int) (by decide) (by decide)))).same W10
    refine own_go st10 ?_
    have K10 : Keep h0 h10 [al, ed] := K2.wr W10 (Or.inl (List.mem_of_getElem? (i := 0) rfl))
    have O10 := O2.wr W10 u7
    have N10 := Fr.snoc X10 N2 u7
    refine own_go (A := T10.setTop (mkF m 42 #[.val (.ref al), .val (.ref ed), .val (.int (0 : Int32)), .val (.int (sz - (1 : Int32)))] [.null, (.int (sz - (1 : Int32))), (.ref ed)])) (fun t_ k_ => ?_) ?_
    · show Steps p.tables e below (T10.setTop (mkF m 41 #[.val (.ref al), .val (.ref ed), .val (.int (0 : Int32)), .val (.int (sz - (1 : Int32)))] [(.int (sz - (1 : Int32))), (.ref ed)])) t_
      refine XS.aconstNull X10.here hx rfl (hb hby d28_41) ?_
      exact k_
    obtain ⟨cl11, Ar11, q11, S11, M11, H11, G11⟩ := id ((u5.other W2 (Ne.symm u9)).other W10 (Ne.symm u9))
    have hin11 : ¬ ((sz - (1 : Int32)) < 0 ∨ cl11.slots.size ≤ ((sz - (1 : Int32))).toNatClampNeg) := inb_of S11 ⟨own_n0 (by rw [own_sub1 hsz.1]; omega), own_lt (by rw [own_sub1 hsz.1, show ((10 : Int32).toInt) = 10 from rfl]; omega)⟩
    obtain ⟨T12, h12, X12, e12, W12, st12⟩ := stR X10 hx hZ e10 Ar11 (j := (sz - (1 : Int32))) hin11 rfl (Or.inl rfl) (g := (mkF m 42 #[.val (.ref al), .val (.ref ed), .val (.int (0 : Int32)), .val (.int (sz - (1 : Int32)))] [.null, (.int (sz - (1 : Int32))), (.ref ed)])) rfl rfl (hb hby d28_42)
    obtain ⟨vs12, hvs12⟩ : ∃ z_ : List Value, z_ = (ee.set ((sz - (1 : Int32))).toNatClampNeg .null) := ⟨_, rfl⟩
    have B12 : Arv Z h12 ed kk (.object "java/lang/Object") (10 : Int32) vs12 .null := hvs12 ▸ Arv.set Ar11 q11 S11 M11 H11 G11 rfl W12 _ rfl (by have q := own_tn (x := sz - (1 : Int32)) (by rw [own_sub1 hsz.1]; omega); rw [own_sub1 hsz.1] at q; rw [hel]; omega)
    refine own_go st12 ?_
    have K12 : Keep h0 h12 [al, ed] := K10.wr W12 (Or.inl (List.mem_of_getElem? (i := 1) rfl))
    have O12 := O10.wr W12 u8
    have N12 := Fr.snoc X12 N10 u8
    obtain ⟨fs13, hr13, hrun13, hended13, hW13, hsame13⟩ := X12.leave (v := none) (fun _ => rfl)
    refine ⟨_, _, ?_, hrun13, hended13, _, _, rfl, ?_, ⟨_, rfl⟩, hW13, hsame13.mono (by decide) (by decide)⟩
    · exact X12.returnOut hx Bd.returns (hb hby d28_43) hr13
    · show Q_rmFR Z al ed sz mc kk ee bb h0 n0 _ T12.heap _
      rw [e12]
      exact ⟨vs12, rfl, N12, K12, (((u2.other W2 (Or.inr (slot_ne (Or.inl (own_w hw 33 rfl)) (Or.inl (own_w hw 30 rfl)) (by decide) (t := (.array (.object "java/lang/Object"))) (t' := .int) (by decide) (by decide)))).other W10 (Or.inr (slot_ne (Or.inl (own_w hw 33 rfl)) (Or.inl (own_w hw 68 rfl)) (by decide) (t := (.array (.object "java/lang/Object"))) (t' := .int) (by decide) (by decide)))).other W12 (Or.inl u9)), (Fw10.other W12 (Or.inl u9)), ((Fw2.other W10 (Or.inr (slot_ne (Or.inl (own_w hw 30 rfl)) (Or.inl (own_w hw 68 rfl)) (by decide) (t := .int) (t' := .int) (by decide) (by decide)))).other W12 (Or.inl u9)), B12, (by rw [hvs12, List.length_set]; exact hel), (fun j hj => absurd hj (by have q := hc19_4; rw [Int32.lt_iff_toInt_lt, own_sub1 hsz.1, own_i0] at q; omega))⟩
theorem d25_0 : decode jdk_38_method_38_code 0 = .ok (.aload_n 0, 1) := by decide +kernel
theorem d25_1 : decode jdk_38_method_38_code 1 = .ok (.getfield 9, 3) := by decide +kernel
theorem d25_4 : decode jdk_38_method_38_code 4 = .ok (.astore_n 2, 1) := by decide +kernel
theorem d25_5 : decode jdk_38_method_38_code 5 = .ok (.aload_n 0, 1) := by decide +kernel
theorem d25_6 : decode jdk_38_method_38_code 6 = .ok (.getfield 48, 3) := by decide +kernel
theorem d25_9 : decode jdk_38_method_38_code 9 = .ok (.istore_n 3, 1) := by decide +kernel
theorem d25_10 : decode jdk_38_method_38_code 10 = .ok (.iconst 0, 1) := by decide +kernel
theorem d25_11 : decode jdk_38_method_38_code 11 = .ok (.istore 4, 2) := by decide +kernel
theorem d25_13 : decode jdk_38_method_38_code 13 = .ok (.aload_n 1, 1) := by decide +kernel
theorem d25_14 : decode jdk_38_method_38_code 14 = .ok (.ifnonnull 25, 3) := by decide +kernel
theorem d25_39 : decode jdk_38_method_38_code 39 = .ok (.iload 4, 2) := by decide +kernel
theorem d25_41 : decode jdk_38_method_38_code 41 = .ok (.iload_n 3, 1) := by decide +kernel
theorem d25_42 : decode jdk_38_method_38_code 42 = .ok (.if_icmp .ge 23, 3) := by decide +kernel
theorem d25_45 : decode jdk_38_method_38_code 45 = .ok (.aload_n 1, 1) := by decide +kernel
theorem d25_46 : decode jdk_38_method_38_code 46 = .ok (.aload_n 2, 1) := by decide +kernel
theorem d25_47 : decode jdk_38_method_38_code 47 = .ok (.iload 4, 2) := by decide +kernel
theorem d25_49 : decode jdk_38_method_38_code 49 = .ok (.aaload, 1) := by decide +kernel
theorem d25_50 : decode jdk_38_method_38_code 50 = .ok (.invokevirtual 93, 3) := by decide +kernel
abbrev own_y22 : MethodName := ⟨"java/lang/Object", "equals", "(Ljava/lang/Object;)Z"⟩
theorem d25_53 : decode jdk_38_method_38_code 53 = .ok (.ifCond .eq 6, 3) := by decide +kernel
theorem d25_56 : decode jdk_38_method_38_code 56 = .ok (.goto 11, 3) := by decide +kernel
theorem d25_67 : decode jdk_38_method_38_code 67 = .ok (.aload_n 0, 1) := by decide +kernel
theorem d25_68 : decode jdk_38_method_38_code 68 = .ok (.aload_n 2, 1) := by decide +kernel
theorem d25_69 : decode jdk_38_method_38_code 69 = .ok (.iload 4, 2) := by decide +kernel
theorem pd_14 : parseMethodDescriptor "([Ljava/lang/Object;I)V" = some ⟨[(.array (.object "java/lang/Object")), .int], none⟩ := by decide +kernel
theorem d25_71 : decode jdk_38_method_38_code 71 = .ok (.invokevirtual 144, 3) := by decide +kernel
theorem d25_74 : decode jdk_38_method_38_code 74 = .ok (.iconst 1, 1) := by decide +kernel
theorem d25_75 : decode jdk_38_method_38_code 75 = .ok (.ireturn, 1) := by decide +kernel
abbrev own_y23 : MethodName := ⟨"java/util/ArrayList", "remove", "(Ljava/lang/Object;)Z"⟩
theorem ef_rmLR (m : MethodId) (al : Addr) (xx : Addr) : entryFrame m #[(.ref al), (.ref xx)] 5 = mkF m 0 #[.val (.ref al), .val (.ref xx), .unset, .unset, .unset] [] := by first | (simp [entryFrame, mkF, argsToLocals, Value.category]; done) | rfl
def Q_rmLR (Z : State) (al : Addr) (xx : Addr) (ed : Addr) (sz : Int32) (mc : Int32) (kk : ClassId) (ee : List Value) (bb : Int) (yy : Addr) (z : Int32) (h0 : Heap) (n0 : Nat) (v_ : Option Value) (h_ : Heap) (L_ : List Loc) : Prop := ∃ er : List Value, v_ = some (.int (1 : Int32)) ∧ Fr n0 L_ ∧ Keep h0 h_ [al, ed] ∧ Fld Z h_ al "java/util/ArrayList" "elementData" "[Ljava/lang/Object;" (.ref ed) ∧ Fld Z h_ al "java/util/ArrayList" "size" "I" (.int (sz - (1 : Int32))) ∧ Fld Z h_ al "java/util/AbstractList" "modCount" "I" (.int (mc + (1 : Int32))) ∧ Arv Z h_ ed kk (.object "java/lang/Object") (10 : Int32) er .null ∧ (er.length = 10) ∧ (own_sh ee er sz.toInt)
set_option maxRecDepth 65536 in
set_option maxHeartbeats 40000000 in
theorem rmLR (l : Launch) (Z : State) (a0 : Array Value) (hw : ∀ d ∈ tables_1, d.before a0 Z = true) (ws : List Jvm.Cond) (al : Addr) (xx : Addr) (ed : Addr) (sz : Int32) (mc : Int32) (kk : ClassId) (ee : List Value) (bb : Int) (yy : Addr) (z : Int32) (h0 : Heap) (n0 : Nat) (Z0 : n0 ≤ h0.size) (O0 : Old Z n0 h0) (u1 : Exa Z h0 al "java/util/ArrayList") (u2 : Fld Z h0 al "java/util/ArrayList" "elementData" "[Ljava/lang/Object;" (.ref ed)) (u3 : Fld Z h0 al "java/util/ArrayList" "size" "I" (.int sz)) (u4 : Fld Z h0 al "java/util/AbstractList" "modCount" "I" (.int mc)) (u5 : Arv Z h0 ed kk (.object "java/lang/Object") (10 : Int32) ee .null) (u6 : Ovr Z kk "java/lang/Object") (u7 : n0 ≤ al) (u8 : n0 ≤ ed) (u9 : al ≠ ed) (hsz : 1 ≤ sz.toInt ∧ sz.toInt ≤ 4) (hel : ee.length = 10) (hsp : own_sp Z ee sz.toInt bb) (hs0 : (0 : Int32) < sz) (hee : ee.getD 0 .null = (.ref yy)) (u15 : Exa Z Z.heap xx "java/lang/Integer") (u16 : Fld Z Z.heap xx "java/lang/Integer" "value" "I" (.int z)) (u17 : Exa Z Z.heap yy "java/lang/Integer") (u18 : Fld Z Z.heap yy "java/lang/Integer" "value" "I" (.int z)) :
    MetFree l own_y23 (head1 (Jvm.Cond.code own_y23 jdk_38_method_38_code 5 (some .boolean) :: ws) ({ frames := 2, cells := 0, slots := 0, locals := 33 } : Room)) (fun a_ U_ => a_ = #[(.ref al), (.ref xx)] ∧ Z.Warmed39 U_.vm ∧ U_.heap = h0) (fun _ _ _ _ _ => True) (fun _ U_ o_ U2_ => ∃ v_ L_, o_ = .returned v_ ∧ Q_rmLR Z al xx ed sz mc kk ee bb yy z h0 n0 v_ U2_.heap L_ ∧ FrameEnd U_ o_ U2_ L_ ({ frames := 2, cells := 0, slots := 0, locals := 33 } : Room).cells ({ frames := 2, cells := 0, slots := 0, locals := 33 } : Room).slots) := by
  refine MetFree.of_bodySF (plainFor_of_name pn_3) hisR ?_
  intro p e s m args below meth c s₁ Bd hml0 hP hK
  obtain ⟨rfl, hZ, hh⟩ := hP
  have hx := Bd.exec
  have hby := Bd.bytes
  have hml : c.maxLocals = 5 := hml0
  have hown : s.vm.findClass "java/util/ArrayList" = some m.cls := findClass_of_methodNamed Bd.named
  have hnm := (name_of_methodNamed Bd.named Bd.method).1
  have X0 : Stand p l e ({ frames := 2, cells := 0, slots := 0, locals := 33 } : Room) s m #[(.ref al), (.ref xx)] below meth c s₁ [] 0 0 := Stand.of_body Bd
  have e0 : s₁.heap = h0 := by rw [← hh, Bd.state]; rfl
  have N0 := Fr.nil n0
  refine own_go (A := s₁.setTop (mkF m 0 #[.val (.ref al), .val (.ref xx), .unset, .unset, .unset] [])) (fun t_ k_ => castTop (ef_rmLR m al xx) k_) ?_
  refine own_go (A := s₁.setTop (mkF m 1 #[.val (.ref al), .val (.ref xx), .unset, .unset, .unset] [(.ref al)])) (fun t_ k_ => ?_) ?_
  · show Steps p.tables e below (s₁.setTop (mkF m 0 #[.val (.ref al), .val (.ref xx), .unset, .unset, .unset] [])) t_
    refine XS.aloadN X0.here hx rfl (hb hby d25_0) rfl rfl ?_
    exact k_
  obtain ⟨T1, X1, e1, st1⟩ := getF X0 hx hZ hown (host := "") (Or.inl (own_w hw 32 rfl)) Via.refl e0 u2 (g := (mkF m 1 #[.val (.ref al), .val (.ref xx), .unset, .unset, .unset] [(.ref al)])) rfl rfl (hb hby d25_1)
  refine own_go st1 ?_
  refine own_go (A := T1.setTop (mkF m 6 #[.val (.ref al), .val (.ref xx), .val (.ref ed), .unset, .unset] [(.ref al)])) (fun t_ k_ => ?_) ?_
  · show Steps p.tables e below (T1.setTop (mkF m 4 #[.val (.ref al), .val (.ref xx), .unset, .unset, .unset] [(.ref ed)])) t_
    refine XS.astoreN X1.here hx rfl (hb hby d25_4) rfl rfl (l' := #[.val (.ref al), .val (.ref xx), .val (.ref ed), .unset, .unset]) rfl ?_
    refine XS.aloadN X1.here hx rfl (hb hby d25_5) rfl rfl ?_
    exact k_
  obtain ⟨T2, X2, e2, st2⟩ := getF X1 hx hZ hown (host := "") (Or.inl (own_w hw 67 rfl)) Via.refl e1 u3 (g := (mkF m 6 #[.val (.ref al), .val (.ref xx), .val (.ref ed), .unset, .unset] [(.ref al)])) rfl rfl (hb hby d25_6)
  refine own_go st2 ?_
  obtain ⟨cl3, Ar3, q3, S3, M3, H3, G3⟩ := id u5
  have hin3 : ¬ ((0 : Int32) < 0 ∨ cl3.slots.size ≤ ((0 : Int32)).toNatClampNeg) := inb_of S3 ⟨by decide, by decide⟩
  have hat3 : cl3.slots[((0 : Int32)).toNatClampNeg]? = some (.ref yy) := Has.at H3 hin3 hee
  refine own_go (A := T2.setTop (mkF m 50 #[.val (.ref al), .val (.ref xx), .val (.ref ed), .val (.int sz), .val (.int (0 : Int32))] [(.ref yy), (.ref xx)])) (fun t_ k_ => ?_) ?_
  · show Steps p.tables e below (T2.setTop (mkF m 9 #[.val (.ref al), .val (.ref xx), .val (.ref ed), .unset, .unset] [(.int sz)])) t_
    refine XS.istoreN X2.here hx rfl (hb hby d25_9) rfl (l' := #[.val (.ref al), .val (.ref xx), .val (.ref ed), .val (.int sz), .unset]) rfl ?_
    refine XS.iconst X2.here hx rfl (hb hby d25_10) ?_
    refine XS.istore X2.here hx rfl (hb hby d25_11) rfl (l' := #[.val (.ref al), .val (.ref xx), .val (.ref ed), .val (.int sz), .val (.int (0 : Int32))]) rfl ?_
    refine XS.aloadN X2.here hx rfl (hb hby d25_13) rfl rfl ?_
    show Steps p.tables e below (T2.setTop (mkF m 14 #[.val (.ref al), .val (.ref xx), .val (.ref ed), .val (.int sz), .val (.int (0 : Int32))] [(.ref xx)])) t_
    refine XS.ifnonnullYes X2.here hx rfl (pc0 := 14) (pc' := 39) rfl (hb hby d25_14) rfl (by decide) (by decide) ?_
    refine XS.iload X2.here hx rfl (hb hby d25_39) rfl ?_
    refine XS.iloadN X2.here hx rfl (hb hby d25_41) rfl ?_
    refine XS.icmpNo X2.here hx rfl (hb hby d25_42) rfl (tlt hs0).2.1 ?_
    show Steps p.tables e below (T2.setTop (mkF m 45 #[.val (.ref al), .val (.ref xx), .val (.ref ed), .val (.int sz), .val (.int (0 : Int32))] [])) t_
    refine XS.aloadN X2.here hx rfl (hb hby d25_45) rfl rfl ?_
    refine XS.aloadN X2.here hx rfl (hb hby d25_46) rfl rfl ?_
    refine XS.iload X2.here hx rfl (hb hby d25_47) rfl ?_
    refine X2.aaload hx (j := (0 : Int32)) (v := (.ref yy)) (by rw [e2]; exact Ar3.1) (State.isArrayOf_alike hZ.alike Ar3.2.1) rfl Ar3.2.2 hin3 hat3 (g := (mkF m 49 #[.val (.ref al), .val (.ref xx), .val (.ref ed), .val (.int sz), .val (.int (0 : Int32))] [(.int (0 : Int32)), (.ref ed), (.ref xx)])) rfl rfl (hb hby d25_49) _ ?_
    exact k_
  obtain ⟨cq4, kq4, q4a, q4b, q4c⟩ := isOf hZ e2 (u15.ext O0.2)
  obtain ⟨_, _, ⟨T4, L4, k4, n4⟩, -, X4, ⟨Lc4, hQ4, l4, y4, z4⟩, st4⟩ := X2.virtualBack hx (y := own_y22) (z := own_y20) hown (mvT hZ (own_w hw 172 rfl)) (mvT hZ (own_w hw 173 rfl)) (own_nf (args := #[]) (mvT hZ (own_w hw 154 rfl)) rfl) (mvT hZ (own_w hw 175 rfl)) (mvT hZ (own_w hw 176 rfl)) (by decide) (backOf (W := 0) (rmEq l Z a0 hw [] xx yy z h0 n0 Z0 O0 u15 u16 u17 u18) hZ (own_w hw 177 rfl) (own_w hw 51 rfl) (by decide) (by decide)) q4a q4c (g := (mkF m 50 #[.val (.ref al), .val (.ref xx), .val (.ref ed), .val (.int sz), .val (.int (0 : Int32))] [(.ref yy), (.ref xx)])) rfl (by rw [hml]; rfl) (Steps.refl _) (argsL := [(.ref yy)]) (rest := []) (lenOf pd_9 rfl) rfl (by show 2 * 0 + _ ≤ _; exact Nat.le_of_eq rfl) (hb hby d25_50) (fun _ _ => ⟨rfl, e2, (by decide : 0 + 0 ≤ _), (by decide : 0 + 0 ≤ _)⟩)
  dsimp only [Pt.U, Pt.locs, Pt.cells, Pt.slots] at X4 l4 y4 z4 st4 hQ4
  subst l4 y4 z4
  obtain ⟨rfl, N4q, eh4⟩ := hQ4
  have N4 := Fr.app N0 N4q
  refine own_via st4 ?_
  refine own_go (A := T4.setTop (mkF m 71 #[.val (.ref al), .val (.ref xx), .val (.ref ed), .val (.int sz), .val (.int (0 : Int32))] [(.int (0 : Int32)), (.ref ed), (.ref al)])) (fun t_ k_ => ?_) ?_
  · show Steps p.tables e below (T4.setTop (mkF m 53 #[.val (.ref al), .val (.ref xx), .val (.ref ed), .val (.int sz), .val (.int (0 : Int32))] [(.int (1 : Int32))])) t_
    refine XS.ifNo X4.here hx rfl (hb hby d25_53) rfl ((if0 _ _).trans (feq (by decide : ¬ ((1 : Int32) = (0 : Int32)))).1) ?_
    refine XS.goto X4.here hx rfl (pc0 := 56) (pc' := 67) rfl (hb hby d25_56) (by decide) (by decide) ?_
    refine XS.aloadN X4.here hx rfl (hb hby d25_67) rfl rfl ?_
    refine XS.aloadN X4.here hx rfl (hb hby d25_68) rfl rfl ?_
    show Steps p.tables e below (T4.setTop (mkF m 69 #[.val (.ref al), .val (.ref xx), .val (.ref ed), .val (.int sz), .val (.int (0 : Int32))] [(.ref ed), (.ref al)])) t_
    refine XS.iload X4.here hx rfl (hb hby d25_69) rfl ?_
    exact k_
  obtain ⟨cq5, q5, q5'⟩ := u1.cell
  obtain ⟨_, _, ⟨T5, L5, k5, n5⟩, -, X5, ⟨Lc5, hQ5, l5, y5, z5⟩, st5⟩ := X4.privateBack hx (y := own_y21) hown (mvT hZ (own_w hw 187 rfl)) (mvT hZ (own_w hw 188 rfl)) (mvT hZ (own_w hw 190 rfl)) (Cond.privateMethod_at (mvP hZ (own_w hw 189 rfl) (args := #[]))) (mvT hZ (own_w hw 191 rfl)) (by decide) (backOf (W := 0) (rmFR l Z a0 hw [] al ed sz mc kk ee bb h0 n0 Z0 O0 u1 u2 u3 u4 u5 u6 u7 u8 u9 hsz hel hsp) hZ (own_w hw 191 rfl) (own_w hw 12 rfl) (by decide) (by decide)) (g := (mkF m 71 #[.val (.ref al), .val (.ref xx), .val (.ref ed), .val (.int sz), .val (.int (0 : Int32))] [(.int (0 : Int32)), (.ref ed), (.ref al)])) rfl (by rw [hml]; rfl) (Steps.refl _) (a := al) (by rw [eh4]; exact q5) q5' (argsL := [(.ref ed), (.int (0 : Int32))]) (rest := []) (lenOf pd_14 rfl) rfl (by show 2 * 0 + _ ≤ _; exact Nat.le_of_eq rfl) (hb hby d25_71) (fun _ _ => ⟨rfl, eh4, (by decide : 0 + 0 ≤ _), (by decide : 0 + 0 ≤ _)⟩)
  dsimp only [Pt.U, Pt.locs, Pt.cells, Pt.slots] at X5 l5 y5 z5 st5 hQ5
  subst l5 y5 z5
  obtain ⟨er_5, rfl, N5q, Kc5, r5_0, r5_1, r5_2, r5_3, w5_0, w5_1⟩ := hQ5
  have N5 := Fr.app N4 N5q
  refine own_via st5 ?_
  have K5 : Keep h0 T5.heap [al, ed] := (Keep.refl h0 [al, ed]).trans Kc5 (allS (P := fun x => x ∈ _ ∨ _ ≤ x) (Or.inl (List.mem_of_getElem? (i := 0) rfl)) (allS (P := fun x => x ∈ _ ∨ _ ≤ x) (Or.inl (List.mem_of_getElem? (i := 1) rfl)) all0))
  have O5 := O0.keep Kc5 (allS (P := fun x => n0 ≤ x) u7 (allS (P := fun x => n0 ≤ x) u8 all0))
  refine own_go (A := T5.setTop (mkF m 75 #[.val (.ref al), .val (.ref xx), .val (.ref ed), .val (.int sz), .val (.int (0 : Int32))] [(.int (1 : Int32))])) (fun t_ k_ => ?_) ?_
  · show Steps p.tables e below (T5.setTop (mkF m 74 #[.val (.ref al), .val (.ref xx), .val (.ref ed), .val (.int sz), .val (.int (0 : Int32))] [])) t_
    refine XS.iconst X5.here hx rfl (hb hby d25_74) ?_
    exact k_
  obtain ⟨fs6, hr6, hrun6, hended6, hW6, hsame6⟩ := X5.leave (v := some (.int (1 : Int32))) (fun h => by rw [Bd.returns] at h; cases h)
  refine ⟨_, _, ?_, hrun6, hended6, _, _, rfl, ?_, ⟨_, rfl⟩, hW6, hsame6.mono (by decide) (by decide)⟩
  · exact retN X5 hx (t := .boolean) Bd.returns (by simp) (hb hby d25_75) hr6
  · show Q_rmLR Z al xx ed sz mc kk ee bb yy z h0 n0 _ T5.heap _
    exact ⟨er_5, rfl, N5, K5, r5_0, r5_1, r5_2, r5_3, w5_0, w5_1⟩
def own_rpl (vs vl : List Value) (r q i b : Int) : Prop := (∀ t : Int, 0 ≤ t → t < i → ∃ z : Int32, vl.getD (q * r + t).toNat (.int (0 : Int32)) = .int z ∧ z.toInt = b + t) ∧ ∀ j : Nat, (∀ t : Int, 0 ≤ t → t < i → j ≠ (q * r + t).toNat) → vl.getD j (.int (0 : Int32)) = vs.getD j (.int (0 : Int32))
theorem own_rpl0 {vs : List Value} {r q b : Int} : own_rpl vs vs r q 0 b := ⟨fun t h1 h2 => by omega, fun _ _ => rfl⟩
theorem own_rpl1 {vs vl : List Value} {r q i b : Int} {J : Nat} {z : Int32} (hb : 0 ≤ q * r) (h0 : 0 ≤ i) (hJ : J = (q * r + i).toNat) (hl : J < vl.length) (hz : z.toInt = b + i) (h : own_rpl vs vl r q i b) : own_rpl vs (vl.set J (.int z)) r q (i + 1) b := by
  refine ⟨fun t h1 h2 => ?_, fun j hj => ?_⟩
  · by_cases e : t = i
    · rw [e, ← hJ]; exact ⟨z, own_geq hl, hz⟩
    · rw [own_gne (by omega)]; exact h.1 t h1 (by omega)
  · rw [own_gne (by rw [hJ]; exact hj i h0 (by omega))]; exact h.2 j fun t h1 h2 => hj t h1 (by omega)
theorem own_eql {vs vl : List Value} {r q i j b : Int} (h : own_rpl vs vl r q i b) (e : i = j) : own_rpl vs vl r q j b := e ▸ h
def own_spv (ls : List Value) (b : Int) : Prop := ∀ j : Nat, j < 4 → ∃ z : Int32, ls.getD j (.int (0 : Int32)) = .int z ∧ z.toInt = b + j
theorem own_spz {ls : List Value} {b : Int} {i : Int32} (h : own_spv ls b) (h0 : 0 ≤ i.toInt) (h1 : i.toInt < 4) : ∃ z : Int32, ls.getD (i).toNatClampNeg (.int (0 : Int32)) = .int z ∧ z.toInt = b + i.toInt := by
  have q := own_tn h0
  obtain ⟨z, e1, e2⟩ := h i.toNatClampNeg (by omega)
  exact ⟨z, e1, by omega⟩
theorem own_zb {q n r b z i : Int} (hr : 1 ≤ r ∧ r ≤ 4) (hn : 1 ≤ n ∧ n ≤ 4) (hb : b = n * r) (hz : z = b + i) (h0 : 0 ≤ i) (h1 : i < r) : 0 ≤ z ∧ z ≤ 127 ∧ z < n * r + r := by
  have h := own_pr hr hn (q := 0) ⟨by omega, by omega⟩
  rw [Int.zero_mul] at h; omega
theorem own_nsp {Z : State} {ee er : List Value} {sz i : Int32} {b : Int} {r : Int32} (h : own_sp Z ee sz.toInt (b + i.toInt)) (hs : own_sh ee er sz.toInt) (h1 : 1 ≤ sz.toInt) (h0 : 0 ≤ i.toInt) (hlt : i < r) : own_sp Z er (sz - (1 : Int32)).toInt (b + (i + (1 : Int32)).toInt) := by
  rw [own_sub1 h1, own_inc h0 hlt, ← Int.add_assoc]; exact own_spn h hs
theorem d24_0 : decode prog_5_method_19_code 0 = .ok (.iconst 0, 1) := by decide +kernel
theorem d24_1 : decode prog_5_method_19_code 1 = .ok (.istore_n 3, 1) := by decide +kernel
def Q_rmRep (Z : State) (a : Addr) (pq : Int32) (sp : Addr) (n : Int32) (rr : Int32) (nr : Int32) (ns : Int32) (wk : Addr) (kw : ClassId) (sl : Addr) (ks : ClassId) (vs : List Value) (us : List Value) (ksp : ClassId) (ls : List Value) (al : Addr) (ed : Addr) (kk : ClassId) (sz0 : Int32) (mc0 : Int32) (ee0 : List Value) (ca : Addr) (bxc : Cell) (h0 : Heap) (n0 : Nat) (v_ : Option Value) (h_ : Heap) (L_ : List Loc) : Prop := ∃ vr : List Value, v_ = none ∧ Fr n0 L_ ∧ Keep h0 h_ [wk, sl, al, ed] ∧ Arv Z h_ wk kw .int nr vr (.int (0 : Int32)) ∧ (own_rpl vs vr rr.toInt pq.toInt rr.toInt nr.toInt)
theorem d24_2 : decode prog_5_method_19_code 2 = .ok (.iload_n 3, 1) := by decide +kernel
theorem d24_3 : decode prog_5_method_19_code 3 = .ok (.aload_n 0, 1) := by decide +kernel
theorem d24_4 : decode prog_5_method_19_code 4 = .ok (.getfield 20, 3) := by decide +kernel
theorem d24_7 : decode prog_5_method_19_code 7 = .ok (.if_icmp .ge 53, 3) := by decide +kernel
theorem d24_60 : decode prog_5_method_19_code 60 = .ok (.return_, 1) := by decide +kernel
theorem d24_10 : decode prog_5_method_19_code 10 = .ok (.aload_n 0, 1) := by decide +kernel
theorem d24_11 : decode prog_5_method_19_code 11 = .ok (.getfield 10, 3) := by decide +kernel
theorem d24_14 : decode prog_5_method_19_code 14 = .ok (.aload_n 2, 1) := by decide +kernel
theorem d24_15 : decode prog_5_method_19_code 15 = .ok (.iload_n 3, 1) := by decide +kernel
theorem d24_16 : decode prog_5_method_19_code 16 = .ok (.iaload, 1) := by decide +kernel
theorem d24_17 : decode prog_5_method_19_code 17 = .ok (.invokestatic 36, 3) := by decide +kernel
theorem d24_20 : decode prog_5_method_19_code 20 = .ok (.invokeinterface 126 2, 5) := by decide +kernel
abbrev own_y24 : MethodName := ⟨"java/util/List", "remove", "(Ljava/lang/Object;)Z"⟩
theorem d24_25 : decode prog_5_method_19_code 25 = .ok (.pop, 1) := by decide +kernel
theorem d24_26 : decode prog_5_method_19_code 26 = .ok (.aload_n 0, 1) := by decide +kernel
theorem d24_27 : decode prog_5_method_19_code 27 = .ok (.getfield 23, 3) := by decide +kernel
theorem d24_30 : decode prog_5_method_19_code 30 = .ok (.aload_n 0, 1) := by decide +kernel
theorem d24_31 : decode prog_5_method_19_code 31 = .ok (.iload_n 1, 1) := by decide +kernel
theorem d24_32 : decode prog_5_method_19_code 32 = .ok (.iload_n 3, 1) := by decide +kernel
theorem d24_33 : decode prog_5_method_19_code 33 = .ok (.invokevirtual 57, 3) := by decide +kernel
theorem d24_36 : decode prog_5_method_19_code 36 = .ok (.aload_n 2, 1) := by decide +kernel
theorem d24_37 : decode prog_5_method_19_code 37 = .ok (.iload_n 3, 1) := by decide +kernel
theorem d24_38 : decode prog_5_method_19_code 38 = .ok (.iaload, 1) := by decide +kernel
theorem d24_39 : decode prog_5_method_19_code 39 = .ok (.iastore, 1) := by decide +kernel
theorem d24_40 : decode prog_5_method_19_code 40 = .ok (.aload_n 0, 1) := by decide +kernel
theorem d24_41 : decode prog_5_method_19_code 41 = .ok (.getfield 27, 3) := by decide +kernel
theorem d24_44 : decode prog_5_method_19_code 44 = .ok (.aload_n 2, 1) := by decide +kernel
theorem d24_45 : decode prog_5_method_19_code 45 = .ok (.iload_n 3, 1) := by decide +kernel
theorem d24_46 : decode prog_5_method_19_code 46 = .ok (.iaload, 1) := by decide +kernel
theorem d24_47 : decode prog_5_method_19_code 47 = .ok (.aload_n 0, 1) := by decide +kernel
theorem d24_48 : decode prog_5_method_19_code 48 = .ok (.iload_n 1, 1) := by decide +kernel
theorem d24_49 : decode prog_5_method_19_code 49 = .ok (.iload_n 3, 1) := by decide +kernel
theorem d24_50 : decode prog_5_method_19_code 50 = .ok (.invokevirtual 57, 3) := by decide +kernel
theorem d24_53 : decode prog_5_method_19_code 53 = .ok (.iastore, 1) := by decide +kernel
theorem d24_54 : decode prog_5_method_19_code 54 = .ok (.iinc 3 1, 3) := by decide +kernel
theorem d24_57 : decode prog_5_method_19_code 57 = .ok (.goto (-55), 3) := by decide +kernel
set_option maxRecDepth 65536 in
set_option maxHeartbeats 40000000 in
theorem own_rplp (l : Launch) (Z : State) (a0 : Array Value) (hw : ∀ d ∈ tables_1, d.before a0 Z = true) (a : Addr) (pq : Int32) (sp : Addr) (n : Int32) (rr : Int32) (nr : Int32) (ns : Int32) (wk : Addr) (kw : ClassId) (sl : Addr) (ks : ClassId) (vs : List Value) (us : List Value) (ksp : ClassId) (ls : List Value) (al : Addr) (ed : Addr) (kk : ClassId) (sz0 : Int32) (mc0 : Int32) (ee0 : List Value) (ca : Addr) (bxc : Cell) (h0 : Heap) (n0 : Nat) (Z0 : n0 ≤ h0.size) {p : Program} {e : Env} {s : State} {m : MethodId} {below : List Frame} {meth : Method} {c : Code} (hx : p.tables.exec = Jvm.exec) (hZ : Z.Warmed39 s.vm) (hby : c.code = prog_5_method_19_code) (hml : c.maxLocals = 4) (hown : s.vm.findClass "com/example/kneiphof/kneiphof/Assignment" = some m.cls) (hret : meth.sig.returnType = none) (hlk : meth.locks = false) (hh : s.heap = h0) (k_ : Nat) :
    ∀ (Tc : State) (Hc : Heap) (locsc : List Loc) (i : Int32) (vw : List Value) (vu : List Value) (ee : List Value) (sz : Int32) (mc : Int32) (Xc : Stand p l e ({ frames := 3, cells := 0, slots := 0, locals := 49 } : Room) s m #[(.ref a), (.int pq), (.ref sp)] below meth c Tc locsc 0 0) (ec : Tc.heap = Hc) (Nc : Fr n0 locsc) (Kc0 : Keep h0 Hc [wk, sl, al, ed]) (Oc : Old Z n0 Hc) (zc0 : Sta Z Z.heap "java/lang/Integer$IntegerCache" "high" "I" (.int (127 : Int32))) (zc1 : Sta Z Z.heap "java/lang/Integer$IntegerCache" "cache" "[Ljava/lang/Integer;" (.ref ca)) (zc2 : Exa Z Hc a "com/example/kneiphof/kneiphof/Assignment") (zc3 : Fld Z Hc a "com/example/kneiphof/kneiphof/Assignment" "replicas" "I" (.int rr)) (zc4 : Fld Z Hc a "com/example/kneiphof/kneiphof/Assignment" "workers" "[I" (.ref wk)) (zc5 : Fld Z Hc a "com/example/kneiphof/kneiphof/Assignment" "slots" "[I" (.ref sl)) (zc6 : Arv Z Hc wk kw .int nr vw (.int (0 : Int32))) (zc7 : Arv Z Hc sl ks .int ns vu (.int (0 : Int32))) (zc8 : Arv Z Hc sp ksp .int (4 : Int32) ls (.int (0 : Int32))) (zc9 : Fld Z Hc a "com/example/kneiphof/kneiphof/Assignment" "spares" "Ljava/util/List;" (.ref al)) (zc10 : Exa Z Hc al "java/util/ArrayList") (zc11 : Fld Z Hc al "java/util/ArrayList" "elementData" "[Ljava/lang/Object;" (.ref ed)) (zc12 : Fld Z Hc al "java/util/ArrayList" "size" "I" (.int sz)) (zc13 : Fld Z Hc al "java/util/AbstractList" "modCount" "I" (.int mc)) (zc14 : Arv Z Hc ed kk (.object "java/lang/Object") (10 : Int32) ee .null) (gc15 : n0 ≤ wk) (gc16 : n0 ≤ sl) (gc17 : n0 ≤ al) (gc18 : n0 ≤ ed) (oc19 : Ovr Z kk "java/lang/Object") (nc20 : wk ≠ sl) (nc21 : a ≠ wk) (nc22 : a ≠ sl) (nc23 : al ≠ ed) (nc24 : al ≠ wk) (nc25 : al ≠ sl) (nc26 : ed ≠ wk) (nc27 : ed ≠ sl) (nc28 : a ≠ al) (nc29 : a ≠ ed) (nc30 : sp ≠ wk) (nc31 : sp ≠ sl) (nc32 : sp ≠ al) (nc33 : sp ≠ ed) (hbx : Bxs Z ca bxc "java/lang/Integer" "I" (256 : Int32) own_bval) (hn : 1 ≤ n.toInt ∧ n.toInt ≤ 4) (hr : 1 ≤ rr.toInt ∧ rr.toInt ≤ 4) (hnr : nr.toInt = n.toInt * rr.toInt) (hns : ns.toInt = n.toInt * rr.toInt + rr.toInt) (hp : 0 ≤ pq.toInt ∧ pq.toInt < n.toInt) (hvl : vs.length = (nr).toNatClampNeg) (hul : us.length = (ns).toNatClampNeg) (hls : own_spv ls nr.toInt) (hsz0 : sz0.toInt = rr.toInt) (hel0 : ee0.length = 10) (hsp0 : own_sp Z ee0 rr.toInt nr.toInt) (hms : i.toInt + (k_ : Int) = rr.toInt) (hi0 : 0 ≤ i.toInt) (hvw : vw.length = (nr).toNatClampNeg) (hvu : vu.length = (ns).toNatClampNeg) (hel : ee.length = 10) (hszi : sz.toInt = rr.toInt - i.toInt) (hsp : own_sp Z ee sz.toInt (nr.toInt + i.toInt)) (hrp : own_rpl vs vw rr.toInt pq.toInt i.toInt nr.toInt),
    ∃ U_ o_, Steps p.tables e below (Tc.setTop (mkF m 2 #[.val (.ref a), .val (.int pq), .val (.ref sp), .val (.int i)] [])) U_ ∧ U_.status = .running ∧ Ended U_ below o_ ∧ (∃ v_ L_, o_ = .returned v_ ∧ Q_rmRep Z a pq sp n rr nr ns wk kw sl ks vs us ksp ls al ed kk sz0 mc0 ee0 ca bxc h0 n0 v_ U_.heap L_ ∧ FrameEnd s o_ U_ L_ ({ frames := 3, cells := 0, slots := 0, locals := 49 } : Room).cells ({ frames := 3, cells := 0, slots := 0, locals := 49 } : Room).slots) := by
  induction k_ with
  | zero =>
    intro Tc Hc locsc i vw vu ee sz mc Xc ec Nc Kc0 Oc zc0 zc1 zc2 zc3 zc4 zc5 zc6 zc7 zc8 zc9 zc10 zc11 zc12 zc13 zc14 gc15 gc16 gc17 gc18 oc19 nc20 nc21 nc22 nc23 nc24 nc25 nc26 nc27 nc28 nc29 nc30 nc31 nc32 nc33 hbx hn hr hnr hns hp hvl hul hls hsz0 hel0 hsp0 hms hi0 hvw hvu hel hszi hsp hrp
    have hge : ¬ (i < rr) := by rw [Int32.lt_iff_toInt_lt]; omega
    refine own_go (A := Tc.setTop (mkF m 4 #[.val (.ref a), .val (.int pq), .val (.ref sp), .val (.int i)] [(.ref a), (.int i)])) (fun t_ k_ => ?_) ?_
    · show Steps p.tables e below (Tc.setTop (mkF m 2 #[.val (.ref a), .val (.int pq), .val (.ref sp), .val (.int i)] [])) t_
      refine XS.iloadN Xc.here hx rfl (hb hby d24_2) rfl ?_
      refine XS.aloadN Xc.here hx rfl (hb hby d24_3) rfl rfl ?_
      exact k_
    obtain ⟨T1, X1, e1, st1⟩ := getF Xc hx hZ hown (host := "") (Or.inl (own_w hw 38 rfl)) Via.refl ec zc3 (g := (mkF m 4 #[.val (.ref a), .val (.int pq), .val (.ref sp), .val (.int i)] [(.ref a), (.int i)])) rfl rfl (hb hby d24_4)
    refine own_go st1 ?_
    refine own_go (A := T1.setTop (mkF m 60 #[.val (.ref a), .val (.int pq), .val (.ref sp), .val (.int i)] [])) (fun t_ k_ => ?_) ?_
    · show Steps p.tables e below (T1.setTop (mkF m 7 #[.val (.ref a), .val (.int pq), .val (.ref sp), .val (.int i)] [(.int rr), (.int i)])) t_
      refine XS.icmpYes X1.here hx rfl (pc0 := 7) (pc' := 60) rfl (hb hby d24_7) rfl (flt hge).2.1 (by decide) (by decide) ?_
      exact k_
    obtain ⟨fs2, hr2, hrun2, hended2, hW2, hsame2⟩ := X1.leave (v := none) (fun _ => rfl)
    refine ⟨_, _, ?_, hrun2, hended2, _, _, rfl, ?_, ⟨_, rfl⟩, hW2, hsame2.mono (by decide) (by decide)⟩
    · exact X1.returnOut hx hret (hb hby d24_60) hr2
    · show Q_rmRep Z a pq sp n rr nr ns wk kw sl ks vs us ksp ls al ed kk sz0 mc0 ee0 ca bxc h0 n0 _ T1.heap _
      rw [e1]
      exact ⟨vw, rfl, Nc, Kc0, zc6, (own_eql hrp (by omega))⟩
  | succ k_ ih =>
    intro Tc Hc locsc i vw vu ee sz mc Xc ec Nc Kc0 Oc zc0 zc1 zc2 zc3 zc4 zc5 zc6 zc7 zc8 zc9 zc10 zc11 zc12 zc13 zc14 gc15 gc16 gc17 gc18 oc19 nc20 nc21 nc22 nc23 nc24 nc25 nc26 nc27 nc28 nc29 nc30 nc31 nc32 nc33 hbx hn hr hnr hns hp hvl hul hls hsz0 hel0 hsp0 hms hi0 hvw hvu hel hszi hsp hrp
    have hlt : i < rr := own_lt (by omega)
    have hlt' : i.toInt < rr.toInt := by omega
    refine own_go (A := Tc.setTop (mkF m 4 #[.val (.ref a), .val (.int pq), .val (.ref sp), .val (.int i)] [(.ref a), (.int i)])) (fun t_ k_ => ?_) ?_
    · show Steps p.tables e below (Tc.setTop (mkF m 2 #[.val (.ref a), .val (.int pq), .val (.ref sp), .val (.int i)] [])) t_
      refine XS.iloadN Xc.here hx rfl (hb hby d24_2) rfl ?_
      refine XS.aloadN Xc.here hx rfl (hb hby d24_3) rfl rfl ?_
      exact k_
    obtain ⟨T3, X3, e3, st3⟩ := getF Xc hx hZ hown (host := "") (Or.inl (own_w hw 38 rfl)) Via.refl ec zc3 (g := (mkF m 4 #[.val (.ref a), .val (.int pq), .val (.ref sp), .val (.int i)] [(.ref a), (.int i)])) rfl rfl (hb hby d24_4)
    refine own_go st3 ?_
    refine own_go (A := T3.setTop (mkF m 11 #[.val (.ref a), .val (.int pq), .val (.ref sp), .val (.int i)] [(.ref a)])) (fun t_ k_ => ?_) ?_
    · show Steps p.tables e below (T3.setTop (mkF m 7 #[.val (.ref a), .val (.int pq), .val (.ref sp), .val (.int i)] [(.int rr), (.int i)])) t_
      refine XS.icmpNo X3.here hx rfl (hb hby d24_7) rfl (tlt hlt).2.1 ?_
      refine XS.aloadN X3.here hx rfl (hb hby d24_10) rfl rfl ?_
      exact k_
    obtain ⟨T4, X4, e4, st4⟩ := getF X3 hx hZ hown (host := "") (Or.inl (own_w hw 34 rfl)) Via.refl e3 zc9 (g := (mkF m 11 #[.val (.ref a), .val (.int pq), .val (.ref sp), .val (.int i)] [(.ref a)])) rfl rfl (hb hby d24_11)
    refine own_go st4 ?_
    obtain ⟨cl5, Ar5, q5, S5, M5, H5, G5⟩ := id zc8
    obtain ⟨z6, hz6, hzv6⟩ := own_spz hls hi0 (by omega)
    have hzb6 := own_zb (q := 0) hr hn hnr hzv6 hi0 hlt'
    have hin5 : ¬ (i < 0 ∨ cl5.slots.size ≤ (i).toNatClampNeg) := inb_of S5 ⟨own_n0 hi0, own_lt (by show i.toInt < 4; omega)⟩
    have hat5 : cl5.slots[(i).toNatClampNeg]? = some (.int z6) := Has.at H5 hin5 hz6
    refine own_go (A := T4.setTop (mkF m 17 #[.val (.ref a), .val (.int pq), .val (.ref sp), .val (.int i)] [(.int z6), (.ref al)])) (fun t_ k_ => ?_) ?_
    · show Steps p.tables e below (T4.setTop (mkF m 14 #[.val (.ref a), .val (.int pq), .val (.ref sp), .val (.int i)] [(.ref al)])) t_
      refine XS.aloadN X4.here hx rfl (hb hby d24_14) rfl rfl ?_
      refine XS.iloadN X4.here hx rfl (hb hby d24_15) rfl ?_
      refine X4.iaload hx (j := i) (v := (.int z6)) (by rw [e4]; exact Ar5.1) (State.isArrayOf_alike hZ.alike Ar5.2.1) Ar5.2.2 hin5 hat5 (g := (mkF m 16 #[.val (.ref a), .val (.int pq), .val (.ref sp), .val (.int i)] [(.int i), (.ref sp), (.ref al)])) rfl rfl (hb hby d24_16) _ ?_
      exact k_
    obtain ⟨_, _, ⟨T7, L7, k7, n7⟩, -, X7, ⟨Lc7, hQ7, l7, y7, z7⟩, st7⟩ := Jvm.LawKit.callS X4 hx (y := own_y9) hown (mvT hZ (own_w hw 49 rfl)) (mvT hZ (own_w hw 50 rfl)) (mvT hZ (own_w hw 51 rfl)) (mvT hZ (own_w hw 52 rfl)) (by decide) (backOf (W := 1) (rmVO l Z a0 hw [] z6 ca bxc Hc n0 (Nat.le_trans Z0 Kc0.1) Oc zc0 zc1 hbx (own_c1 ⟨hzb6.1, hzb6.2.1⟩) (own_c2 ⟨hzb6.1, hzb6.2.1⟩)) hZ (own_w hw 52 rfl) (own_w hw 51 rfl) (by decide) (by decide)) (g := (mkF m 17 #[.val (.ref a), .val (.int pq), .val (.ref sp), .val (.int i)] [(.int z6), (.ref al)])) rfl (by rw [hml]; rfl) (argsL := [(.int z6)]) (rest := [(.ref al)]) (lenOf pd_8 rfl) rfl (by show 2 * 0 + _ ≤ _; exact Nat.le_of_eq rfl) (hb hby d24_17) (fun _ _ => ⟨rfl, e4, (by decide : 0 + 0 ≤ _), (by decide : 0 + 0 ≤ _)⟩)
    dsimp only [Pt.U, Pt.locs, Pt.cells, Pt.slots] at X7 l7 y7 z7 st7 hQ7
    subst l7 y7 z7
    obtain ⟨r_7, rfl, N7q, Kc7, r7_0, r7_1⟩ := hQ7
    have N7 := Fr.app Nc N7q
    refine own_go st7 ?_
    have K7 : Keep h0 T7.heap [wk, sl, al, ed] := Kc0.trans Kc7 all0
    have O7 := Oc.keep Kc7 all0
    obtain ⟨yy8, vv8, ea8, eb8, ec8, ed8_⟩ := hsp 0 (by omega)
    have ev8 : vv8 = z6 := Int32.toInt_inj.mp (by omega)
    rw [ev8] at ec8
    obtain ⟨cq9, kq9, q9a, q9b, q9c⟩ := isOf hZ rfl (zc10.keep Kc7)
    obtain ⟨_, _, ⟨T9, L9, k9, n9⟩, -, X9, ⟨Lc9, hQ9, l9, y9, z9⟩, st9⟩ := X7.interfaceBack hx (xi := own_y24) (y := own_y23) hown (mvT hZ (own_w hw 164 rfl)) (mvT hZ (own_w hw 165 rfl)) (mvT hZ (own_w hw 166 rfl)) (mvT hZ (own_w hw 167 rfl)) (mvT hZ (own_w hw 168 rfl)) (mvT hZ (own_w hw 169 rfl)) (mvT hZ (own_w hw 170 rfl)) (mvT hZ (own_w hw 63 rfl)) (by decide) (backOf (W := 0) (rmLR l Z a0 hw [] al r_7 ed sz mc kk ee (nr.toInt + i.toInt) yy8 z6 T7.heap n0 (Nat.le_trans Z0 K7.1) O7 (zc10.keep Kc7) (zc11.keep Kc7 nin0) (zc12.keep Kc7 nin0) (zc13.keep Kc7 nin0) (zc14.keep Kc7 nin0) oc19 gc17 gc18 nc23 (by omega) hel hsp (own_lt (by show (0 : Int) < _; omega)) ea8 r7_0 r7_1 eb8 ec8) hZ (own_w hw 171 rfl) (own_w hw 12 rfl) (by decide) (by decide)) q9a q9b q9c (g := (mkF m 20 #[.val (.ref a), .val (.int pq), .val (.ref sp), .val (.int i)] [(.ref r_7), (.ref al)])) rfl (by rw [hml]; rfl) (Steps.refl _) (argsL := [(.ref r_7)]) (rest := []) (lenOf pd_9 rfl) rfl (by show 2 * 0 + _ ≤ _; exact Nat.le_of_eq rfl) (hb hby d24_20) (fun _ _ => ⟨rfl, rfl, (by decide : 0 + 0 ≤ _), (by decide : 0 + 0 ≤ _)⟩)
    dsimp only [Pt.U, Pt.locs, Pt.cells, Pt.slots] at X9 l9 y9 z9 st9 hQ9
    subst l9 y9 z9
    obtain ⟨er_9, rfl, N9q, Kc9, r9_0, r9_1, r9_2, r9_3, w9_0, w9_1⟩ := hQ9
    have N9 := Fr.app N7 N9q
    refine own_via st9 ?_
    have K9 : Keep h0 T9.heap [wk, sl, al, ed] := K7.trans Kc9 (allS (P := fun x => x ∈ _ ∨ _ ≤ x) (Or.inl (List.mem_of_getElem? (i := 2) rfl)) (allS (P := fun x => x ∈ _ ∨ _ ≤ x) (Or.inl (List.mem_of_getElem? (i := 3) rfl)) all0))
    have O9 := O7.keep Kc9 (allS (P := fun x => n0 ≤ x) gc17 (allS (P := fun x => n0 ≤ x) gc18 all0))
    refine own_go (A := T9.setTop (mkF m 27 #[.val (.ref a), .val (.int pq), .val (.ref sp), .val (.int i)] [(.ref a)])) (fun t_ k_ => ?_) ?_
    · show Steps p.tables e below (T9.setTop (mkF m 25 #[.val (.ref a), .val (.int pq), .val (.ref sp), .val (.int i)] [(.int (1 : Int32))])) t_
      refine XS.pop X9.here hx rfl (hb hby d24_25) rfl rfl ?_
      refine XS.aloadN X9.here hx rfl (hb hby d24_26) rfl rfl ?_
      exact k_
    obtain ⟨T10, X10, e10, st10⟩ := getF X9 hx hZ hown (host := "") (Or.inl (own_w hw 41 rfl)) Via.refl rfl ((zc4.keep Kc7 nin0).keep Kc9 (ninS nc28 (ninS nc29 nin0))) (g := (mkF m 27 #[.val (.ref a), .val (.int pq), .val (.ref sp), .val (.int i)] [(.ref a)])) rfl rfl (hb hby d24_27)
    refine own_go st10 ?_
    refine own_go (A := T10.setTop (mkF m 33 #[.val (.ref a), .val (.int pq), .val (.ref sp), .val (.int i)] [(.int i), (.int pq), (.ref a), (.ref wk)])) (fun t_ k_ => ?_) ?_
    · show Steps p.tables e below (T10.setTop (mkF m 30 #[.val (.ref a), .val (.int pq), .val (.ref sp), .val (.int i)] [(.ref wk)])) t_
      refine XS.aloadN X10.here hx rfl (hb hby d24_30) rfl rfl ?_
      refine XS.iloadN X10.here hx rfl (hb hby d24_31) rfl ?_
      refine XS.iloadN X10.here hx rfl (hb hby d24_32) rfl ?_
      exact k_
    obtain ⟨cq11, kq11, q11a, q11b, q11c⟩ := isOf hZ e10 ((zc2.keep Kc7).keep Kc9)
    obtain ⟨_, _, ⟨T11, L11, k11, n11⟩, -, X11, ⟨Lc11, hQ11, l11, y11, z11⟩, st11⟩ := X10.virtualBack hx (y := own_y15) (z := own_y15) hown (mvT hZ (own_w hw 118 rfl)) (mvT hZ (own_w hw 119 rfl)) (notFace_of_selects (args := #[]) (mvT hZ (own_w hw 121 rfl))) (mvT hZ (own_w hw 121 rfl)) (mvT hZ (own_w hw 120 rfl)) (by decide) (backOf (W := 1) (rmSlot l Z a0 hw [] a pq i rr T9.heap n0 (Nat.le_trans Z0 K9.1) ((zc2.keep Kc7).keep Kc9) ((zc3.keep Kc7 nin0).keep Kc9 (ninS nc28 (ninS nc29 nin0)))) hZ (own_w hw 122 rfl) (own_w hw 3 rfl) (by decide) (by decide)) q11a q11c (g := (mkF m 33 #[.val (.ref a), .val (.int pq), .val (.ref sp), .val (.int i)] [(.int i), (.int pq), (.ref a), (.ref wk)])) rfl (by rw [hml]; rfl) (Steps.refl _) (argsL := [(.int pq), (.int i)]) (rest := [(.ref wk)]) (lenOf pd_1 rfl) rfl (by show 2 * 0 + _ ≤ _; exact Nat.le_of_eq rfl) (hb hby d24_33) (fun _ _ => ⟨rfl, e10, (by decide : 0 + 0 ≤ _), (by decide : 0 + 0 ≤ _)⟩)
    dsimp only [Pt.U, Pt.locs, Pt.cells, Pt.slots] at X11 l11 y11 z11 st11 hQ11
    subst l11 y11 z11
    obtain ⟨rfl, N11q, eh11⟩ := hQ11
    have N11 := Fr.app N9 N11q
    refine own_via st11 ?_
    obtain ⟨cl12, Ar12, q12, S12, M12, H12, G12⟩ := id ((zc8.keep Kc7 nin0).keep Kc9 (ninS nc32 (ninS nc33 nin0)))
    have hin12 : ¬ (i < 0 ∨ cl12.slots.size ≤ (i).toNatClampNeg) := inb_of S12 ⟨own_n0 hi0, own_lt (by show i.toInt < 4; omega)⟩
    have hat12 : cl12.slots[(i).toNatClampNeg]? = some (.int z6) := Has.at H12 hin12 hz6
    refine own_go (A := T11.setTop (mkF m 39 #[.val (.ref a), .val (.int pq), .val (.ref sp), .val (.int i)] [(.int z6), (.int ((pq * rr) + i)), (.ref wk)])) (fun t_ k_ => ?_) ?_
    · show Steps p.tables e below (T11.setTop (mkF m 36 #[.val (.ref a), .val (.int pq), .val (.ref sp), .val (.int i)] [(.int ((pq * rr) + i)), (.ref wk)])) t_
      refine XS.aloadN X11.here hx rfl (hb hby d24_36) rfl rfl ?_
      refine XS.iloadN X11.here hx rfl (hb hby d24_37) rfl ?_
      refine X11.iaload hx (j := i) (v := (.int z6)) (by rw [eh11]; exact Ar12.1) (State.isArrayOf_alike hZ.alike Ar12.2.1) Ar12.2.2 hin12 hat12 (g := (mkF m 38 #[.val (.ref a), .val (.int pq), .val (.ref sp), .val (.int i)] [(.int i), (.ref sp), (.int ((pq * rr) + i)), (.ref wk)])) rfl rfl (hb hby d24_38) _ ?_
      exact k_
    obtain ⟨cl13, Ar13, q13, S13, M13, H13, G13⟩ := id ((zc6.keep Kc7 nin0).keep Kc9 (ninS (Ne.symm nc24) (ninS (Ne.symm nc26) nin0)))
    have hin13 : ¬ (((pq * rr) + i) < 0 ∨ cl13.slots.size ≤ (((pq * rr) + i)).toNatClampNeg) := inb_of S13 ⟨own_j0 hr hn hp hi0 (Int.le_of_lt hlt'), own_j1 hr hn hp hnr hi0 hlt'⟩
    obtain ⟨T14, h14, X14, e14, W14, st14⟩ := stI X11 hx hZ eh11 Ar13 (j := ((pq * rr) + i)) hin13 (g := (mkF m 39 #[.val (.ref a), .val (.int pq), .val (.ref sp), .val (.int i)] [(.int z6), (.int ((pq * rr) + i)), (.ref wk)])) rfl rfl (hb hby d24_39)
    obtain ⟨vs14, hvs14⟩ : ∃ z_ : List Value, z_ = (vw.set (((pq * rr) + i)).toNatClampNeg (.int z6)) := ⟨_, rfl⟩
    have B14 : Arv Z h14 wk kw .int nr vs14 (.int (0 : Int32)) := hvs14 ▸ Arv.set Ar13 q13 S13 M13 H13 G13 rfl W14 _ rfl (own_ln (own_nn (own_j0 hr hn hp hi0 (Int.le_of_lt hlt'))) (own_j1 hr hn hp hnr hi0 hlt') hvw)
    refine own_go st14 ?_
    have K14 : Keep h0 h14 [wk, sl, al, ed] := K9.wr W14 (Or.inl (List.mem_of_getElem? (i := 0) rfl))
    have O14 := O9.wr W14 gc15
    have N14 := Fr.snoc X14 N11 gc15
    refine own_go (A := T14.setTop (mkF m 41 #[.val (.ref a), .val (.int pq), .val (.ref sp), .val (.int i)] [(.ref a)])) (fun t_ k_ => ?_) ?_
    · show Steps p.tables e below (T14.setTop (mkF m 40 #[.val (.ref a), .val (.int pq), .val (.ref sp), .val (.int i)] [])) t_
      refine XS.aloadN X14.here hx rfl (hb hby d24_40) rfl rfl ?_
      exact k_
    obtain ⟨T15, X15, e15, st15⟩ := getF X14 hx hZ hown (host := "") (Or.inl (own_w hw 43 rfl)) Via.refl e14 (((zc5.keep Kc7 nin0).keep Kc9 (ninS nc28 (ninS nc29 nin0))).other W14 (Or.inl nc21)) (g := (mkF m 41 #[.val (.ref a), .val (.int pq), .val (.ref sp), .val (.int i)] [(.ref a)])) rfl rfl (hb hby d24_41)
    refine own_go st15 ?_
    obtain ⟨cl16, Ar16, q16, S16, M16, H16, G16⟩ := id (((zc8.keep Kc7 nin0).keep Kc9 (ninS nc32 (ninS nc33 nin0))).other W14 nc30)
    have hin16 : ¬ (i < 0 ∨ cl16.slots.size ≤ (i).toNatClampNeg) := inb_of S16 ⟨own_n0 hi0, own_lt (by show i.toInt < 4; omega)⟩
    have hat16 : cl16.slots[(i).toNatClampNeg]? = some (.int z6) := Has.at H16 hin16 hz6
    refine own_go (A := T15.setTop (mkF m 50 #[.val (.ref a), .val (.int pq), .val (.ref sp), .val (.int i)] [(.int i), (.int pq), (.ref a), (.int z6), (.ref sl)])) (fun t_ k_ => ?_) ?_
    · show Steps p.tables e below (T15.setTop (mkF m 44 #[.val (.ref a), .val (.int pq), .val (.ref sp), .val (.int i)] [(.ref sl)])) t_
      refine XS.aloadN X15.here hx rfl (hb hby d24_44) rfl rfl ?_
      refine XS.iloadN X15.here hx rfl (hb hby d24_45) rfl ?_
      refine X15.iaload hx (j := i) (v := (.int z6)) (by rw [e15]; exact Ar16.1) (State.isArrayOf_alike hZ.alike Ar16.2.1) Ar16.2.2 hin16 hat16 (g := (mkF m 46 #[.val (.ref a), .val (.int pq), .val (.ref sp), .val (.int i)] [(.int i), (.ref sp), (.ref sl)])) rfl rfl (hb hby d24_46) _ ?_
      refine XS.aloadN X15.here hx rfl (hb hby d24_47) rfl rfl ?_
      show Steps p.tables e below (T15.setTop (mkF m 48 #[.val (.ref a), .val (.int pq), .val (.ref sp), .val (.int i)] [(.ref a), (.int z6), (.ref sl)])) t_
      refine XS.iloadN X15.here hx rfl (hb hby d24_48) rfl ?_
      refine XS.iloadN X15.here hx rfl (hb hby d24_49) rfl ?_
      exact k_
    obtain ⟨cq17, kq17, q17a, q17b, q17c⟩ := isOf hZ e15 (((zc2.keep Kc7).keep Kc9).wr W14)
    obtain ⟨_, _, ⟨T17, L17, k17, n17⟩, -, X17, ⟨Lc17, hQ17, l17, y17, z17⟩, st17⟩ := X15.virtualBack hx (y := own_y15) (z := own_y15) hown (mvT hZ (own_w hw 118 rfl)) (mvT hZ (own_w hw 119 rfl)) (notFace_of_selects (args := #[]) (mvT hZ (own_w hw 121 rfl))) (mvT hZ (own_w hw 121 rfl)) (mvT hZ (own_w hw 120 rfl)) (by decide) (backOf (W := 2) (rmSlot l Z a0 hw [] a pq i rr h14 n0 (Nat.le_trans Z0 K14.1) (((zc2.keep Kc7).keep Kc9).wr W14) (((zc3.keep Kc7 nin0).keep Kc9 (ninS nc28 (ninS nc29 nin0))).other W14 (Or.inl nc21))) hZ (own_w hw 122 rfl) (own_w hw 3 rfl) (by decide) (by decide)) q17a q17c (g := (mkF m 50 #[.val (.ref a), .val (.int pq), .val (.ref sp), .val (.int i)] [(.int i), (.int pq), (.ref a), (.int z6), (.ref sl)])) rfl (by rw [hml]; rfl) (Steps.refl _) (argsL := [(.int pq), (.int i)]) (rest := [(.int z6), (.ref sl)]) (lenOf pd_1 rfl) rfl (by show 2 * 0 + _ ≤ _; exact Nat.le_of_eq rfl) (hb hby d24_50) (fun _ _ => ⟨rfl, e15, (by decide : 0 + 0 ≤ _), (by decide : 0 + 0 ≤ _)⟩)
    dsimp only [Pt.U, Pt.locs, Pt.cells, Pt.slots] at X17 l17 y17 z17 st17 hQ17
    subst l17 y17 z17
    obtain ⟨rfl, N17q, eh17⟩ := hQ17
    have N17 := Fr.app N14 N17q
    refine own_via st17 ?_
    obtain ⟨cl18, Ar18, q18, S18, M18, H18, G18⟩ := id (((zc7.keep Kc7 nin0).keep Kc9 (ninS (Ne.symm nc25) (ninS (Ne.symm nc27) nin0))).other W14 (Ne.symm nc20))
    have hin18 : ¬ (z6 < 0 ∨ cl18.slots.size ≤ (z6).toNatClampNeg) := inb_of S18 ⟨own_n0 hzb6.1, own_lt (by rw [hns]; exact hzb6.2.2)⟩
    obtain ⟨T19, h19, X19, e19, W19, st19⟩ := stI X17 hx hZ eh17 Ar18 (j := z6) hin18 (g := (mkF m 53 #[.val (.ref a), .val (.int pq), .val (.ref sp), .val (.int i)] [(.int ((pq * rr) + i)), (.int z6), (.ref sl)])) rfl rfl (hb hby d24_53)
    obtain ⟨vs19, hvs19⟩ : ∃ z_ : List Value, z_ = (vu.set (z6).toNatClampNeg (.int ((pq * rr) + i))) := ⟨_, rfl⟩
    have B19 : Arv Z h19 sl ks .int ns vs19 (.int (0 : Int32)) := hvs19 ▸ Arv.set Ar18 q18 S18 M18 H18 G18 rfl W19 _ rfl (own_ln hzb6.1 (own_lt (by rw [hns]; exact hzb6.2.2)) hvu)
    refine own_go st19 ?_
    have K19 : Keep h0 h19 [wk, sl, al, ed] := K14.wr W19 (Or.inl (List.mem_of_getElem? (i := 1) rfl))
    have O19 := O14.wr W19 gc16
    have N19 := Fr.snoc X19 N17 gc16
    refine own_go (A := T19.setTop (mkF m 2 #[.val (.ref a), .val (.int pq), .val (.ref sp), .val (.int (i + (1 : Int32)))] [])) (fun t_ k_ => ?_) ?_
    · show Steps p.tables e below (T19.setTop (mkF m 54 #[.val (.ref a), .val (.int pq), .val (.ref sp), .val (.int i)] [])) t_
      refine XS.iinc X19.here hx rfl (hb hby d24_54) rfl (l' := #[.val (.ref a), .val (.int pq), .val (.ref sp), .val (.int (i + (1 : Int32)))]) rfl ?_
      refine XS.goto X19.here hx rfl (pc0 := 57) (pc' := 2) rfl (hb hby d24_57) (by decide) (by decide) ?_
      exact k_
    exact ih T19 h19 _ (i + (1 : Int32)) vs14 vs19 er_9 (sz - (1 : Int32)) (mc + (1 : Int32)) X19 e19 N19 K19 O19 zc0 zc1 ((((zc2.keep Kc7).keep Kc9).wr W14).wr W19) ((((zc3.keep Kc7 nin0).keep Kc9 (ninS nc28 (ninS nc29 nin0))).other W14 (Or.inl nc21)).other W19 (Or.inl nc22)) ((((zc4.keep Kc7 nin0).keep Kc9 (ninS nc28 (ninS nc29 nin0))).other W14 (Or.inl nc21)).other W19 (Or.inl nc22)) ((((zc5.keep Kc7 nin0).keep Kc9 (ninS nc28 (ninS nc29 nin0))).other W14 (Or.inl nc21)).other W19 (Or.inl nc22)) (B14.other W19 nc20) B19 ((((zc8.keep Kc7 nin0).keep Kc9 (ninS nc32 (ninS nc33 nin0))).other W14 nc30).other W19 nc31) ((((zc9.keep Kc7 nin0).keep Kc9 (ninS nc28 (ninS nc29 nin0))).other W14 (Or.inl nc21)).other W19 (Or.inl nc22)) ((((zc10.keep Kc7).keep Kc9).wr W14).wr W19) ((r9_0.other W14 (Or.inl nc24)).other W19 (Or.inl nc25)) ((r9_1.other W14 (Or.inl nc24)).other W19 (Or.inl nc25)) ((r9_2.other W14 (Or.inl nc24)).other W19 (Or.inl nc25)) ((r9_3.other W14 nc26).other W19 nc27) gc15 gc16 gc17 gc18 oc19 nc20 nc21 nc22 nc23 nc24 nc25 nc26 nc27 nc28 nc29 nc30 nc31 nc32 nc33 hbx hn hr hnr hns hp hvl hul hls hsz0 hel0 hsp0 (by rw [own_inc hi0 hlt]; omega) (by rw [own_inc hi0 hlt]; omega) (by rw [hvs14, List.length_set]; exact hvw) (by rw [hvs19, List.length_set]; exact hvu) w9_0 (by rw [own_sub1 (by omega), own_inc hi0 hlt]; omega) (own_nsp hsp w9_1 (by omega) hi0 hlt) (by rw [hvs14, own_inc hi0 hlt]; exact own_rpl1 (own_pr hr hn hp).1 hi0 (own_jn hr hn hp hi0 (Int.le_of_lt hlt')) (own_ln (own_nn (own_j0 hr hn hp hi0 (Int.le_of_lt hlt'))) (own_j1 hr hn hp hnr hi0 hlt') hvw) hzv6 hrp)
abbrev own_y25 : MethodName := ⟨"com/example/kneiphof/kneiphof/Assignment", "replace", "(I[I)V"⟩
theorem ef_rmRep (m : MethodId) (a : Addr) (pq : Int32) (sp : Addr) : entryFrame m #[(.ref a), (.int pq), (.ref sp)] 4 = mkF m 0 #[.val (.ref a), .val (.int pq), .val (.ref sp), .unset] [] := by first | (simp [entryFrame, mkF, argsToLocals, Value.category]; done) | rfl
set_option maxRecDepth 65536 in
set_option maxHeartbeats 40000000 in
theorem rmRep (l : Launch) (Z : State) (a0 : Array Value) (hw : ∀ d ∈ tables_1, d.before a0 Z = true) (ws : List Jvm.Cond) (a : Addr) (pq : Int32) (sp : Addr) (n : Int32) (rr : Int32) (nr : Int32) (ns : Int32) (wk : Addr) (kw : ClassId) (sl : Addr) (ks : ClassId) (vs : List Value) (us : List Value) (ksp : ClassId) (ls : List Value) (al : Addr) (ed : Addr) (kk : ClassId) (sz0 : Int32) (mc0 : Int32) (ee0 : List Value) (ca : Addr) (bxc : Cell) (h0 : Heap) (n0 : Nat) (Z0 : n0 ≤ h0.size) (O0 : Old Z n0 h0) (u1 : Sta Z Z.heap "java/lang/Integer$IntegerCache" "high" "I" (.int (127 : Int32))) (u2 : Sta Z Z.heap "java/lang/Integer$IntegerCache" "cache" "[Ljava/lang/Integer;" (.ref ca)) (hbx : Bxs Z ca bxc "java/lang/Integer" "I" (256 : Int32) own_bval) (u4 : Exa Z h0 a "com/example/kneiphof/kneiphof/Assignment") (u5 : Fld Z h0 a "com/example/kneiphof/kneiphof/Assignment" "replicas" "I" (.int rr)) (u6 : Fld Z h0 a "com/example/kneiphof/kneiphof/Assignment" "workers" "[I" (.ref wk)) (u7 : Fld Z h0 a "com/example/kneiphof/kneiphof/Assignment" "slots" "[I" (.ref sl)) (u8 : Arv Z h0 wk kw .int nr vs (.int (0 : Int32))) (u9 : Arv Z h0 sl ks .int ns us (.int (0 : Int32))) (u10 : n0 ≤ wk) (u11 : n0 ≤ sl) (u12 : wk ≠ sl) (u13 : a ≠ wk) (u14 : a ≠ sl) (hn : 1 ≤ n.toInt ∧ n.toInt ≤ 4) (hr : 1 ≤ rr.toInt ∧ rr.toInt ≤ 4) (hnr : nr.toInt = n.toInt * rr.toInt) (hns : ns.toInt = n.toInt * rr.toInt + rr.toInt) (hp : 0 ≤ pq.toInt ∧ pq.toInt < n.toInt) (hvl : vs.length = (nr).toNatClampNeg) (hul : us.length = (ns).toNatClampNeg) (u22 : Arv Z h0 sp ksp .int (4 : Int32) ls (.int (0 : Int32))) (u23 : Fld Z h0 a "com/example/kneiphof/kneiphof/Assignment" "spares" "Ljava/util/List;" (.ref al)) (u24 : Exa Z h0 al "java/util/ArrayList") (u25 : Fld Z h0 al "java/util/ArrayList" "elementData" "[Ljava/lang/Object;" (.ref ed)) (u26 : Fld Z h0 al "java/util/ArrayList" "size" "I" (.int sz0)) (u27 : Fld Z h0 al "java/util/AbstractList" "modCount" "I" (.int mc0)) (u28 : Arv Z h0 ed kk (.object "java/lang/Object") (10 : Int32) ee0 .null) (u29 : Ovr Z kk "java/lang/Object") (u30 : n0 ≤ al) (u31 : n0 ≤ ed) (u32 : al ≠ ed) (u33 : al ≠ wk) (u34 : al ≠ sl) (u35 : ed ≠ wk) (u36 : ed ≠ sl) (u37 : a ≠ al) (u38 : a ≠ ed) (u39 : sp ≠ wk) (u40 : sp ≠ sl) (u41 : sp ≠ al) (u42 : sp ≠ ed) (hls : own_spv ls nr.toInt) (hsz0 : sz0.toInt = rr.toInt) (hel0 : ee0.length = 10) (hsp0 : own_sp Z ee0 rr.toInt nr.toInt) :
    MetFree l own_y25 (head1 (Jvm.Cond.code own_y25 prog_5_method_19_code 4 none :: ws) ({ frames := 3, cells := 0, slots := 0, locals := 49 } : Room)) (fun a_ U_ => a_ = #[(.ref a), (.int pq), (.ref sp)] ∧ Z.Warmed39 U_.vm ∧ U_.heap = h0) (fun _ _ _ _ _ => True) (fun _ U_ o_ U2_ => ∃ v_ L_, o_ = .returned v_ ∧ Q_rmRep Z a pq sp n rr nr ns wk kw sl ks vs us ksp ls al ed kk sz0 mc0 ee0 ca bxc h0 n0 v_ U2_.heap L_ ∧ FrameEnd U_ o_ U2_ L_ ({ frames := 3, cells := 0, slots := 0, locals := 49 } : Room).cells ({ frames := 3, cells := 0, slots := 0, locals := 49 } : Room).slots) := by
  refine MetFree.of_bodySF (plainFor_of_name pn_7) hisR ?_
  intro p e s m args below meth c s₁ Bd hml0 hP hK
  obtain ⟨rfl, hZ, hh⟩ := hP
  have hx := Bd.exec
  have hby := Bd.bytes
  have hml : c.maxLocals = 4 := hml0
  have hown : s.vm.findClass "com/example/kneiphof/kneiphof/Assignment" = some m.cls := findClass_of_methodNamed Bd.named
  have hnm := (name_of_methodNamed Bd.named Bd.method).1
  have X0 : Stand p l e ({ frames := 3, cells := 0, slots := 0, locals := 49 } : Room) s m #[(.ref a), (.int pq), (.ref sp)] below meth c s₁ [] 0 0 := Stand.of_body Bd
  have e0 : s₁.heap = h0 := by rw [← hh, Bd.state]; rfl
  have N0 := Fr.nil n0
  refine own_go (A := s₁.setTop (mkF m 0 #[.val (.ref a), .val (.int pq), .val (.ref sp), .unset] [])) (fun t_ k_ => castTop (ef_rmRep m a pq sp) k_) ?_
  refine own_go (A := s₁.setTop (mkF m 2 #[.val (.ref a), .val (.int pq), .val (.ref sp), .val (.int (0 : Int32))] [])) (fun t_ k_ => ?_) ?_
  · show Steps p.tables e below (s₁.setTop (mkF m 0 #[.val (.ref a), .val (.int pq), .val (.ref sp), .unset] [])) t_
    refine XS.iconst X0.here hx rfl (hb hby d24_0) ?_
    refine XS.istoreN X0.here hx rfl (hb hby d24_1) rfl (l' := #[.val (.ref a), .val (.int pq), .val (.ref sp), .val (.int (0 : Int32))]) rfl ?_
    exact k_
  exact own_rplp l Z a0 hw a pq sp n rr nr ns wk kw sl ks vs us ksp ls al ed kk sz0 mc0 ee0 ca bxc h0 n0 Z0 hx hZ hby hml hown Bd.returns (BodyLoose.notSynchronized Bd) hh (rr.toInt).toNat s₁ h0 _ (0 : Int32) vs us ee0 sz0 mc0 X0 e0 N0 (Keep.refl h0 [wk, sl, al, ed]) O0 u1 u2 u4 u5 u6 u7 u8 u9 u22 u23 u24 u25 u26 u27 u28 u10 u11 u30 u31 u29 u12 u13 u14 u32 u33 u34 u35 u36 u37 u38 u39 u40 u41 u42 hbx hn hr hnr hns hp hvl hul hls hsz0 hel0 hsp0 (by show (0 : Int) + _ = _; omega) (Int.le_refl 0) hvl hul hel0 (by rw [own_i0]; omega) (by rw [own_i0, Int.add_zero, hsz0]; exact hsp0) own_rpl0
def own_al (vs : List Value) (J : Nat) : Prop := ∃ w : Int32, vs.getD J (.int (0 : Int32)) = .int w ∧ ¬ (w = (-1 : Int32))
theorem own_out {q p r t i : Int} (hr : 1 ≤ r ∧ r ≤ 4) (hq : 0 ≤ q) (hp : 0 ≤ p) (hne : q ≠ p) (h1 : 0 ≤ t) (h2 : t < r) (h3 : 0 ≤ i) (h4 : i < r) : (q * r + i).toNat ≠ (p * r + t).toNat := by
  rcases own_r4 hr with h | h | h | h <;> subst h <;> omega
theorem own_bpre {vw : List Value} {pq rr n nr ns : Int32} (h : own_pre vw nr.toInt) (hr : 1 ≤ rr.toInt ∧ rr.toInt ≤ 4) (hn : 1 ≤ n.toInt ∧ n.toInt ≤ 4) (hp : 0 ≤ pq.toInt ∧ pq.toInt < n.toInt) (hnr : nr.toInt = n.toInt * rr.toInt) (hns : ns.toInt = n.toInt * rr.toInt + rr.toInt) : own_blk vw rr.toInt pq.toInt ns.toInt := fun i h0 h1 => by
  have b := own_pr hr hn hp
  obtain ⟨w, e1, e2⟩ := h (pq.toInt * rr.toInt + i).toNat (by omega)
  exact ⟨w, e1, by omega, by omega⟩
theorem own_brem {vs vr : List Value} {r p q M : Int} (h : own_rem vs vr r p r) (hr : 1 ≤ r ∧ r ≤ 4) (hp : 0 ≤ p) (hq : 0 ≤ q) (hne : q ≠ p) (hb : own_blk vs r q M) : own_blk vr r q M := fun i h0 h1 => by
  obtain ⟨w, e⟩ := hb i h0 h1
  exact ⟨w, by rw [h.2 _ fun t h2 h3 => own_out hr hq hp hne h2 h3 h0 h1]; exact e.1, e.2⟩
theorem own_alb {vs : List Value} {r q M : Int} (h : own_blk vs r q M) (hr : 1 ≤ r ∧ r ≤ 4) : own_al vs (q * r + 0).toNat := by
  obtain ⟨w, e1, e2, -⟩ := h 0 (Int.le_refl 0) (by omega)
  exact ⟨w, e1, own_m1 e2⟩
theorem own_arp {vs vr : List Value} {r p q b : Int} (h : own_rpl vs vr r p r b) (hr : 1 ≤ r ∧ r ≤ 4) (hp : 0 ≤ p) (hq : 0 ≤ q) (hb : 0 ≤ b) (h1 : q ≠ p → own_al vs (q * r + 0).toNat) : own_al vr (q * r + 0).toNat := by
  by_cases e : q = p
  · subst e; obtain ⟨z, e1, e2⟩ := h.1 0 (Int.le_refl 0) (by omega); exact ⟨z, e1, own_m1 (by omega)⟩
  · obtain ⟨w, e1, e2⟩ := h1 e
    exact ⟨w, by rw [h.2 _ fun t h2 h3 => own_out hr hq hp e h2 h3 (Int.le_refl 0) (by omega)]; exact e1, e2⟩
theorem own_dd {vs vr : List Value} {r p : Int} (h : own_rem vs vr r p r) (hr : 1 ≤ r ∧ r ≤ 4) : vr.getD (p * r + 0).toNat (.int (0 : Int32)) = .int (-1 : Int32) := h.1 0 (Int.le_refl 0) (by omega)
theorem own_ddr {vs vr : List Value} {r p q : Int} (h : own_rem vs vr r p r) (hr : 1 ≤ r ∧ r ≤ 4) (hp : 0 ≤ p) (hq : 0 ≤ q) (hne : q ≠ p) (hd : vs.getD (q * r + 0).toNat (.int (0 : Int32)) = .int (-1 : Int32)) : vr.getD (q * r + 0).toNat (.int (0 : Int32)) = .int (-1 : Int32) := by
  rw [h.2 _ fun t h2 h3 => own_out hr hq hp hne h2 h3 (Int.le_refl 0) (by omega)]; exact hd
theorem own_ne32 {x y : Int32} (h : ¬ (x = y)) : x.toInt ≠ y.toInt := fun e => h (Int32.toInt_inj.mp e)
theorem own_ix0 {pq rr n : Int32} (hr : 1 ≤ rr.toInt ∧ rr.toInt ≤ 4) (hn : 1 ≤ n.toInt ∧ n.toInt ≤ 4) (hp : 0 ≤ pq.toInt ∧ pq.toInt < n.toInt) : ((pq * rr) + (0 : Int32)).toNatClampNeg = (pq.toInt * rr.toInt + 0).toNat := own_jn hr hn hp (Int.le_refl 0) (by show (0 : Int) ≤ _; omega)
theorem own_ib0 {pq rr n : Int32} (hr : 1 ≤ rr.toInt ∧ rr.toInt ≤ 4) (hn : 1 ≤ n.toInt ∧ n.toInt ≤ 4) (hp : 0 ≤ pq.toInt ∧ pq.toInt < n.toInt) : ¬ (((pq * rr) + (0 : Int32)) < 0) := own_j0 hr hn hp (Int.le_refl 0) (by show (0 : Int) ≤ _; omega)
theorem own_ib1 {pq rr n nr : Int32} (hr : 1 ≤ rr.toInt ∧ rr.toInt ≤ 4) (hn : 1 ≤ n.toInt ∧ n.toInt ≤ 4) (hp : 0 ≤ pq.toInt ∧ pq.toInt < n.toInt) (hnr : nr.toInt = n.toInt * rr.toInt) : ((pq * rr) + (0 : Int32)) < nr := own_j1 hr hn hp hnr (Int.le_refl 0) (by show (0 : Int) < _; omega)
theorem own_ls {x : Int32} (h : 0 ≤ x.toInt ∧ x.toInt ≤ 16) : own_spv [(.int x), (.int (x + (1 : Int32))), (.int (x + (2 : Int32))), (.int (x + (3 : Int32)))] x.toInt := fun j hj => by
  have h1 := c_iadd x 1; have h2 := c_iadd x 2; have h3 := c_iadd x 3; have r1 := rng32 (x + 1); have r2 := rng32 (x + 2); have r3 := rng32 (x + 3)
  rw [show ((1 : Int32).toInt) = 1 from rfl] at h1; rw [show ((2 : Int32).toInt) = 2 from rfl] at h2; rw [show ((3 : Int32).toInt) = 3 from rfl] at h3
  have e : j = 0 ∨ j = 1 ∨ j = 2 ∨ j = 3 := by omega
  rcases e with rfl | rfl | rfl | rfl
  · exact ⟨_, rfl, by omega⟩
  · exact ⟨_, rfl, by omega⟩
  · exact ⟨_, rfl, by omega⟩
  · exact ⟨_, rfl, by omega⟩
theorem own_n4 (p : Int32) : 1 ≤ ((1 : Int32) + (p &&& (3 : Int32))).toInt ∧ ((1 : Int32) + (p &&& (3 : Int32))).toInt ≤ 4 := by
  have h1 := c_and p 3 (by decide); rw [show ((3 : Int32).toInt) = 3 from by decide] at h1
  have h2 := c_iadd 1 (p &&& 3); have h3 := rng32 (1 + (p &&& 3)); rw [show ((1 : Int32).toInt) = 1 from rfl] at h2; omega
theorem own_md (x : Int32) {n : Int32} (hn : 1 ≤ n.toInt ∧ n.toInt ≤ 4) : 0 ≤ ((x &&& (2147483647 : Int32)) % n).toInt ∧ ((x &&& (2147483647 : Int32)) % n).toInt < n.toInt := by
  have h1 := c_and x 2147483647 (by decide)
  have h2 := (c_iremV (x &&& 2147483647) n).1 h1.1 (by omega); exact ⟨h2.1, h2.2.1⟩
theorem own_nz {n : Int32} (hn : 1 ≤ n.toInt ∧ n.toInt ≤ 4) : ¬ (n = (0 : Int32)) := fun e => by rw [e] at hn; exact absurd hn.1 (by decide)
theorem own_rs {r : Int32} (h : 1 ≤ r.toInt ∧ r.toInt ≤ 4) : r = (1 : Int32) ∨ r = (2 : Int32) ∨ r = (3 : Int32) ∨ r = (4 : Int32) := by
  rcases own_r4 h with q | q | q | q
  · exact Or.inl (Int32.toInt_inj.mp q)
  · exact Or.inr (Or.inl (Int32.toInt_inj.mp q))
  · exact Or.inr (Or.inr (Or.inl (Int32.toInt_inj.mp q)))
  · exact Or.inr (Or.inr (Or.inr (Int32.toInt_inj.mp q)))
theorem own_sp1 {Z : State} {n : Int32} {x0_ : Addr} (hn : 1 ≤ n.toInt ∧ n.toInt ≤ 4) (e0 : Exa Z Z.heap x0_ "java/lang/Integer") (f0 : Fld Z Z.heap x0_ "java/lang/Integer" "value" "I" (.int (n * (1 : Int32)))) : own_sp Z [(.ref x0_), .null, .null, .null, .null, .null, .null, .null, .null, .null] ((1 : Int32).toInt) ((n * (1 : Int32))).toInt := fun j hj => by
  rw [show ((1 : Int32).toInt) = 1 from rfl] at hj
  have h0 := own_nr1 hn
  have e : j = 0 := by omega
  rcases e with rfl
  · exact ⟨x0_, _, rfl, e0, f0, by omega⟩
theorem own_sp2 {Z : State} {n : Int32} {x0_ x1_ : Addr} (hn : 1 ≤ n.toInt ∧ n.toInt ≤ 4) (e0 : Exa Z Z.heap x0_ "java/lang/Integer") (f0 : Fld Z Z.heap x0_ "java/lang/Integer" "value" "I" (.int (n * (2 : Int32)))) (e1 : Exa Z Z.heap x1_ "java/lang/Integer") (f1 : Fld Z Z.heap x1_ "java/lang/Integer" "value" "I" (.int ((n * (2 : Int32)) + (1 : Int32)))) : own_sp Z [(.ref x0_), (.ref x1_), .null, .null, .null, .null, .null, .null, .null, .null] ((2 : Int32).toInt) ((n * (2 : Int32))).toInt := fun j hj => by
  rw [show ((2 : Int32).toInt) = 2 from rfl] at hj
  have h0 := own_nr2 hn
  have v1 := own_vi2_1 hn
  have e : j = 0 ∨ j = 1 := by omega
  rcases e with rfl | rfl
  · exact ⟨x0_, _, rfl, e0, f0, by omega⟩
  · exact ⟨x1_, _, rfl, e1, f1, by omega⟩
theorem own_sp3 {Z : State} {n : Int32} {x0_ x1_ x2_ : Addr} (hn : 1 ≤ n.toInt ∧ n.toInt ≤ 4) (e0 : Exa Z Z.heap x0_ "java/lang/Integer") (f0 : Fld Z Z.heap x0_ "java/lang/Integer" "value" "I" (.int (n * (3 : Int32)))) (e1 : Exa Z Z.heap x1_ "java/lang/Integer") (f1 : Fld Z Z.heap x1_ "java/lang/Integer" "value" "I" (.int ((n * (3 : Int32)) + (1 : Int32)))) (e2 : Exa Z Z.heap x2_ "java/lang/Integer") (f2 : Fld Z Z.heap x2_ "java/lang/Integer" "value" "I" (.int ((n * (3 : Int32)) + (2 : Int32)))) : own_sp Z [(.ref x0_), (.ref x1_), (.ref x2_), .null, .null, .null, .null, .null, .null, .null] ((3 : Int32).toInt) ((n * (3 : Int32))).toInt := fun j hj => by
  rw [show ((3 : Int32).toInt) = 3 from rfl] at hj
  have h0 := own_nr3 hn
  have v1 := own_vi3_1 hn
  have v2 := own_vi3_2 hn
  have e : j = 0 ∨ j = 1 ∨ j = 2 := by omega
  rcases e with rfl | rfl | rfl
  · exact ⟨x0_, _, rfl, e0, f0, by omega⟩
  · exact ⟨x1_, _, rfl, e1, f1, by omega⟩
  · exact ⟨x2_, _, rfl, e2, f2, by omega⟩
theorem own_sp4 {Z : State} {n : Int32} {x0_ x1_ x2_ x3_ : Addr} (hn : 1 ≤ n.toInt ∧ n.toInt ≤ 4) (e0 : Exa Z Z.heap x0_ "java/lang/Integer") (f0 : Fld Z Z.heap x0_ "java/lang/Integer" "value" "I" (.int (n * (4 : Int32)))) (e1 : Exa Z Z.heap x1_ "java/lang/Integer") (f1 : Fld Z Z.heap x1_ "java/lang/Integer" "value" "I" (.int ((n * (4 : Int32)) + (1 : Int32)))) (e2 : Exa Z Z.heap x2_ "java/lang/Integer") (f2 : Fld Z Z.heap x2_ "java/lang/Integer" "value" "I" (.int ((n * (4 : Int32)) + (2 : Int32)))) (e3 : Exa Z Z.heap x3_ "java/lang/Integer") (f3 : Fld Z Z.heap x3_ "java/lang/Integer" "value" "I" (.int ((n * (4 : Int32)) + (3 : Int32)))) : own_sp Z [(.ref x0_), (.ref x1_), (.ref x2_), (.ref x3_), .null, .null, .null, .null, .null, .null] ((4 : Int32).toInt) ((n * (4 : Int32))).toInt := fun j hj => by
  rw [show ((4 : Int32).toInt) = 4 from rfl] at hj
  have h0 := own_nr4 hn
  have v1 := own_vi4_1 hn
  have v2 := own_vi4_2 hn
  have v3 := own_vi4_3 hn
  have e : j = 0 ∨ j = 1 ∨ j = 2 ∨ j = 3 := by omega
  rcases e with rfl | rfl | rfl | rfl
  · exact ⟨x0_, _, rfl, e0, f0, by omega⟩
  · exact ⟨x1_, _, rfl, e1, f1, by omega⟩
  · exact ⟨x2_, _, rfl, e2, f2, by omega⟩
  · exact ⟨x3_, _, rfl, e3, f3, by omega⟩
theorem pd_15 : parseMethodDescriptor "(III)V" = some ⟨[.int, .int, .int], none⟩ := by decide +kernel
def Q_rm0 (Z : State) (p1 : Int32) (p2 : Int32) (p3 : Int32) (p4 : Int32) (p5 : Int32) (p6 : Int32) (dc : Addr) (kd : ClassId) (ca : Addr) (bxc : Cell) (el : Addr) (h0 : Heap) (n0 : Nat) (v_ : Option Value) (h_ : Heap) (L_ : List Loc) : Prop := v_ = some (.int (1 : Int32)) ∧ Fr n0 L_ ∧ Keep h0 h_ []
theorem pd_16 : parseMethodDescriptor "(I[I)V" = some ⟨[.int, (.array .int)], none⟩ := by decide +kernel
set_option maxRecDepth 65536 in
set_option maxHeartbeats 40000000 in
theorem own_s00 (l : Launch) (Z : State) (a0 : Array Value) (hw : ∀ d ∈ tables_1, d.before a0 Z = true) (p1 : Int32) (p2 : Int32) (p3 : Int32) (p4 : Int32) (p5 : Int32) (p6 : Int32) (dc : Addr) (kd : ClassId) (ca : Addr) (bxc : Cell) (el : Addr) (y1 : Int32) (rr : Int32) (y3 : Int32) (y4 : Int32) (y5 : Int32) (y6 : Int32) (b7 : Addr) (nr : Int32) (b9 : Addr) (wk_8 : Addr) (sl_8 : Addr) (al_8 : Addr) (kw_8 : ClassId) (vr_21 : List Value) (h0 : Heap) (n0 : Nat) (Z0 : n0 ≤ h0.size) {p : Program} {e : Env} {s : State} {m : MethodId} {below : List Frame} {meth : Method} {c : Code} {Tc : State} {Hc : Heap} {locsc : List Loc} {cc_ sc_ : Nat} (Xc : Stand p l e room_1 s m #[(.int p1), (.int p2), (.int p3), (.int p4), (.int p5), (.int p6)] below meth c Tc locsc cc_ sc_) (hx : p.tables.exec = Jvm.exec) (hZ : Z.Warmed39 s.vm) (hby : c.code = code) (hml : c.maxLocals = 19) (hown : s.vm.findClass "com/example/kneiphof/kneiphof/AssignmentRunsPinLaw" = some m.cls) (hret : meth.sig.returnType = some .boolean) (hlk : meth.locks = false) (hh : s.heap = h0) (ec : Tc.heap = Hc) (Nc : Fr n0 locsc) (Kc0 : Keep h0 Hc []) (Oc : Old Z n0 Hc) (hcc_ : cc_ ≤ room_1.cells) (hsc_ : sc_ ≤ room_1.slots) (zc0 : Exa Z Hc b7 "com/example/kneiphof/kneiphof/Assignment") (zc1 : Fld Z Hc b7 "com/example/kneiphof/kneiphof/Assignment" "workers" "[I" (.ref wk_8)) (zc2 : Fld Z Hc b7 "com/example/kneiphof/kneiphof/Assignment" "slots" "[I" (.ref sl_8)) (zc3 : Fld Z Hc b7 "com/example/kneiphof/kneiphof/Assignment" "spares" "Ljava/util/List;" (.ref al_8)) (zc4 : Fld Z Hc b7 "com/example/kneiphof/kneiphof/Assignment" "replicas" "I" (.int rr)) (zc5 : Arv Z Hc wk_8 kw_8 .int nr vr_21 (.int (0 : Int32))) (gc6 : n0 ≤ b7) (gc7 : h0.size ≤ b7) (gc8 : n0 ≤ wk_8) (gc9 : h0.size ≤ wk_8) (nc10 : b7 ≠ wk_8) (hbx : Bxs Z ca bxc "java/lang/Integer" "I" (256 : Int32) own_bval) (hiq0 : ¬ (((y4 * rr) + (0 : Int32)) < 0)) (hiq1 : ((y4 * rr) + (0 : Int32)) < nr) (hip0 : ¬ (((y3 * rr) + (0 : Int32)) < 0)) (hip1 : ((y3 * rr) + (0 : Int32)) < nr) (haq : own_al vr_21 (((y4 * rr) + (0 : Int32))).toNatClampNeg) (hap : own_al vr_21 (((y3 * rr) + (0 : Int32))).toNatClampNeg) :
    ∃ U_ o_, Steps p.tables e below (Tc.setTop (mkF m 178 #[.val (.int p1), .val (.int p2), .val (.int p3), .val (.int p4), .val (.int p5), .val (.int p6), .val (.int y1), .val (.int rr), .val (.int y3), .val (.int y4), .val (.int y5), .val (.int y6), .val (.ref b7), .val (.int nr), .val (.ref b9), .val (.int (0 : Int32)), .val (.int (0 : Int32)), .unset, .unset] [])) U_ ∧ U_.status = .running ∧ Ended U_ below o_ ∧ (∃ v_ L_, o_ = .returned v_ ∧ Q_rm0 Z p1 p2 p3 p4 p5 p6 dc kd ca bxc el h0 n0 v_ U_.heap L_ ∧ FrameEnd s o_ U_ L_ room_1.cells room_1.slots) := by
  refine own_go (A := Tc.setTop (mkF m 225 #[.val (.int p1), .val (.int p2), .val (.int p3), .val (.int p4), .val (.int p5), .val (.int p6), .val (.int y1), .val (.int rr), .val (.int y3), .val (.int y4), .val (.int y5), .val (.int y6), .val (.ref b7), .val (.int nr), .val (.ref b9), .val (.int (0 : Int32)), .val (.int (0 : Int32)), .val (.int (1 : Int32)), .val (.int (1 : Int32))] [(.int y4), (.ref b7)])) (fun t_ k_ => ?_) ?_
  · show Steps p.tables e below (Tc.setTop (mkF m 178 #[.val (.int p1), .val (.int p2), .val (.int p3), .val (.int p4), .val (.int p5), .val (.int p6), .val (.int y1), .val (.int rr), .val (.int y3), .val (.int y4), .val (.int y5), .val (.int y6), .val (.ref b7), .val (.int nr), .val (.ref b9), .val (.int (0 : Int32)), .val (.int (0 : Int32)), .unset, .unset] [])) t_
    refine XS.iload Xc.here hx rfl (hb hby at_178) rfl ?_
    refine XS.ifYes Xc.here hx rfl (pc0 := 180) (pc' := 190) rfl (hb hby at_180) rfl ((if0 _ _).trans (teq (by decide : (0 : Int32) = (0 : Int32))).1) (by decide) (by decide) ?_
    refine XS.iload Xc.here hx rfl (hb hby at_190) rfl ?_
    refine XS.ifYes Xc.here hx rfl (pc0 := 192) (pc' := 202) rfl (hb hby at_192) rfl ((if0 _ _).trans (teq (by decide : (0 : Int32) = (0 : Int32))).1) (by decide) (by decide) ?_
    show Steps p.tables e below (Tc.setTop (mkF m 202 #[.val (.int p1), .val (.int p2), .val (.int p3), .val (.int p4), .val (.int p5), .val (.int p6), .val (.int y1), .val (.int rr), .val (.int y3), .val (.int y4), .val (.int y5), .val (.int y6), .val (.ref b7), .val (.int nr), .val (.ref b9), .val (.int (0 : Int32)), .val (.int (0 : Int32)), .unset, .unset] [])) t_
    refine XS.iconst Xc.here hx rfl (hb hby at_202) ?_
    refine XS.goto Xc.here hx rfl (pc0 := 203) (pc' := 207) rfl (hb hby at_203) (by decide) (by decide) ?_
    refine XS.istore Xc.here hx rfl (hb hby at_207) rfl (l' := #[.val (.int p1), .val (.int p2), .val (.int p3), .val (.int p4), .val (.int p5), .val (.int p6), .val (.int y1), .val (.int rr), .val (.int y3), .val (.int y4), .val (.int y5), .val (.int y6), .val (.ref b7), .val (.int nr), .val (.ref b9), .val (.int (0 : Int32)), .val (.int (0 : Int32)), .val (.int (1 : Int32)), .unset]) rfl ?_
    refine XS.iload Xc.here hx rfl (hb hby at_209) rfl ?_
    show Steps p.tables e below (Tc.setTop (mkF m 211 #[.val (.int p1), .val (.int p2), .val (.int p3), .val (.int p4), .val (.int p5), .val (.int p6), .val (.int y1), .val (.int rr), .val (.int y3), .val (.int y4), .val (.int y5), .val (.int y6), .val (.ref b7), .val (.int nr), .val (.ref b9), .val (.int (0 : Int32)), .val (.int (0 : Int32)), .val (.int (1 : Int32)), .unset] [(.int (0 : Int32))])) t_
    refine XS.ifNo Xc.here hx rfl (hb hby at_211) rfl ((if0 _ _).trans (teq (by decide : (0 : Int32) = (0 : Int32))).2) ?_
    refine XS.iconst Xc.here hx rfl (hb hby at_214) ?_
    refine XS.goto Xc.here hx rfl (pc0 := 215) (pc' := 219) rfl (hb hby at_215) (by decide) (by decide) ?_
    refine XS.istore Xc.here hx rfl (hb hby at_219) rfl (l' := #[.val (.int p1), .val (.int p2), .val (.int p3), .val (.int p4), .val (.int p5), .val (.int p6), .val (.int y1), .val (.int rr), .val (.int y3), .val (.int y4), .val (.int y5), .val (.int y6), .val (.ref b7), .val (.int nr), .val (.ref b9), .val (.int (0 : Int32)), .val (.int (0 : Int32)), .val (.int (1 : Int32)), .val (.int (1 : Int32))]) rfl ?_
    show Steps p.tables e below (Tc.setTop (mkF m 221 #[.val (.int p1), .val (.int p2), .val (.int p3), .val (.int p4), .val (.int p5), .val (.int p6), .val (.int y1), .val (.int rr), .val (.int y3), .val (.int y4), .val (.int y5), .val (.int y6), .val (.ref b7), .val (.int nr), .val (.ref b9), .val (.int (0 : Int32)), .val (.int (0 : Int32)), .val (.int (1 : Int32)), .val (.int (1 : Int32))] [])) t_
    refine XS.aload Xc.here hx rfl (hb hby at_221) rfl rfl ?_
    refine XS.iload Xc.here hx rfl (hb hby at_223) rfl ?_
    exact k_
  obtain ⟨w23, hwx23, hwy23⟩ := haq
  obtain ⟨cq24, kq24, q24a, q24b, q24c⟩ := isOf hZ ec zc0
  obtain ⟨_, _, ⟨T24, L24, k24, n24⟩, -, X24, ⟨Lc24, hQ24, l24, y24, z24⟩, st24⟩ := Xc.virtualBack hx (y := own_y16) (z := own_y16) hown (mvT hZ (own_w hw 113 rfl)) (mvT hZ (own_w hw 114 rfl)) (notFace_of_selects (args := #[]) (mvT hZ (own_w hw 116 rfl))) (mvT hZ (own_w hw 116 rfl)) (mvT hZ (own_w hw 115 rfl)) (by decide) (backOf (W := 0) (rmRuns1 l Z a0 hw [] b7 y4 rr wk_8 kw_8 nr vr_21 w23 Hc n0 (Nat.le_trans Z0 Kc0.1) zc0 zc4 zc1 zc5 hiq0 hiq1 hwx23 hwy23) hZ (own_w hw 117 rfl) (own_w hw 3 rfl) (by decide) (by decide)) q24a q24c (g := (mkF m 225 #[.val (.int p1), .val (.int p2), .val (.int p3), .val (.int p4), .val (.int p5), .val (.int p6), .val (.int y1), .val (.int rr), .val (.int y3), .val (.int y4), .val (.int y5), .val (.int y6), .val (.ref b7), .val (.int nr), .val (.ref b9), .val (.int (0 : Int32)), .val (.int (0 : Int32)), .val (.int (1 : Int32)), .val (.int (1 : Int32))] [(.int y4), (.ref b7)])) rfl (by rw [hml]; rfl) (Steps.refl _) (argsL := [(.int y4)]) (rest := []) (lenOf pd_11 rfl) rfl (by show 2 * 0 + _ ≤ _; exact Nat.le_of_eq rfl) (hb hby at_225) (fun _ _ => ⟨rfl, ec, hcc_, hsc_⟩)
  dsimp only [Pt.U, Pt.locs, Pt.cells, Pt.slots] at X24 l24 y24 z24 st24 hQ24
  subst l24 y24 z24
  obtain ⟨rfl, N24q, eh24⟩ := hQ24
  have N24 := Fr.app Nc N24q
  refine own_via st24 ?_
  refine own_go (A := T24.setTop (mkF m 237 #[.val (.int p1), .val (.int p2), .val (.int p3), .val (.int p4), .val (.int p5), .val (.int p6), .val (.int y1), .val (.int rr), .val (.int y3), .val (.int y4), .val (.int y5), .val (.int y6), .val (.ref b7), .val (.int nr), .val (.ref b9), .val (.int (0 : Int32)), .val (.int (0 : Int32)), .val (.int (1 : Int32)), .val (.int (1 : Int32))] [(.int y3), (.ref b7)])) (fun t_ k_ => ?_) ?_
  · show Steps p.tables e below (T24.setTop (mkF m 228 #[.val (.int p1), .val (.int p2), .val (.int p3), .val (.int p4), .val (.int p5), .val (.int p6), .val (.int y1), .val (.int rr), .val (.int y3), .val (.int y4), .val (.int y5), .val (.int y6), .val (.ref b7), .val (.int nr), .val (.ref b9), .val (.int (0 : Int32)), .val (.int (0 : Int32)), .val (.int (1 : Int32)), .val (.int (1 : Int32))] [(.int (1 : Int32))])) t_
    refine XS.iload X24.here hx rfl (hb hby at_228) rfl ?_
    refine XS.icmpNo X24.here hx rfl (hb hby at_230) rfl (teq (by decide : (1 : Int32) = (1 : Int32))).2 ?_
    refine XS.aload X24.here hx rfl (hb hby at_233) rfl rfl ?_
    refine XS.iload X24.here hx rfl (hb hby at_235) rfl ?_
    exact k_
  obtain ⟨w25, hwx25, hwy25⟩ := hap
  obtain ⟨cq26, kq26, q26a, q26b, q26c⟩ := isOf hZ eh24 zc0
  obtain ⟨_, _, ⟨T26, L26, k26, n26⟩, -, X26, ⟨Lc26, hQ26, l26, y26, z26⟩, st26⟩ := X24.virtualBack hx (y := own_y16) (z := own_y16) hown (mvT hZ (own_w hw 113 rfl)) (mvT hZ (own_w hw 114 rfl)) (notFace_of_selects (args := #[]) (mvT hZ (own_w hw 116 rfl))) (mvT hZ (own_w hw 116 rfl)) (mvT hZ (own_w hw 115 rfl)) (by decide) (backOf (W := 0) (rmRuns1 l Z a0 hw [] b7 y3 rr wk_8 kw_8 nr vr_21 w25 Hc n0 (Nat.le_trans Z0 Kc0.1) zc0 zc4 zc1 zc5 hip0 hip1 hwx25 hwy25) hZ (own_w hw 117 rfl) (own_w hw 3 rfl) (by decide) (by decide)) q26a q26c (g := (mkF m 237 #[.val (.int p1), .val (.int p2), .val (.int p3), .val (.int p4), .val (.int p5), .val (.int p6), .val (.int y1), .val (.int rr), .val (.int y3), .val (.int y4), .val (.int y5), .val (.int y6), .val (.ref b7), .val (.int nr), .val (.ref b9), .val (.int (0 : Int32)), .val (.int (0 : Int32)), .val (.int (1 : Int32)), .val (.int (1 : Int32))] [(.int y3), (.ref b7)])) rfl (by rw [hml]; rfl) (Steps.refl _) (argsL := [(.int y3)]) (rest := []) (lenOf pd_11 rfl) rfl (by show 2 * 0 + _ ≤ _; exact Nat.le_of_eq rfl) (hb hby at_237) (fun _ _ => ⟨rfl, eh24, hcc_, hsc_⟩)
  dsimp only [Pt.U, Pt.locs, Pt.cells, Pt.slots] at X26 l26 y26 z26 st26 hQ26
  subst l26 y26 z26
  obtain ⟨rfl, N26q, eh26⟩ := hQ26
  have N26 := Fr.app N24 N26q
  refine own_via st26 ?_
  refine own_go (A := T26.setTop (mkF m 250 #[.val (.int p1), .val (.int p2), .val (.int p3), .val (.int p4), .val (.int p5), .val (.int p6), .val (.int y1), .val (.int rr), .val (.int y3), .val (.int y4), .val (.int y5), .val (.int y6), .val (.ref b7), .val (.int nr), .val (.ref b9), .val (.int (0 : Int32)), .val (.int (0 : Int32)), .val (.int (1 : Int32)), .val (.int (1 : Int32))] [(.int (1 : Int32))])) (fun t_ k_ => ?_) ?_
  · show Steps p.tables e below (T26.setTop (mkF m 240 #[.val (.int p1), .val (.int p2), .val (.int p3), .val (.int p4), .val (.int p5), .val (.int p6), .val (.int y1), .val (.int rr), .val (.int y3), .val (.int y4), .val (.int y5), .val (.int y6), .val (.ref b7), .val (.int nr), .val (.ref b9), .val (.int (0 : Int32)), .val (.int (0 : Int32)), .val (.int (1 : Int32)), .val (.int (1 : Int32))] [(.int (1 : Int32))])) t_
    refine XS.iload X26.here hx rfl (hb hby at_240) rfl ?_
    refine XS.icmpNo X26.here hx rfl (hb hby at_242) rfl (teq (by decide : (1 : Int32) = (1 : Int32))).2 ?_
    refine XS.iconst X26.here hx rfl (hb hby at_245) ?_
    refine XS.goto X26.here hx rfl (pc0 := 246) (pc' := 250) rfl (hb hby at_246) (by decide) (by decide) ?_
    exact k_
  obtain ⟨fs27, hr27, hrun27, hended27, hW27, hsame27⟩ := X26.leave (v := some (.int (1 : Int32))) (fun h => by rw [hret] at h; cases h)
  refine ⟨_, _, ?_, hrun27, hended27, _, _, rfl, ?_, ⟨_, rfl⟩, hW27, hsame27.mono hcc_ hsc_⟩
  · exact retN X26 hx (t := .boolean) hret (by simp) (hb hby at_250) hr27
  · show Q_rm0 Z p1 p2 p3 p4 p5 p6 dc kd ca bxc el h0 n0 _ T26.heap _
    rw [eh26]
    exact ⟨rfl, N26, Kc0⟩
set_option maxRecDepth 65536 in
set_option maxHeartbeats 40000000 in
theorem own_s10 (l : Launch) (Z : State) (a0 : Array Value) (hw : ∀ d ∈ tables_1, d.before a0 Z = true) (p1 : Int32) (p2 : Int32) (p3 : Int32) (p4 : Int32) (p5 : Int32) (p6 : Int32) (dc : Addr) (kd : ClassId) (ca : Addr) (bxc : Cell) (el : Addr) (y1 : Int32) (rr : Int32) (y3 : Int32) (y4 : Int32) (y5 : Int32) (y6 : Int32) (b7 : Addr) (nr : Int32) (b9 : Addr) (wk_8 : Addr) (sl_8 : Addr) (al_8 : Addr) (kw_8 : ClassId) (vr_19 : List Value) (h0 : Heap) (n0 : Nat) (Z0 : n0 ≤ h0.size) {p : Program} {e : Env} {s : State} {m : MethodId} {below : List Frame} {meth : Method} {c : Code} {Tc : State} {Hc : Heap} {locsc : List Loc} {cc_ sc_ : Nat} (Xc : Stand p l e room_1 s m #[(.int p1), (.int p2), (.int p3), (.int p4), (.int p5), (.int p6)] below meth c Tc locsc cc_ sc_) (hx : p.tables.exec = Jvm.exec) (hZ : Z.Warmed39 s.vm) (hby : c.code = code) (hml : c.maxLocals = 19) (hown : s.vm.findClass "com/example/kneiphof/kneiphof/AssignmentRunsPinLaw" = some m.cls) (hret : meth.sig.returnType = some .boolean) (hlk : meth.locks = false) (hh : s.heap = h0) (ec : Tc.heap = Hc) (Nc : Fr n0 locsc) (Kc0 : Keep h0 Hc []) (Oc : Old Z n0 Hc) (hcc_ : cc_ ≤ room_1.cells) (hsc_ : sc_ ≤ room_1.slots) (zc0 : Exa Z Hc b7 "com/example/kneiphof/kneiphof/Assignment") (zc1 : Fld Z Hc b7 "com/example/kneiphof/kneiphof/Assignment" "workers" "[I" (.ref wk_8)) (zc2 : Fld Z Hc b7 "com/example/kneiphof/kneiphof/Assignment" "slots" "[I" (.ref sl_8)) (zc3 : Fld Z Hc b7 "com/example/kneiphof/kneiphof/Assignment" "spares" "Ljava/util/List;" (.ref al_8)) (zc4 : Fld Z Hc b7 "com/example/kneiphof/kneiphof/Assignment" "replicas" "I" (.int rr)) (zc5 : Arv Z Hc wk_8 kw_8 .int nr vr_19 (.int (0 : Int32))) (gc6 : n0 ≤ b7) (gc7 : h0.size ≤ b7) (gc8 : n0 ≤ wk_8) (gc9 : h0.size ≤ wk_8) (nc10 : b7 ≠ wk_8) (hbx : Bxs Z ca bxc "java/lang/Integer" "I" (256 : Int32) own_bval) (hiq0 : ¬ (((y4 * rr) + (0 : Int32)) < 0)) (hiq1 : ((y4 * rr) + (0 : Int32)) < nr) (hip0 : ¬ (((y3 * rr) + (0 : Int32)) < 0)) (hip1 : ((y3 * rr) + (0 : Int32)) < nr) (hdp : vr_19.getD (((y3 * rr) + (0 : Int32))).toNatClampNeg (.int (0 : Int32)) = .int (-1 : Int32)) (haq : ¬ (y4 = y3) → own_al vr_19 (((y4 * rr) + (0 : Int32))).toNatClampNeg) :
    ∃ U_ o_, Steps p.tables e below (Tc.setTop (mkF m 178 #[.val (.int p1), .val (.int p2), .val (.int p3), .val (.int p4), .val (.int p5), .val (.int p6), .val (.int y1), .val (.int rr), .val (.int y3), .val (.int y4), .val (.int y5), .val (.int y6), .val (.ref b7), .val (.int nr), .val (.ref b9), .val (.int (1 : Int32)), .val (.int (0 : Int32)), .unset, .unset] [])) U_ ∧ U_.status = .running ∧ Ended U_ below o_ ∧ (∃ v_ L_, o_ = .returned v_ ∧ Q_rm0 Z p1 p2 p3 p4 p5 p6 dc kd ca bxc el h0 n0 v_ U_.heap L_ ∧ FrameEnd s o_ U_ L_ room_1.cells room_1.slots) := by
  refine own_go (A := Tc.setTop (mkF m 187 #[.val (.int p1), .val (.int p2), .val (.int p3), .val (.int p4), .val (.int p5), .val (.int p6), .val (.int y1), .val (.int rr), .val (.int y3), .val (.int y4), .val (.int y5), .val (.int y6), .val (.ref b7), .val (.int nr), .val (.ref b9), .val (.int (1 : Int32)), .val (.int (0 : Int32)), .unset, .unset] [(.int y3), (.int y4)])) (fun t_ k_ => ?_) ?_
  · show Steps p.tables e below (Tc.setTop (mkF m 178 #[.val (.int p1), .val (.int p2), .val (.int p3), .val (.int p4), .val (.int p5), .val (.int p6), .val (.int y1), .val (.int rr), .val (.int y3), .val (.int y4), .val (.int y5), .val (.int y6), .val (.ref b7), .val (.int nr), .val (.ref b9), .val (.int (1 : Int32)), .val (.int (0 : Int32)), .unset, .unset] [])) t_
    refine XS.iload Xc.here hx rfl (hb hby at_178) rfl ?_
    refine XS.ifNo Xc.here hx rfl (hb hby at_180) rfl ((if0 _ _).trans (feq (by decide : ¬ ((1 : Int32) = (0 : Int32)))).1) ?_
    refine XS.iload Xc.here hx rfl (hb hby at_183) rfl ?_
    refine XS.iload Xc.here hx rfl (hb hby at_185) rfl ?_
    exact k_
  by_cases hc187_30 : y4 = y3
  · refine own_go (A := Tc.setTop (mkF m 225 #[.val (.int p1), .val (.int p2), .val (.int p3), .val (.int p4), .val (.int p5), .val (.int p6), .val (.int y1), .val (.int rr), .val (.int y3), .val (.int y4), .val (.int y5), .val (.int y6), .val (.ref b7), .val (.int nr), .val (.ref b9), .val (.int (1 : Int32)), .val (.int (0 : Int32)), .val (.int (0 : Int32)), .val (.int (0 : Int32))] [(.int y4), (.ref b7)])) (fun t_ k_ => ?_) ?_
    · show Steps p.tables e below (Tc.setTop (mkF m 187 #[.val (.int p1), .val (.int p2), .val (.int p3), .val (.int p4), .val (.int p5), .val (.int p6), .val (.int y1), .val (.int rr), .val (.int y3), .val (.int y4), .val (.int y5), .val (.int y6), .val (.ref b7), .val (.int nr), .val (.ref b9), .val (.int (1 : Int32)), .val (.int (0 : Int32)), .unset, .unset] [(.int y3), (.int y4)])) t_
      refine XS.icmpYes Xc.here hx rfl (pc0 := 187) (pc' := 206) rfl (hb hby at_187) rfl (teq hc187_30).1 (by decide) (by decide) ?_
      refine XS.iconst Xc.here hx rfl (hb hby at_206) ?_
      refine XS.istore Xc.here hx rfl (hb hby at_207) rfl (l' := #[.val (.int p1), .val (.int p2), .val (.int p3), .val (.int p4), .val (.int p5), .val (.int p6), .val (.int y1), .val (.int rr), .val (.int y3), .val (.int y4), .val (.int y5), .val (.int y6), .val (.ref b7), .val (.int nr), .val (.ref b9), .val (.int (1 : Int32)), .val (.int (0 : Int32)), .val (.int (0 : Int32)), .unset]) rfl ?_
      refine XS.iload Xc.here hx rfl (hb hby at_209) rfl ?_
      show Steps p.tables e below (Tc.setTop (mkF m 211 #[.val (.int p1), .val (.int p2), .val (.int p3), .val (.int p4), .val (.int p5), .val (.int p6), .val (.int y1), .val (.int rr), .val (.int y3), .val (.int y4), .val (.int y5), .val (.int y6), .val (.ref b7), .val (.int nr), .val (.ref b9), .val (.int (1 : Int32)), .val (.int (0 : Int32)), .val (.int (0 : Int32)), .unset] [(.int (1 : Int32))])) t_
      refine XS.ifYes Xc.here hx rfl (pc0 := 211) (pc' := 218) rfl (hb hby at_211) rfl ((if0 _ _).trans (feq (by decide : ¬ ((1 : Int32) = (0 : Int32)))).2) (by decide) (by decide) ?_
      refine XS.iconst Xc.here hx rfl (hb hby at_218) ?_
      refine XS.istore Xc.here hx rfl (hb hby at_219) rfl (l' := #[.val (.int p1), .val (.int p2), .val (.int p3), .val (.int p4), .val (.int p5), .val (.int p6), .val (.int y1), .val (.int rr), .val (.int y3), .val (.int y4), .val (.int y5), .val (.int y6), .val (.ref b7), .val (.int nr), .val (.ref b9), .val (.int (1 : Int32)), .val (.int (0 : Int32)), .val (.int (0 : Int32)), .val (.int (0 : Int32))]) rfl ?_
      refine XS.aload Xc.here hx rfl (hb hby at_221) rfl rfl ?_
      show Steps p.tables e below (Tc.setTop (mkF m 223 #[.val (.int p1), .val (.int p2), .val (.int p3), .val (.int p4), .val (.int p5), .val (.int p6), .val (.int y1), .val (.int rr), .val (.int y3), .val (.int y4), .val (.int y5), .val (.int y6), .val (.ref b7), .val (.int nr), .val (.ref b9), .val (.int (1 : Int32)), .val (.int (0 : Int32)), .val (.int (0 : Int32)), .val (.int (0 : Int32))] [(.ref b7)])) t_
      refine XS.iload Xc.here hx rfl (hb hby at_223) rfl ?_
      exact k_
    obtain ⟨cq32, kq32, q32a, q32b, q32c⟩ := isOf hZ ec zc0
    obtain ⟨_, _, ⟨T32, L32, k32, n32⟩, -, X32, ⟨Lc32, hQ32, l32, y32, z32⟩, st32⟩ := Xc.virtualBack hx (y := own_y16) (z := own_y16) hown (mvT hZ (own_w hw 113 rfl)) (mvT hZ (own_w hw 114 rfl)) (notFace_of_selects (args := #[]) (mvT hZ (own_w hw 116 rfl))) (mvT hZ (own_w hw 116 rfl)) (mvT hZ (own_w hw 115 rfl)) (by decide) (backOf (W := 0) (rmRuns0 l Z a0 hw [] b7 y4 rr wk_8 kw_8 nr vr_19 (-1 : Int32) Hc n0 (Nat.le_trans Z0 Kc0.1) zc0 zc4 zc1 zc5 hiq0 hiq1 (by rw [hc187_30]; exact hdp) rfl) hZ (own_w hw 117 rfl) (own_w hw 3 rfl) (by decide) (by decide)) q32a q32c (g := (mkF m 225 #[.val (.int p1), .val (.int p2), .val (.int p3), .val (.int p4), .val (.int p5), .val (.int p6), .val (.int y1), .val (.int rr), .val (.int y3), .val (.int y4), .val (.int y5), .val (.int y6), .val (.ref b7), .val (.int nr), .val (.ref b9), .val (.int (1 : Int32)), .val (.int (0 : Int32)), .val (.int (0 : Int32)), .val (.int (0 : Int32))] [(.int y4), (.ref b7)])) rfl (by rw [hml]; rfl) (Steps.refl _) (argsL := [(.int y4)]) (rest := []) (lenOf pd_11 rfl) rfl (by show 2 * 0 + _ ≤ _; exact Nat.le_of_eq rfl) (hb hby at_225) (fun _ _ => ⟨rfl, ec, hcc_, hsc_⟩)
    dsimp only [Pt.U, Pt.locs, Pt.cells, Pt.slots] at X32 l32 y32 z32 st32 hQ32
    subst l32 y32 z32
    obtain ⟨rfl, N32q, eh32⟩ := hQ32
    have N32 := Fr.app Nc N32q
    refine own_via st32 ?_
    refine own_go (A := T32.setTop (mkF m 237 #[.val (.int p1), .val (.int p2), .val (.int p3), .val (.int p4), .val (.int p5), .val (.int p6), .val (.int y1), .val (.int rr), .val (.int y3), .val (.int y4), .val (.int y5), .val (.int y6), .val (.ref b7), .val (.int nr), .val (.ref b9), .val (.int (1 : Int32)), .val (.int (0 : Int32)), .val (.int (0 : Int32)), .val (.int (0 : Int32))] [(.int y3), (.ref b7)])) (fun t_ k_ => ?_) ?_
    · show Steps p.tables e below (T32.setTop (mkF m 228 #[.val (.int p1), .val (.int p2), .val (.int p3), .val (.int p4), .val (.int p5), .val (.int p6), .val (.int y1), .val (.int rr), .val (.int y3), .val (.int y4), .val (.int y5), .val (.int y6), .val (.ref b7), .val (.int nr), .val (.ref b9), .val (.int (1 : Int32)), .val (.int (0 : Int32)), .val (.int (0 : Int32)), .val (.int (0 : Int32))] [(.int (0 : Int32))])) t_
      refine XS.iload X32.here hx rfl (hb hby at_228) rfl ?_
      refine XS.icmpNo X32.here hx rfl (hb hby at_230) rfl (teq (by decide : (0 : Int32) = (0 : Int32))).2 ?_
      refine XS.aload X32.here hx rfl (hb hby at_233) rfl rfl ?_
      refine XS.iload X32.here hx rfl (hb hby at_235) rfl ?_
      exact k_
    obtain ⟨cq34, kq34, q34a, q34b, q34c⟩ := isOf hZ eh32 zc0
    obtain ⟨_, _, ⟨T34, L34, k34, n34⟩, -, X34, ⟨Lc34, hQ34, l34, y34, z34⟩, st34⟩ := X32.virtualBack hx (y := own_y16) (z := own_y16) hown (mvT hZ (own_w hw 113 rfl)) (mvT hZ (own_w hw 114 rfl)) (notFace_of_selects (args := #[]) (mvT hZ (own_w hw 116 rfl))) (mvT hZ (own_w hw 116 rfl)) (mvT hZ (own_w hw 115 rfl)) (by decide) (backOf (W := 0) (rmRuns0 l Z a0 hw [] b7 y3 rr wk_8 kw_8 nr vr_19 (-1 : Int32) Hc n0 (Nat.le_trans Z0 Kc0.1) zc0 zc4 zc1 zc5 hip0 hip1 hdp rfl) hZ (own_w hw 117 rfl) (own_w hw 3 rfl) (by decide) (by decide)) q34a q34c (g := (mkF m 237 #[.val (.int p1), .val (.int p2), .val (.int p3), .val (.int p4), .val (.int p5), .val (.int p6), .val (.int y1), .val (.int rr), .val (.int y3), .val (.int y4), .val (.int y5), .val (.int y6), .val (.ref b7), .val (.int nr), .val (.ref b9), .val (.int (1 : Int32)), .val (.int (0 : Int32)), .val (.int (0 : Int32)), .val (.int (0 : Int32))] [(.int y3), (.ref b7)])) rfl (by rw [hml]; rfl) (Steps.refl _) (argsL := [(.int y3)]) (rest := []) (lenOf pd_11 rfl) rfl (by show 2 * 0 + _ ≤ _; exact Nat.le_of_eq rfl) (hb hby at_237) (fun _ _ => ⟨rfl, eh32, hcc_, hsc_⟩)
    dsimp only [Pt.U, Pt.locs, Pt.cells, Pt.slots] at X34 l34 y34 z34 st34 hQ34
    subst l34 y34 z34
    obtain ⟨rfl, N34q, eh34⟩ := hQ34
    have N34 := Fr.app N32 N34q
    refine own_via st34 ?_
    refine own_go (A := T34.setTop (mkF m 250 #[.val (.int p1), .val (.int p2), .val (.int p3), .val (.int p4), .val (.int p5), .val (.int p6), .val (.int y1), .val (.int rr), .val (.int y3), .val (.int y4), .val (.int y5), .val (.int y6), .val (.ref b7), .val (.int nr), .val (.ref b9), .val (.int (1 : Int32)), .val (.int (0 : Int32)), .val (.int (0 : Int32)), .val (.int (0 : Int32))] [(.int (1 : Int32))])) (fun t_ k_ => ?_) ?_
    · show Steps p.tables e below (T34.setTop (mkF m 240 #[.val (.int p1), .val (.int p2), .val (.int p3), .val (.int p4), .val (.int p5), .val (.int p6), .val (.int y1), .val (.int rr), .val (.int y3), .val (.int y4), .val (.int y5), .val (.int y6), .val (.ref b7), .val (.int nr), .val (.ref b9), .val (.int (1 : Int32)), .val (.int (0 : Int32)), .val (.int (0 : Int32)), .val (.int (0 : Int32))] [(.int (0 : Int32))])) t_
      refine XS.iload X34.here hx rfl (hb hby at_240) rfl ?_
      refine XS.icmpNo X34.here hx rfl (hb hby at_242) rfl (teq (by decide : (0 : Int32) = (0 : Int32))).2 ?_
      refine XS.iconst X34.here hx rfl (hb hby at_245) ?_
      refine XS.goto X34.here hx rfl (pc0 := 246) (pc' := 250) rfl (hb hby at_246) (by decide) (by decide) ?_
      exact k_
    obtain ⟨fs35, hr35, hrun35, hended35, hW35, hsame35⟩ := X34.leave (v := some (.int (1 : Int32))) (fun h => by rw [hret] at h; cases h)
    refine ⟨_, _, ?_, hrun35, hended35, _, _, rfl, ?_, ⟨_, rfl⟩, hW35, hsame35.mono hcc_ hsc_⟩
    · exact retN X34 hx (t := .boolean) hret (by simp) (hb hby at_250) hr35
    · show Q_rm0 Z p1 p2 p3 p4 p5 p6 dc kd ca bxc el h0 n0 _ T34.heap _
      rw [eh34]
      exact ⟨rfl, N34, Kc0⟩
  · refine own_go (A := Tc.setTop (mkF m 225 #[.val (.int p1), .val (.int p2), .val (.int p3), .val (.int p4), .val (.int p5), .val (.int p6), .val (.int y1), .val (.int rr), .val (.int y3), .val (.int y4), .val (.int y5), .val (.int y6), .val (.ref b7), .val (.int nr), .val (.ref b9), .val (.int (1 : Int32)), .val (.int (0 : Int32)), .val (.int (1 : Int32)), .val (.int (0 : Int32))] [(.int y4), (.ref b7)])) (fun t_ k_ => ?_) ?_
    · show Steps p.tables e below (Tc.setTop (mkF m 187 #[.val (.int p1), .val (.int p2), .val (.int p3), .val (.int p4), .val (.int p5), .val (.int p6), .val (.int y1), .val (.int rr), .val (.int y3), .val (.int y4), .val (.int y5), .val (.int y6), .val (.ref b7), .val (.int nr), .val (.ref b9), .val (.int (1 : Int32)), .val (.int (0 : Int32)), .unset, .unset] [(.int y3), (.int y4)])) t_
      refine XS.icmpNo Xc.here hx rfl (hb hby at_187) rfl (feq hc187_30).1 ?_
      refine XS.iload Xc.here hx rfl (hb hby at_190) rfl ?_
      refine XS.ifYes Xc.here hx rfl (pc0 := 192) (pc' := 202) rfl (hb hby at_192) rfl ((if0 _ _).trans (teq (by decide : (0 : Int32) = (0 : Int32))).1) (by decide) (by decide) ?_
      refine XS.iconst Xc.here hx rfl (hb hby at_202) ?_
      show Steps p.tables e below (Tc.setTop (mkF m 203 #[.val (.int p1), .val (.int p2), .val (.int p3), .val (.int p4), .val (.int p5), .val (.int p6), .val (.int y1), .val (.int rr), .val (.int y3), .val (.int y4), .val (.int y5), .val (.int y6), .val (.ref b7), .val (.int nr), .val (.ref b9), .val (.int (1 : Int32)), .val (.int (0 : Int32)), .unset, .unset] [(.int (1 : Int32))])) t_
      refine XS.goto Xc.here hx rfl (pc0 := 203) (pc' := 207) rfl (hb hby at_203) (by decide) (by decide) ?_
      refine XS.istore Xc.here hx rfl (hb hby at_207) rfl (l' := #[.val (.int p1), .val (.int p2), .val (.int p3), .val (.int p4), .val (.int p5), .val (.int p6), .val (.int y1), .val (.int rr), .val (.int y3), .val (.int y4), .val (.int y5), .val (.int y6), .val (.ref b7), .val (.int nr), .val (.ref b9), .val (.int (1 : Int32)), .val (.int (0 : Int32)), .val (.int (1 : Int32)), .unset]) rfl ?_
      refine XS.iload Xc.here hx rfl (hb hby at_209) rfl ?_
      refine XS.ifYes Xc.here hx rfl (pc0 := 211) (pc' := 218) rfl (hb hby at_211) rfl ((if0 _ _).trans (feq (by decide : ¬ ((1 : Int32) = (0 : Int32)))).2) (by decide) (by decide) ?_
      show Steps p.tables e below (Tc.setTop (mkF m 218 #[.val (.int p1), .val (.int p2), .val (.int p3), .val (.int p4), .val (.int p5), .val (.int p6), .val (.int y1), .val (.int rr), .val (.int y3), .val (.int y4), .val (.int y5), .val (.int y6), .val (.ref b7), .val (.int nr), .val (.ref b9), .val (.int (1 : Int32)), .val (.int (0 : Int32)), .val (.int (1 : Int32)), .unset] [])) t_
      refine XS.iconst Xc.here hx rfl (hb hby at_218) ?_
      refine XS.istore Xc.here hx rfl (hb hby at_219) rfl (l' := #[.val (.int p1), .val (.int p2), .val (.int p3), .val (.int p4), .val (.int p5), .val (.int p6), .val (.int y1), .val (.int rr), .val (.int y3), .val (.int y4), .val (.int y5), .val (.int y6), .val (.ref b7), .val (.int nr), .val (.ref b9), .val (.int (1 : Int32)), .val (.int (0 : Int32)), .val (.int (1 : Int32)), .val (.int (0 : Int32))]) rfl ?_
      refine XS.aload Xc.here hx rfl (hb hby at_221) rfl rfl ?_
      refine XS.iload Xc.here hx rfl (hb hby at_223) rfl ?_
      exact k_
    obtain ⟨w36, hwx36, hwy36⟩ := (haq hc187_30)
    obtain ⟨cq37, kq37, q37a, q37b, q37c⟩ := isOf hZ ec zc0
    obtain ⟨_, _, ⟨T37, L37, k37, n37⟩, -, X37, ⟨Lc37, hQ37, l37, y37, z37⟩, st37⟩ := Xc.virtualBack hx (y := own_y16) (z := own_y16) hown (mvT hZ (own_w hw 113 rfl)) (mvT hZ (own_w hw 114 rfl)) (notFace_of_selects (args := #[]) (mvT hZ (own_w hw 116 rfl))) (mvT hZ (own_w hw 116 rfl)) (mvT hZ (own_w hw 115 rfl)) (by decide) (backOf (W := 0) (rmRuns1 l Z a0 hw [] b7 y4 rr wk_8 kw_8 nr vr_19 w36 Hc n0 (Nat.le_trans Z0 Kc0.1) zc0 zc4 zc1 zc5 hiq0 hiq1 hwx36 hwy36) hZ (own_w hw 117 rfl) (own_w hw 3 rfl) (by decide) (by decide)) q37a q37c (g := (mkF m 225 #[.val (.int p1), .val (.int p2), .val (.int p3), .val (.int p4), .val (.int p5), .val (.int p6), .val (.int y1), .val (.int rr), .val (.int y3), .val (.int y4), .val (.int y5), .val (.int y6), .val (.ref b7), .val (.int nr), .val (.ref b9), .val (.int (1 : Int32)), .val (.int (0 : Int32)), .val (.int (1 : Int32)), .val (.int (0 : Int32))] [(.int y4), (.ref b7)])) rfl (by rw [hml]; rfl) (Steps.refl _) (argsL := [(.int y4)]) (rest := []) (lenOf pd_11 rfl) rfl (by show 2 * 0 + _ ≤ _; exact Nat.le_of_eq rfl) (hb hby at_225) (fun _ _ => ⟨rfl, ec, hcc_, hsc_⟩)
    dsimp only [Pt.U, Pt.locs, Pt.cells, Pt.slots] at X37 l37 y37 z37 st37 hQ37
    subst l37 y37 z37
    obtain ⟨rfl, N37q, eh37⟩ := hQ37
    have N37 := Fr.app Nc N37q
    refine own_via st37 ?_
    refine own_go (A := T37.setTop (mkF m 237 #[.val (.int p1), .val (.int p2), .val (.int p3), .val (.int p4), .val (.int p5), .val (.int p6), .val (.int y1), .val (.int rr), .val (.int y3), .val (.int y4), .val (.int y5), .val (.int y6), .val (.ref b7), .val (.int nr), .val (.ref b9), .val (.int (1 : Int32)), .val (.int (0 : Int32)), .val (.int (1 : Int32)), .val (.int (0 : Int32))] [(.int y3), (.ref b7)])) (fun t_ k_ => ?_) ?_
    · show Steps p.tables e below (T37.setTop (mkF m 228 #[.val (.int p1), .val (.int p2), .val (.int p3), .val (.int p4), .val (.int p5), .val (.int p6), .val (.int y1), .val (.int rr), .val (.int y3), .val (.int y4), .val (.int y5), .val (.int y6), .val (.ref b7), .val (.int nr), .val (.ref b9), .val (.int (1 : Int32)), .val (.int (0 : Int32)), .val (.int (1 : Int32)), .val (.int (0 : Int32))] [(.int (1 : Int32))])) t_
      refine XS.iload X37.here hx rfl (hb hby at_228) rfl ?_
      refine XS.icmpNo X37.here hx rfl (hb hby at_230) rfl (teq (by decide : (1 : Int32) = (1 : Int32))).2 ?_
      refine XS.aload X37.here hx rfl (hb hby at_233) rfl rfl ?_
      refine XS.iload X37.here hx rfl (hb hby at_235) rfl ?_
      exact k_
    obtain ⟨cq39, kq39, q39a, q39b, q39c⟩ := isOf hZ eh37 zc0
    obtain ⟨_, _, ⟨T39, L39, k39, n39⟩, -, X39, ⟨Lc39, hQ39, l39, y39, z39⟩, st39⟩ := X37.virtualBack hx (y := own_y16) (z := own_y16) hown (mvT hZ (own_w hw 113 rfl)) (mvT hZ (own_w hw 114 rfl)) (notFace_of_selects (args := #[]) (mvT hZ (own_w hw 116 rfl))) (mvT hZ (own_w hw 116 rfl)) (mvT hZ (own_w hw 115 rfl)) (by decide) (backOf (W := 0) (rmRuns0 l Z a0 hw [] b7 y3 rr wk_8 kw_8 nr vr_19 (-1 : Int32) Hc n0 (Nat.le_trans Z0 Kc0.1) zc0 zc4 zc1 zc5 hip0 hip1 hdp rfl) hZ (own_w hw 117 rfl) (own_w hw 3 rfl) (by decide) (by decide)) q39a q39c (g := (mkF m 237 #[.val (.int p1), .val (.int p2), .val (.int p3), .val (.int p4), .val (.int p5), .val (.int p6), .val (.int y1), .val (.int rr), .val (.int y3), .val (.int y4), .val (.int y5), .val (.int y6), .val (.ref b7), .val (.int nr), .val (.ref b9), .val (.int (1 : Int32)), .val (.int (0 : Int32)), .val (.int (1 : Int32)), .val (.int (0 : Int32))] [(.int y3), (.ref b7)])) rfl (by rw [hml]; rfl) (Steps.refl _) (argsL := [(.int y3)]) (rest := []) (lenOf pd_11 rfl) rfl (by show 2 * 0 + _ ≤ _; exact Nat.le_of_eq rfl) (hb hby at_237) (fun _ _ => ⟨rfl, eh37, hcc_, hsc_⟩)
    dsimp only [Pt.U, Pt.locs, Pt.cells, Pt.slots] at X39 l39 y39 z39 st39 hQ39
    subst l39 y39 z39
    obtain ⟨rfl, N39q, eh39⟩ := hQ39
    have N39 := Fr.app N37 N39q
    refine own_via st39 ?_
    refine own_go (A := T39.setTop (mkF m 250 #[.val (.int p1), .val (.int p2), .val (.int p3), .val (.int p4), .val (.int p5), .val (.int p6), .val (.int y1), .val (.int rr), .val (.int y3), .val (.int y4), .val (.int y5), .val (.int y6), .val (.ref b7), .val (.int nr), .val (.ref b9), .val (.int (1 : Int32)), .val (.int (0 : Int32)), .val (.int (1 : Int32)), .val (.int (0 : Int32))] [(.int (1 : Int32))])) (fun t_ k_ => ?_) ?_
    · show Steps p.tables e below (T39.setTop (mkF m 240 #[.val (.int p1), .val (.int p2), .val (.int p3), .val (.int p4), .val (.int p5), .val (.int p6), .val (.int y1), .val (.int rr), .val (.int y3), .val (.int y4), .val (.int y5), .val (.int y6), .val (.ref b7), .val (.int nr), .val (.ref b9), .val (.int (1 : Int32)), .val (.int (0 : Int32)), .val (.int (1 : Int32)), .val (.int (0 : Int32))] [(.int (0 : Int32))])) t_
      refine XS.iload X39.here hx rfl (hb hby at_240) rfl ?_
      refine XS.icmpNo X39.here hx rfl (hb hby at_242) rfl (teq (by decide : (0 : Int32) = (0 : Int32))).2 ?_
      refine XS.iconst X39.here hx rfl (hb hby at_245) ?_
      refine XS.goto X39.here hx rfl (pc0 := 246) (pc' := 250) rfl (hb hby at_246) (by decide) (by decide) ?_
      exact k_
    obtain ⟨fs40, hr40, hrun40, hended40, hW40, hsame40⟩ := X39.leave (v := some (.int (1 : Int32))) (fun h => by rw [hret] at h; cases h)
    refine ⟨_, _, ?_, hrun40, hended40, _, _, rfl, ?_, ⟨_, rfl⟩, hW40, hsame40.mono hcc_ hsc_⟩
    · exact retN X39 hx (t := .boolean) hret (by simp) (hb hby at_250) hr40
    · show Q_rm0 Z p1 p2 p3 p4 p5 p6 dc kd ca bxc el h0 n0 _ T39.heap _
      rw [eh39]
      exact ⟨rfl, N39, Kc0⟩
set_option maxRecDepth 65536 in
set_option maxHeartbeats 40000000 in
theorem own_s11 (l : Launch) (Z : State) (a0 : Array Value) (hw : ∀ d ∈ tables_1, d.before a0 Z = true) (p1 : Int32) (p2 : Int32) (p3 : Int32) (p4 : Int32) (p5 : Int32) (p6 : Int32) (dc : Addr) (kd : ClassId) (ca : Addr) (bxc : Cell) (el : Addr) (y1 : Int32) (rr : Int32) (y3 : Int32) (y4 : Int32) (y5 : Int32) (y6 : Int32) (b7 : Addr) (nr : Int32) (b9 : Addr) (wk_8 : Addr) (sl_8 : Addr) (al_8 : Addr) (kw_8 : ClassId) (vr_41 : List Value) (h0 : Heap) (n0 : Nat) (Z0 : n0 ≤ h0.size) {p : Program} {e : Env} {s : State} {m : MethodId} {below : List Frame} {meth : Method} {c : Code} {Tc : State} {Hc : Heap} {locsc : List Loc} {cc_ sc_ : Nat} (Xc : Stand p l e room_1 s m #[(.int p1), (.int p2), (.int p3), (.int p4), (.int p5), (.int p6)] below meth c Tc locsc cc_ sc_) (hx : p.tables.exec = Jvm.exec) (hZ : Z.Warmed39 s.vm) (hby : c.code = code) (hml : c.maxLocals = 19) (hown : s.vm.findClass "com/example/kneiphof/kneiphof/AssignmentRunsPinLaw" = some m.cls) (hret : meth.sig.returnType = some .boolean) (hlk : meth.locks = false) (hh : s.heap = h0) (ec : Tc.heap = Hc) (Nc : Fr n0 locsc) (Kc0 : Keep h0 Hc []) (Oc : Old Z n0 Hc) (hcc_ : cc_ ≤ room_1.cells) (hsc_ : sc_ ≤ room_1.slots) (zc0 : Exa Z Hc b7 "com/example/kneiphof/kneiphof/Assignment") (zc1 : Fld Z Hc b7 "com/example/kneiphof/kneiphof/Assignment" "workers" "[I" (.ref wk_8)) (zc2 : Fld Z Hc b7 "com/example/kneiphof/kneiphof/Assignment" "slots" "[I" (.ref sl_8)) (zc3 : Fld Z Hc b7 "com/example/kneiphof/kneiphof/Assignment" "spares" "Ljava/util/List;" (.ref al_8)) (zc4 : Fld Z Hc b7 "com/example/kneiphof/kneiphof/Assignment" "replicas" "I" (.int rr)) (zc5 : Arv Z Hc wk_8 kw_8 .int nr vr_41 (.int (0 : Int32))) (gc6 : n0 ≤ b7) (gc7 : h0.size ≤ b7) (gc8 : n0 ≤ wk_8) (gc9 : h0.size ≤ wk_8) (nc10 : b7 ≠ wk_8) (hbx : Bxs Z ca bxc "java/lang/Integer" "I" (256 : Int32) own_bval) (hiq0 : ¬ (((y4 * rr) + (0 : Int32)) < 0)) (hiq1 : ((y4 * rr) + (0 : Int32)) < nr) (hip0 : ¬ (((y3 * rr) + (0 : Int32)) < 0)) (hip1 : ((y3 * rr) + (0 : Int32)) < nr) (hdp : vr_41.getD (((y3 * rr) + (0 : Int32))).toNatClampNeg (.int (0 : Int32)) = .int (-1 : Int32)) (hdp2 : vr_41.getD (((y5 * rr) + (0 : Int32))).toNatClampNeg (.int (0 : Int32)) = .int (-1 : Int32)) (haq : ¬ (y4 = y3) → ¬ (y4 = y5) → own_al vr_41 (((y4 * rr) + (0 : Int32))).toNatClampNeg) :
    ∃ U_ o_, Steps p.tables e below (Tc.setTop (mkF m 178 #[.val (.int p1), .val (.int p2), .val (.int p3), .val (.int p4), .val (.int p5), .val (.int p6), .val (.int y1), .val (.int rr), .val (.int y3), .val (.int y4), .val (.int y5), .val (.int y6), .val (.ref b7), .val (.int nr), .val (.ref b9), .val (.int (1 : Int32)), .val (.int (1 : Int32)), .unset, .unset] [])) U_ ∧ U_.status = .running ∧ Ended U_ below o_ ∧ (∃ v_ L_, o_ = .returned v_ ∧ Q_rm0 Z p1 p2 p3 p4 p5 p6 dc kd ca bxc el h0 n0 v_ U_.heap L_ ∧ FrameEnd s o_ U_ L_ room_1.cells room_1.slots) := by
  refine own_go (A := Tc.setTop (mkF m 187 #[.val (.int p1), .val (.int p2), .val (.int p3), .val (.int p4), .val (.int p5), .val (.int p6), .val (.int y1), .val (.int rr), .val (.int y3), .val (.int y4), .val (.int y5), .val (.int y6), .val (.ref b7), .val (.int nr), .val (.ref b9), .val (.int (1 : Int32)), .val (.int (1 : Int32)), .unset, .unset] [(.int y3), (.int y4)])) (fun t_ k_ => ?_) ?_
  · show Steps p.tables e below (Tc.setTop (mkF m 178 #[.val (.int p1), .val (.int p2), .val (.int p3), .val (.int p4), .val (.int p5), .val (.int p6), .val (.int y1), .val (.int rr), .val (.int y3), .val (.int y4), .val (.int y5), .val (.int y6), .val (.ref b7), .val (.int nr), .val (.ref b9), .val (.int (1 : Int32)), .val (.int (1 : Int32)), .unset, .unset] [])) t_
    refine XS.iload Xc.here hx rfl (hb hby at_178) rfl ?_
    refine XS.ifNo Xc.here hx rfl (hb hby at_180) rfl ((if0 _ _).trans (feq (by decide : ¬ ((1 : Int32) = (0 : Int32)))).1) ?_
    refine XS.iload Xc.here hx rfl (hb hby at_183) rfl ?_
    refine XS.iload Xc.here hx rfl (hb hby at_185) rfl ?_
    exact k_
  by_cases hc187_42 : y4 = y3
  · refine own_go (A := Tc.setTop (mkF m 225 #[.val (.int p1), .val (.int p2), .val (.int p3), .val (.int p4), .val (.int p5), .val (.int p6), .val (.int y1), .val (.int rr), .val (.int y3), .val (.int y4), .val (.int y5), .val (.int y6), .val (.ref b7), .val (.int nr), .val (.ref b9), .val (.int (1 : Int32)), .val (.int (1 : Int32)), .val (.int (0 : Int32)), .val (.int (0 : Int32))] [(.int y4), (.ref b7)])) (fun t_ k_ => ?_) ?_
    · show Steps p.tables e below (Tc.setTop (mkF m 187 #[.val (.int p1), .val (.int p2), .val (.int p3), .val (.int p4), .val (.int p5), .val (.int p6), .val (.int y1), .val (.int rr), .val (.int y3), .val (.int y4), .val (.int y5), .val (.int y6), .val (.ref b7), .val (.int nr), .val (.ref b9), .val (.int (1 : Int32)), .val (.int (1 : Int32)), .unset, .unset] [(.int y3), (.int y4)])) t_
      refine XS.icmpYes Xc.here hx rfl (pc0 := 187) (pc' := 206) rfl (hb hby at_187) rfl (teq hc187_42).1 (by decide) (by decide) ?_
      refine XS.iconst Xc.here hx rfl (hb hby at_206) ?_
      refine XS.istore Xc.here hx rfl (hb hby at_207) rfl (l' := #[.val (.int p1), .val (.int p2), .val (.int p3), .val (.int p4), .val (.int p5), .val (.int p6), .val (.int y1), .val (.int rr), .val (.int y3), .val (.int y4), .val (.int y5), .val (.int y6), .val (.ref b7), .val (.int nr), .val (.ref b9), .val (.int (1 : Int32)), .val (.int (1 : Int32)), .val (.int (0 : Int32)), .unset]) rfl ?_
      refine XS.iload Xc.here hx rfl (hb hby at_209) rfl ?_
      show Steps p.tables e below (Tc.setTop (mkF m 211 #[.val (.int p1), .val (.int p2), .val (.int p3), .val (.int p4), .val (.int p5), .val (.int p6), .val (.int y1), .val (.int rr), .val (.int y3), .val (.int y4), .val (.int y5), .val (.int y6), .val (.ref b7), .val (.int nr), .val (.ref b9), .val (.int (1 : Int32)), .val (.int (1 : Int32)), .val (.int (0 : Int32)), .unset] [(.int (1 : Int32))])) t_
      refine XS.ifYes Xc.here hx rfl (pc0 := 211) (pc' := 218) rfl (hb hby at_211) rfl ((if0 _ _).trans (feq (by decide : ¬ ((1 : Int32) = (0 : Int32)))).2) (by decide) (by decide) ?_
      refine XS.iconst Xc.here hx rfl (hb hby at_218) ?_
      refine XS.istore Xc.here hx rfl (hb hby at_219) rfl (l' := #[.val (.int p1), .val (.int p2), .val (.int p3), .val (.int p4), .val (.int p5), .val (.int p6), .val (.int y1), .val (.int rr), .val (.int y3), .val (.int y4), .val (.int y5), .val (.int y6), .val (.ref b7), .val (.int nr), .val (.ref b9), .val (.int (1 : Int32)), .val (.int (1 : Int32)), .val (.int (0 : Int32)), .val (.int (0 : Int32))]) rfl ?_
      refine XS.aload Xc.here hx rfl (hb hby at_221) rfl rfl ?_
      show Steps p.tables e below (Tc.setTop (mkF m 223 #[.val (.int p1), .val (.int p2), .val (.int p3), .val (.int p4), .val (.int p5), .val (.int p6), .val (.int y1), .val (.int rr), .val (.int y3), .val (.int y4), .val (.int y5), .val (.int y6), .val (.ref b7), .val (.int nr), .val (.ref b9), .val (.int (1 : Int32)), .val (.int (1 : Int32)), .val (.int (0 : Int32)), .val (.int (0 : Int32))] [(.ref b7)])) t_
      refine XS.iload Xc.here hx rfl (hb hby at_223) rfl ?_
      exact k_
    obtain ⟨cq44, kq44, q44a, q44b, q44c⟩ := isOf hZ ec zc0
    obtain ⟨_, _, ⟨T44, L44, k44, n44⟩, -, X44, ⟨Lc44, hQ44, l44, y44, z44⟩, st44⟩ := Xc.virtualBack hx (y := own_y16) (z := own_y16) hown (mvT hZ (own_w hw 113 rfl)) (mvT hZ (own_w hw 114 rfl)) (notFace_of_selects (args := #[]) (mvT hZ (own_w hw 116 rfl))) (mvT hZ (own_w hw 116 rfl)) (mvT hZ (own_w hw 115 rfl)) (by decide) (backOf (W := 0) (rmRuns0 l Z a0 hw [] b7 y4 rr wk_8 kw_8 nr vr_41 (-1 : Int32) Hc n0 (Nat.le_trans Z0 Kc0.1) zc0 zc4 zc1 zc5 hiq0 hiq1 (by rw [hc187_42]; exact hdp) rfl) hZ (own_w hw 117 rfl) (own_w hw 3 rfl) (by decide) (by decide)) q44a q44c (g := (mkF m 225 #[.val (.int p1), .val (.int p2), .val (.int p3), .val (.int p4), .val (.int p5), .val (.int p6), .val (.int y1), .val (.int rr), .val (.int y3), .val (.int y4), .val (.int y5), .val (.int y6), .val (.ref b7), .val (.int nr), .val (.ref b9), .val (.int (1 : Int32)), .val (.int (1 : Int32)), .val (.int (0 : Int32)), .val (.int (0 : Int32))] [(.int y4), (.ref b7)])) rfl (by rw [hml]; rfl) (Steps.refl _) (argsL := [(.int y4)]) (rest := []) (lenOf pd_11 rfl) rfl (by show 2 * 0 + _ ≤ _; exact Nat.le_of_eq rfl) (hb hby at_225) (fun _ _ => ⟨rfl, ec, hcc_, hsc_⟩)
    dsimp only [Pt.U, Pt.locs, Pt.cells, Pt.slots] at X44 l44 y44 z44 st44 hQ44
    subst l44 y44 z44
    obtain ⟨rfl, N44q, eh44⟩ := hQ44
    have N44 := Fr.app Nc N44q
    refine own_via st44 ?_
    refine own_go (A := T44.setTop (mkF m 237 #[.val (.int p1), .val (.int p2), .val (.int p3), .val (.int p4), .val (.int p5), .val (.int p6), .val (.int y1), .val (.int rr), .val (.int y3), .val (.int y4), .val (.int y5), .val (.int y6), .val (.ref b7), .val (.int nr), .val (.ref b9), .val (.int (1 : Int32)), .val (.int (1 : Int32)), .val (.int (0 : Int32)), .val (.int (0 : Int32))] [(.int y3), (.ref b7)])) (fun t_ k_ => ?_) ?_
    · show Steps p.tables e below (T44.setTop (mkF m 228 #[.val (.int p1), .val (.int p2), .val (.int p3), .val (.int p4), .val (.int p5), .val (.int p6), .val (.int y1), .val (.int rr), .val (.int y3), .val (.int y4), .val (.int y5), .val (.int y6), .val (.ref b7), .val (.int nr), .val (.ref b9), .val (.int (1 : Int32)), .val (.int (1 : Int32)), .val (.int (0 : Int32)), .val (.int (0 : Int32))] [(.int (0 : Int32))])) t_
      refine XS.iload X44.here hx rfl (hb hby at_228) rfl ?_
      refine XS.icmpNo X44.here hx rfl (hb hby at_230) rfl (teq (by decide : (0 : Int32) = (0 : Int32))).2 ?_
      refine XS.aload X44.here hx rfl (hb hby at_233) rfl rfl ?_
      refine XS.iload X44.here hx rfl (hb hby at_235) rfl ?_
      exact k_
    obtain ⟨cq46, kq46, q46a, q46b, q46c⟩ := isOf hZ eh44 zc0
    obtain ⟨_, _, ⟨T46, L46, k46, n46⟩, -, X46, ⟨Lc46, hQ46, l46, y46, z46⟩, st46⟩ := X44.virtualBack hx (y := own_y16) (z := own_y16) hown (mvT hZ (own_w hw 113 rfl)) (mvT hZ (own_w hw 114 rfl)) (notFace_of_selects (args := #[]) (mvT hZ (own_w hw 116 rfl))) (mvT hZ (own_w hw 116 rfl)) (mvT hZ (own_w hw 115 rfl)) (by decide) (backOf (W := 0) (rmRuns0 l Z a0 hw [] b7 y3 rr wk_8 kw_8 nr vr_41 (-1 : Int32) Hc n0 (Nat.le_trans Z0 Kc0.1) zc0 zc4 zc1 zc5 hip0 hip1 hdp rfl) hZ (own_w hw 117 rfl) (own_w hw 3 rfl) (by decide) (by decide)) q46a q46c (g := (mkF m 237 #[.val (.int p1), .val (.int p2), .val (.int p3), .val (.int p4), .val (.int p5), .val (.int p6), .val (.int y1), .val (.int rr), .val (.int y3), .val (.int y4), .val (.int y5), .val (.int y6), .val (.ref b7), .val (.int nr), .val (.ref b9), .val (.int (1 : Int32)), .val (.int (1 : Int32)), .val (.int (0 : Int32)), .val (.int (0 : Int32))] [(.int y3), (.ref b7)])) rfl (by rw [hml]; rfl) (Steps.refl _) (argsL := [(.int y3)]) (rest := []) (lenOf pd_11 rfl) rfl (by show 2 * 0 + _ ≤ _; exact Nat.le_of_eq rfl) (hb hby at_237) (fun _ _ => ⟨rfl, eh44, hcc_, hsc_⟩)
    dsimp only [Pt.U, Pt.locs, Pt.cells, Pt.slots] at X46 l46 y46 z46 st46 hQ46
    subst l46 y46 z46
    obtain ⟨rfl, N46q, eh46⟩ := hQ46
    have N46 := Fr.app N44 N46q
    refine own_via st46 ?_
    refine own_go (A := T46.setTop (mkF m 250 #[.val (.int p1), .val (.int p2), .val (.int p3), .val (.int p4), .val (.int p5), .val (.int p6), .val (.int y1), .val (.int rr), .val (.int y3), .val (.int y4), .val (.int y5), .val (.int y6), .val (.ref b7), .val (.int nr), .val (.ref b9), .val (.int (1 : Int32)), .val (.int (1 : Int32)), .val (.int (0 : Int32)), .val (.int (0 : Int32))] [(.int (1 : Int32))])) (fun t_ k_ => ?_) ?_
    · show Steps p.tables e below (T46.setTop (mkF m 240 #[.val (.int p1), .val (.int p2), .val (.int p3), .val (.int p4), .val (.int p5), .val (.int p6), .val (.int y1), .val (.int rr), .val (.int y3), .val (.int y4), .val (.int y5), .val (.int y6), .val (.ref b7), .val (.int nr), .val (.ref b9), .val (.int (1 : Int32)), .val (.int (1 : Int32)), .val (.int (0 : Int32)), .val (.int (0 : Int32))] [(.int (0 : Int32))])) t_
      refine XS.iload X46.here hx rfl (hb hby at_240) rfl ?_
      refine XS.icmpNo X46.here hx rfl (hb hby at_242) rfl (teq (by decide : (0 : Int32) = (0 : Int32))).2 ?_
      refine XS.iconst X46.here hx rfl (hb hby at_245) ?_
      refine XS.goto X46.here hx rfl (pc0 := 246) (pc' := 250) rfl (hb hby at_246) (by decide) (by decide) ?_
      exact k_
    obtain ⟨fs47, hr47, hrun47, hended47, hW47, hsame47⟩ := X46.leave (v := some (.int (1 : Int32))) (fun h => by rw [hret] at h; cases h)
    refine ⟨_, _, ?_, hrun47, hended47, _, _, rfl, ?_, ⟨_, rfl⟩, hW47, hsame47.mono hcc_ hsc_⟩
    · exact retN X46 hx (t := .boolean) hret (by simp) (hb hby at_250) hr47
    · show Q_rm0 Z p1 p2 p3 p4 p5 p6 dc kd ca bxc el h0 n0 _ T46.heap _
      rw [eh46]
      exact ⟨rfl, N46, Kc0⟩
  · refine own_go (A := Tc.setTop (mkF m 199 #[.val (.int p1), .val (.int p2), .val (.int p3), .val (.int p4), .val (.int p5), .val (.int p6), .val (.int y1), .val (.int rr), .val (.int y3), .val (.int y4), .val (.int y5), .val (.int y6), .val (.ref b7), .val (.int nr), .val (.ref b9), .val (.int (1 : Int32)), .val (.int (1 : Int32)), .unset, .unset] [(.int y5), (.int y4)])) (fun t_ k_ => ?_) ?_
    · show Steps p.tables e below (Tc.setTop (mkF m 187 #[.val (.int p1), .val (.int p2), .val (.int p3), .val (.int p4), .val (.int p5), .val (.int p6), .val (.int y1), .val (.int rr), .val (.int y3), .val (.int y4), .val (.int y5), .val (.int y6), .val (.ref b7), .val (.int nr), .val (.ref b9), .val (.int (1 : Int32)), .val (.int (1 : Int32)), .unset, .unset] [(.int y3), (.int y4)])) t_
      refine XS.icmpNo Xc.here hx rfl (hb hby at_187) rfl (feq hc187_42).1 ?_
      refine XS.iload Xc.here hx rfl (hb hby at_190) rfl ?_
      refine XS.ifNo Xc.here hx rfl (hb hby at_192) rfl ((if0 _ _).trans (feq (by decide : ¬ ((1 : Int32) = (0 : Int32)))).1) ?_
      refine XS.iload Xc.here hx rfl (hb hby at_195) rfl ?_
      show Steps p.tables e below (Tc.setTop (mkF m 197 #[.val (.int p1), .val (.int p2), .val (.int p3), .val (.int p4), .val (.int p5), .val (.int p6), .val (.int y1), .val (.int rr), .val (.int y3), .val (.int y4), .val (.int y5), .val (.int y6), .val (.ref b7), .val (.int nr), .val (.ref b9), .val (.int (1 : Int32)), .val (.int (1 : Int32)), .unset, .unset] [(.int y4)])) t_
      refine XS.iload Xc.here hx rfl (hb hby at_197) rfl ?_
      exact k_
    by_cases hc199_48 : y4 = y5
    · refine own_go (A := Tc.setTop (mkF m 225 #[.val (.int p1), .val (.int p2), .val (.int p3), .val (.int p4), .val (.int p5), .val (.int p6), .val (.int y1), .val (.int rr), .val (.int y3), .val (.int y4), .val (.int y5), .val (.int y6), .val (.ref b7), .val (.int nr), .val (.ref b9), .val (.int (1 : Int32)), .val (.int (1 : Int32)), .val (.int (0 : Int32)), .val (.int (0 : Int32))] [(.int y4), (.ref b7)])) (fun t_ k_ => ?_) ?_
      · show Steps p.tables e below (Tc.setTop (mkF m 199 #[.val (.int p1), .val (.int p2), .val (.int p3), .val (.int p4), .val (.int p5), .val (.int p6), .val (.int y1), .val (.int rr), .val (.int y3), .val (.int y4), .val (.int y5), .val (.int y6), .val (.ref b7), .val (.int nr), .val (.ref b9), .val (.int (1 : Int32)), .val (.int (1 : Int32)), .unset, .unset] [(.int y5), (.int y4)])) t_
        refine XS.icmpYes Xc.here hx rfl (pc0 := 199) (pc' := 206) rfl (hb hby at_199) rfl (teq hc199_48).1 (by decide) (by decide) ?_
        refine XS.iconst Xc.here hx rfl (hb hby at_206) ?_
        refine XS.istore Xc.here hx rfl (hb hby at_207) rfl (l' := #[.val (.int p1), .val (.int p2), .val (.int p3), .val (.int p4), .val (.int p5), .val (.int p6), .val (.int y1), .val (.int rr), .val (.int y3), .val (.int y4), .val (.int y5), .val (.int y6), .val (.ref b7), .val (.int nr), .val (.ref b9), .val (.int (1 : Int32)), .val (.int (1 : Int32)), .val (.int (0 : Int32)), .unset]) rfl ?_
        refine XS.iload Xc.here hx rfl (hb hby at_209) rfl ?_
        show Steps p.tables e below (Tc.setTop (mkF m 211 #[.val (.int p1), .val (.int p2), .val (.int p3), .val (.int p4), .val (.int p5), .val (.int p6), .val (.int y1), .val (.int rr), .val (.int y3), .val (.int y4), .val (.int y5), .val (.int y6), .val (.ref b7), .val (.int nr), .val (.ref b9), .val (.int (1 : Int32)), .val (.int (1 : Int32)), .val (.int (0 : Int32)), .unset] [(.int (1 : Int32))])) t_
        refine XS.ifYes Xc.here hx rfl (pc0 := 211) (pc' := 218) rfl (hb hby at_211) rfl ((if0 _ _).trans (feq (by decide : ¬ ((1 : Int32) = (0 : Int32)))).2) (by decide) (by decide) ?_
        refine XS.iconst Xc.here hx rfl (hb hby at_218) ?_
        refine XS.istore Xc.here hx rfl (hb hby at_219) rfl (l' := #[.val (.int p1), .val (.int p2), .val (.int p3), .val (.int p4), .val (.int p5), .val (.int p6), .val (.int y1), .val (.int rr), .val (.int y3), .val (.int y4), .val (.int y5), .val (.int y6), .val (.ref b7), .val (.int nr), .val (.ref b9), .val (.int (1 : Int32)), .val (.int (1 : Int32)), .val (.int (0 : Int32)), .val (.int (0 : Int32))]) rfl ?_
        refine XS.aload Xc.here hx rfl (hb hby at_221) rfl rfl ?_
        show Steps p.tables e below (Tc.setTop (mkF m 223 #[.val (.int p1), .val (.int p2), .val (.int p3), .val (.int p4), .val (.int p5), .val (.int p6), .val (.int y1), .val (.int rr), .val (.int y3), .val (.int y4), .val (.int y5), .val (.int y6), .val (.ref b7), .val (.int nr), .val (.ref b9), .val (.int (1 : Int32)), .val (.int (1 : Int32)), .val (.int (0 : Int32)), .val (.int (0 : Int32))] [(.ref b7)])) t_
        refine XS.iload Xc.here hx rfl (hb hby at_223) rfl ?_
        exact k_
      obtain ⟨cq50, kq50, q50a, q50b, q50c⟩ := isOf hZ ec zc0
      obtain ⟨_, _, ⟨T50, L50, k50, n50⟩, -, X50, ⟨Lc50, hQ50, l50, y50, z50⟩, st50⟩ := Xc.virtualBack hx (y := own_y16) (z := own_y16) hown (mvT hZ (own_w hw 113 rfl)) (mvT hZ (own_w hw 114 rfl)) (notFace_of_selects (args := #[]) (mvT hZ (own_w hw 116 rfl))) (mvT hZ (own_w hw 116 rfl)) (mvT hZ (own_w hw 115 rfl)) (by decide) (backOf (W := 0) (rmRuns0 l Z a0 hw [] b7 y4 rr wk_8 kw_8 nr vr_41 (-1 : Int32) Hc n0 (Nat.le_trans Z0 Kc0.1) zc0 zc4 zc1 zc5 hiq0 hiq1 (by rw [hc199_48]; exact hdp2) rfl) hZ (own_w hw 117 rfl) (own_w hw 3 rfl) (by decide) (by decide)) q50a q50c (g := (mkF m 225 #[.val (.int p1), .val (.int p2), .val (.int p3), .val (.int p4), .val (.int p5), .val (.int p6), .val (.int y1), .val (.int rr), .val (.int y3), .val (.int y4), .val (.int y5), .val (.int y6), .val (.ref b7), .val (.int nr), .val (.ref b9), .val (.int (1 : Int32)), .val (.int (1 : Int32)), .val (.int (0 : Int32)), .val (.int (0 : Int32))] [(.int y4), (.ref b7)])) rfl (by rw [hml]; rfl) (Steps.refl _) (argsL := [(.int y4)]) (rest := []) (lenOf pd_11 rfl) rfl (by show 2 * 0 + _ ≤ _; exact Nat.le_of_eq rfl) (hb hby at_225) (fun _ _ => ⟨rfl, ec, hcc_, hsc_⟩)
      dsimp only [Pt.U, Pt.locs, Pt.cells, Pt.slots] at X50 l50 y50 z50 st50 hQ50
      subst l50 y50 z50
      obtain ⟨rfl, N50q, eh50⟩ := hQ50
      have N50 := Fr.app Nc N50q
      refine own_via st50 ?_
      refine own_go (A := T50.setTop (mkF m 237 #[.val (.int p1), .val (.int p2), .val (.int p3), .val (.int p4), .val (.int p5), .val (.int p6), .val (.int y1), .val (.int rr), .val (.int y3), .val (.int y4), .val (.int y5), .val (.int y6), .val (.ref b7), .val (.int nr), .val (.ref b9), .val (.int (1 : Int32)), .val (.int (1 : Int32)), .val (.int (0 : Int32)), .val (.int (0 : Int32))] [(.int y3), (.ref b7)])) (fun t_ k_ => ?_) ?_
      · show Steps p.tables e below (T50.setTop (mkF m 228 #[.val (.int p1), .val (.int p2), .val (.int p3), .val (.int p4), .val (.int p5), .val (.int p6), .val (.int y1), .val (.int rr), .val (.int y3), .val (.int y4), .val (.int y5), .val (.int y6), .val (.ref b7), .val (.int nr), .val (.ref b9), .val (.int (1 : Int32)), .val (.int (1 : Int32)), .val (.int (0 : Int32)), .val (.int (0 : Int32))] [(.int (0 : Int32))])) t_
        refine XS.iload X50.here hx rfl (hb hby at_228) rfl ?_
        refine XS.icmpNo X50.here hx rfl (hb hby at_230) rfl (teq (by decide : (0 : Int32) = (0 : Int32))).2 ?_
        refine XS.aload X50.here hx rfl (hb hby at_233) rfl rfl ?_
        refine XS.iload X50.here hx rfl (hb hby at_235) rfl ?_
        exact k_
      obtain ⟨cq52, kq52, q52a, q52b, q52c⟩ := isOf hZ eh50 zc0
      obtain ⟨_, _, ⟨T52, L52, k52, n52⟩, -, X52, ⟨Lc52, hQ52, l52, y52, z52⟩, st52⟩ := X50.virtualBack hx (y := own_y16) (z := own_y16) hown (mvT hZ (own_w hw 113 rfl)) (mvT hZ (own_w hw 114 rfl)) (notFace_of_selects (args := #[]) (mvT hZ (own_w hw 116 rfl))) (mvT hZ (own_w hw 116 rfl)) (mvT hZ (own_w hw 115 rfl)) (by decide) (backOf (W := 0) (rmRuns0 l Z a0 hw [] b7 y3 rr wk_8 kw_8 nr vr_41 (-1 : Int32) Hc n0 (Nat.le_trans Z0 Kc0.1) zc0 zc4 zc1 zc5 hip0 hip1 hdp rfl) hZ (own_w hw 117 rfl) (own_w hw 3 rfl) (by decide) (by decide)) q52a q52c (g := (mkF m 237 #[.val (.int p1), .val (.int p2), .val (.int p3), .val (.int p4), .val (.int p5), .val (.int p6), .val (.int y1), .val (.int rr), .val (.int y3), .val (.int y4), .val (.int y5), .val (.int y6), .val (.ref b7), .val (.int nr), .val (.ref b9), .val (.int (1 : Int32)), .val (.int (1 : Int32)), .val (.int (0 : Int32)), .val (.int (0 : Int32))] [(.int y3), (.ref b7)])) rfl (by rw [hml]; rfl) (Steps.refl _) (argsL := [(.int y3)]) (rest := []) (lenOf pd_11 rfl) rfl (by show 2 * 0 + _ ≤ _; exact Nat.le_of_eq rfl) (hb hby at_237) (fun _ _ => ⟨rfl, eh50, hcc_, hsc_⟩)
      dsimp only [Pt.U, Pt.locs, Pt.cells, Pt.slots] at X52 l52 y52 z52 st52 hQ52
      subst l52 y52 z52
      obtain ⟨rfl, N52q, eh52⟩ := hQ52
      have N52 := Fr.app N50 N52q
      refine own_via st52 ?_
      refine own_go (A := T52.setTop (mkF m 250 #[.val (.int p1), .val (.int p2), .val (.int p3), .val (.int p4), .val (.int p5), .val (.int p6), .val (.int y1), .val (.int rr), .val (.int y3), .val (.int y4), .val (.int y5), .val (.int y6), .val (.ref b7), .val (.int nr), .val (.ref b9), .val (.int (1 : Int32)), .val (.int (1 : Int32)), .val (.int (0 : Int32)), .val (.int (0 : Int32))] [(.int (1 : Int32))])) (fun t_ k_ => ?_) ?_
      · show Steps p.tables e below (T52.setTop (mkF m 240 #[.val (.int p1), .val (.int p2), .val (.int p3), .val (.int p4), .val (.int p5), .val (.int p6), .val (.int y1), .val (.int rr), .val (.int y3), .val (.int y4), .val (.int y5), .val (.int y6), .val (.ref b7), .val (.int nr), .val (.ref b9), .val (.int (1 : Int32)), .val (.int (1 : Int32)), .val (.int (0 : Int32)), .val (.int (0 : Int32))] [(.int (0 : Int32))])) t_
        refine XS.iload X52.here hx rfl (hb hby at_240) rfl ?_
        refine XS.icmpNo X52.here hx rfl (hb hby at_242) rfl (teq (by decide : (0 : Int32) = (0 : Int32))).2 ?_
        refine XS.iconst X52.here hx rfl (hb hby at_245) ?_
        refine XS.goto X52.here hx rfl (pc0 := 246) (pc' := 250) rfl (hb hby at_246) (by decide) (by decide) ?_
        exact k_
      obtain ⟨fs53, hr53, hrun53, hended53, hW53, hsame53⟩ := X52.leave (v := some (.int (1 : Int32))) (fun h => by rw [hret] at h; cases h)
      refine ⟨_, _, ?_, hrun53, hended53, _, _, rfl, ?_, ⟨_, rfl⟩, hW53, hsame53.mono hcc_ hsc_⟩
      · exact retN X52 hx (t := .boolean) hret (by simp) (hb hby at_250) hr53
      · show Q_rm0 Z p1 p2 p3 p4 p5 p6 dc kd ca bxc el h0 n0 _ T52.heap _
        rw [eh52]
        exact ⟨rfl, N52, Kc0⟩
    · refine own_go (A := Tc.setTop (mkF m 225 #[.val (.int p1), .val (.int p2), .val (.int p3), .val (.int p4), .val (.int p5), .val (.int p6), .val (.int y1), .val (.int rr), .val (.int y3), .val (.int y4), .val (.int y5), .val (.int y6), .val (.ref b7), .val (.int nr), .val (.ref b9), .val (.int (1 : Int32)), .val (.int (1 : Int32)), .val (.int (1 : Int32)), .val (.int (0 : Int32))] [(.int y4), (.ref b7)])) (fun t_ k_ => ?_) ?_
      · show Steps p.tables e below (Tc.setTop (mkF m 199 #[.val (.int p1), .val (.int p2), .val (.int p3), .val (.int p4), .val (.int p5), .val (.int p6), .val (.int y1), .val (.int rr), .val (.int y3), .val (.int y4), .val (.int y5), .val (.int y6), .val (.ref b7), .val (.int nr), .val (.ref b9), .val (.int (1 : Int32)), .val (.int (1 : Int32)), .unset, .unset] [(.int y5), (.int y4)])) t_
        refine XS.icmpNo Xc.here hx rfl (hb hby at_199) rfl (feq hc199_48).1 ?_
        refine XS.iconst Xc.here hx rfl (hb hby at_202) ?_
        refine XS.goto Xc.here hx rfl (pc0 := 203) (pc' := 207) rfl (hb hby at_203) (by decide) (by decide) ?_
        refine XS.istore Xc.here hx rfl (hb hby at_207) rfl (l' := #[.val (.int p1), .val (.int p2), .val (.int p3), .val (.int p4), .val (.int p5), .val (.int p6), .val (.int y1), .val (.int rr), .val (.int y3), .val (.int y4), .val (.int y5), .val (.int y6), .val (.ref b7), .val (.int nr), .val (.ref b9), .val (.int (1 : Int32)), .val (.int (1 : Int32)), .val (.int (1 : Int32)), .unset]) rfl ?_
        show Steps p.tables e below (Tc.setTop (mkF m 209 #[.val (.int p1), .val (.int p2), .val (.int p3), .val (.int p4), .val (.int p5), .val (.int p6), .val (.int y1), .val (.int rr), .val (.int y3), .val (.int y4), .val (.int y5), .val (.int y6), .val (.ref b7), .val (.int nr), .val (.ref b9), .val (.int (1 : Int32)), .val (.int (1 : Int32)), .val (.int (1 : Int32)), .unset] [])) t_
        refine XS.iload Xc.here hx rfl (hb hby at_209) rfl ?_
        refine XS.ifYes Xc.here hx rfl (pc0 := 211) (pc' := 218) rfl (hb hby at_211) rfl ((if0 _ _).trans (feq (by decide : ¬ ((1 : Int32) = (0 : Int32)))).2) (by decide) (by decide) ?_
        refine XS.iconst Xc.here hx rfl (hb hby at_218) ?_
        refine XS.istore Xc.here hx rfl (hb hby at_219) rfl (l' := #[.val (.int p1), .val (.int p2), .val (.int p3), .val (.int p4), .val (.int p5), .val (.int p6), .val (.int y1), .val (.int rr), .val (.int y3), .val (.int y4), .val (.int y5), .val (.int y6), .val (.ref b7), .val (.int nr), .val (.ref b9), .val (.int (1 : Int32)), .val (.int (1 : Int32)), .val (.int (1 : Int32)), .val (.int (0 : Int32))]) rfl ?_
        show Steps p.tables e below (Tc.setTop (mkF m 221 #[.val (.int p1), .val (.int p2), .val (.int p3), .val (.int p4), .val (.int p5), .val (.int p6), .val (.int y1), .val (.int rr), .val (.int y3), .val (.int y4), .val (.int y5), .val (.int y6), .val (.ref b7), .val (.int nr), .val (.ref b9), .val (.int (1 : Int32)), .val (.int (1 : Int32)), .val (.int (1 : Int32)), .val (.int (0 : Int32))] [])) t_
        refine XS.aload Xc.here hx rfl (hb hby at_221) rfl rfl ?_
        refine XS.iload Xc.here hx rfl (hb hby at_223) rfl ?_
        exact k_
      obtain ⟨w54, hwx54, hwy54⟩ := (haq hc187_42 hc199_48)
      obtain ⟨cq55, kq55, q55a, q55b, q55c⟩ := isOf hZ ec zc0
      obtain ⟨_, _, ⟨T55, L55, k55, n55⟩, -, X55, ⟨Lc55, hQ55, l55, y55, z55⟩, st55⟩ := Xc.virtualBack hx (y := own_y16) (z := own_y16) hown (mvT hZ (own_w hw 113 rfl)) (mvT hZ (own_w hw 114 rfl)) (notFace_of_selects (args := #[]) (mvT hZ (own_w hw 116 rfl))) (mvT hZ (own_w hw 116 rfl)) (mvT hZ (own_w hw 115 rfl)) (by decide) (backOf (W := 0) (rmRuns1 l Z a0 hw [] b7 y4 rr wk_8 kw_8 nr vr_41 w54 Hc n0 (Nat.le_trans Z0 Kc0.1) zc0 zc4 zc1 zc5 hiq0 hiq1 hwx54 hwy54) hZ (own_w hw 117 rfl) (own_w hw 3 rfl) (by decide) (by decide)) q55a q55c (g := (mkF m 225 #[.val (.int p1), .val (.int p2), .val (.int p3), .val (.int p4), .val (.int p5), .val (.int p6), .val (.int y1), .val (.int rr), .val (.int y3), .val (.int y4), .val (.int y5), .val (.int y6), .val (.ref b7), .val (.int nr), .val (.ref b9), .val (.int (1 : Int32)), .val (.int (1 : Int32)), .val (.int (1 : Int32)), .val (.int (0 : Int32))] [(.int y4), (.ref b7)])) rfl (by rw [hml]; rfl) (Steps.refl _) (argsL := [(.int y4)]) (rest := []) (lenOf pd_11 rfl) rfl (by show 2 * 0 + _ ≤ _; exact Nat.le_of_eq rfl) (hb hby at_225) (fun _ _ => ⟨rfl, ec, hcc_, hsc_⟩)
      dsimp only [Pt.U, Pt.locs, Pt.cells, Pt.slots] at X55 l55 y55 z55 st55 hQ55
      subst l55 y55 z55
      obtain ⟨rfl, N55q, eh55⟩ := hQ55
      have N55 := Fr.app Nc N55q
      refine own_via st55 ?_
      refine own_go (A := T55.setTop (mkF m 237 #[.val (.int p1), .val (.int p2), .val (.int p3), .val (.int p4), .val (.int p5), .val (.int p6), .val (.int y1), .val (.int rr), .val (.int y3), .val (.int y4), .val (.int y5), .val (.int y6), .val (.ref b7), .val (.int nr), .val (.ref b9), .val (.int (1 : Int32)), .val (.int (1 : Int32)), .val (.int (1 : Int32)), .val (.int (0 : Int32))] [(.int y3), (.ref b7)])) (fun t_ k_ => ?_) ?_
      · show Steps p.tables e below (T55.setTop (mkF m 228 #[.val (.int p1), .val (.int p2), .val (.int p3), .val (.int p4), .val (.int p5), .val (.int p6), .val (.int y1), .val (.int rr), .val (.int y3), .val (.int y4), .val (.int y5), .val (.int y6), .val (.ref b7), .val (.int nr), .val (.ref b9), .val (.int (1 : Int32)), .val (.int (1 : Int32)), .val (.int (1 : Int32)), .val (.int (0 : Int32))] [(.int (1 : Int32))])) t_
        refine XS.iload X55.here hx rfl (hb hby at_228) rfl ?_
        refine XS.icmpNo X55.here hx rfl (hb hby at_230) rfl (teq (by decide : (1 : Int32) = (1 : Int32))).2 ?_
        refine XS.aload X55.here hx rfl (hb hby at_233) rfl rfl ?_
        refine XS.iload X55.here hx rfl (hb hby at_235) rfl ?_
        exact k_
      obtain ⟨cq57, kq57, q57a, q57b, q57c⟩ := isOf hZ eh55 zc0
      obtain ⟨_, _, ⟨T57, L57, k57, n57⟩, -, X57, ⟨Lc57, hQ57, l57, y57, z57⟩, st57⟩ := X55.virtualBack hx (y := own_y16) (z := own_y16) hown (mvT hZ (own_w hw 113 rfl)) (mvT hZ (own_w hw 114 rfl)) (notFace_of_selects (args := #[]) (mvT hZ (own_w hw 116 rfl))) (mvT hZ (own_w hw 116 rfl)) (mvT hZ (own_w hw 115 rfl)) (by decide) (backOf (W := 0) (rmRuns0 l Z a0 hw [] b7 y3 rr wk_8 kw_8 nr vr_41 (-1 : Int32) Hc n0 (Nat.le_trans Z0 Kc0.1) zc0 zc4 zc1 zc5 hip0 hip1 hdp rfl) hZ (own_w hw 117 rfl) (own_w hw 3 rfl) (by decide) (by decide)) q57a q57c (g := (mkF m 237 #[.val (.int p1), .val (.int p2), .val (.int p3), .val (.int p4), .val (.int p5), .val (.int p6), .val (.int y1), .val (.int rr), .val (.int y3), .val (.int y4), .val (.int y5), .val (.int y6), .val (.ref b7), .val (.int nr), .val (.ref b9), .val (.int (1 : Int32)), .val (.int (1 : Int32)), .val (.int (1 : Int32)), .val (.int (0 : Int32))] [(.int y3), (.ref b7)])) rfl (by rw [hml]; rfl) (Steps.refl _) (argsL := [(.int y3)]) (rest := []) (lenOf pd_11 rfl) rfl (by show 2 * 0 + _ ≤ _; exact Nat.le_of_eq rfl) (hb hby at_237) (fun _ _ => ⟨rfl, eh55, hcc_, hsc_⟩)
      dsimp only [Pt.U, Pt.locs, Pt.cells, Pt.slots] at X57 l57 y57 z57 st57 hQ57
      subst l57 y57 z57
      obtain ⟨rfl, N57q, eh57⟩ := hQ57
      have N57 := Fr.app N55 N57q
      refine own_via st57 ?_
      refine own_go (A := T57.setTop (mkF m 250 #[.val (.int p1), .val (.int p2), .val (.int p3), .val (.int p4), .val (.int p5), .val (.int p6), .val (.int y1), .val (.int rr), .val (.int y3), .val (.int y4), .val (.int y5), .val (.int y6), .val (.ref b7), .val (.int nr), .val (.ref b9), .val (.int (1 : Int32)), .val (.int (1 : Int32)), .val (.int (1 : Int32)), .val (.int (0 : Int32))] [(.int (1 : Int32))])) (fun t_ k_ => ?_) ?_
      · show Steps p.tables e below (T57.setTop (mkF m 240 #[.val (.int p1), .val (.int p2), .val (.int p3), .val (.int p4), .val (.int p5), .val (.int p6), .val (.int y1), .val (.int rr), .val (.int y3), .val (.int y4), .val (.int y5), .val (.int y6), .val (.ref b7), .val (.int nr), .val (.ref b9), .val (.int (1 : Int32)), .val (.int (1 : Int32)), .val (.int (1 : Int32)), .val (.int (0 : Int32))] [(.int (0 : Int32))])) t_
        refine XS.iload X57.here hx rfl (hb hby at_240) rfl ?_
        refine XS.icmpNo X57.here hx rfl (hb hby at_242) rfl (teq (by decide : (0 : Int32) = (0 : Int32))).2 ?_
        refine XS.iconst X57.here hx rfl (hb hby at_245) ?_
        refine XS.goto X57.here hx rfl (pc0 := 246) (pc' := 250) rfl (hb hby at_246) (by decide) (by decide) ?_
        exact k_
      obtain ⟨fs58, hr58, hrun58, hended58, hW58, hsame58⟩ := X57.leave (v := some (.int (1 : Int32))) (fun h => by rw [hret] at h; cases h)
      refine ⟨_, _, ?_, hrun58, hended58, _, _, rfl, ?_, ⟨_, rfl⟩, hW58, hsame58.mono hcc_ hsc_⟩
      · exact retN X57 hx (t := .boolean) hret (by simp) (hb hby at_250) hr58
      · show Q_rm0 Z p1 p2 p3 p4 p5 p6 dc kd ca bxc el h0 n0 _ T57.heap _
        rw [eh57]
        exact ⟨rfl, N57, Kc0⟩
set_option maxRecDepth 65536 in
set_option maxHeartbeats 40000000 in
theorem own_c125 (l : Launch) (Z : State) (a0 : Array Value) (hw : ∀ d ∈ tables_1, d.before a0 Z = true) (p1 : Int32) (p2 : Int32) (p3 : Int32) (p4 : Int32) (p5 : Int32) (p6 : Int32) (dc : Addr) (kd : ClassId) (ca : Addr) (bxc : Cell) (el : Addr) (y1 : Int32) (rr : Int32) (y3 : Int32) (y4 : Int32) (y5 : Int32) (y6 : Int32) (b7 : Addr) (nr : Int32) (b9 : Addr) (wk_8 : Addr) (sl_8 : Addr) (al_8 : Addr) (kw_8 : ClassId) (vw_8 : List Value) (ks_8 : ClassId) (ns : Int32) (vu_8 : List Value) (ed_8 : Addr) (szz : Int32) (mcc : Int32) (kk_8 : ClassId) (ee : List Value) (k9 : ClassId) (ls : List Value) (h0 : Heap) (n0 : Nat) (Z0 : n0 ≤ h0.size) {p : Program} {e : Env} {s : State} {m : MethodId} {below : List Frame} {meth : Method} {c : Code} {Tc : State} {Hc : Heap} {locsc : List Loc} (Xc : Stand p l e room_1 s m #[(.int p1), (.int p2), (.int p3), (.int p4), (.int p5), (.int p6)] below meth c Tc locsc 7 61) (hx : p.tables.exec = Jvm.exec) (hZ : Z.Warmed39 s.vm) (hby : c.code = code) (hml : c.maxLocals = 19) (hown : s.vm.findClass "com/example/kneiphof/kneiphof/AssignmentRunsPinLaw" = some m.cls) (hret : meth.sig.returnType = some .boolean) (hlk : meth.locks = false) (hh : s.heap = h0) (ec : Tc.heap = Hc) (Nc : Fr n0 locsc) (Kc0 : Keep h0 Hc []) (Oc : Old Z n0 Hc) (zc0 : Sta Z Z.heap "java/lang/Integer$IntegerCache" "high" "I" (.int (127 : Int32))) (zc1 : Sta Z Z.heap "java/lang/Integer$IntegerCache" "cache" "[Ljava/lang/Integer;" (.ref ca)) (zc2 : Exa Z Hc b7 "com/example/kneiphof/kneiphof/Assignment") (zc3 : Fld Z Hc b7 "com/example/kneiphof/kneiphof/Assignment" "workers" "[I" (.ref wk_8)) (zc4 : Fld Z Hc b7 "com/example/kneiphof/kneiphof/Assignment" "slots" "[I" (.ref sl_8)) (zc5 : Fld Z Hc b7 "com/example/kneiphof/kneiphof/Assignment" "spares" "Ljava/util/List;" (.ref al_8)) (zc6 : Fld Z Hc b7 "com/example/kneiphof/kneiphof/Assignment" "replicas" "I" (.int rr)) (zc7 : Arv Z Hc wk_8 kw_8 .int nr vw_8 (.int (0 : Int32))) (zc8 : Arv Z Hc sl_8 ks_8 .int ns vu_8 (.int (0 : Int32))) (zc9 : Exa Z Hc al_8 "java/util/ArrayList") (zc10 : Fld Z Hc al_8 "java/util/ArrayList" "elementData" "[Ljava/lang/Object;" (.ref ed_8)) (zc11 : Fld Z Hc al_8 "java/util/ArrayList" "size" "I" (.int szz)) (zc12 : Fld Z Hc al_8 "java/util/AbstractList" "modCount" "I" (.int mcc)) (zc13 : Arv Z Hc ed_8 kk_8 (.object "java/lang/Object") (10 : Int32) ee .null) (zc14 : Arv Z Hc b9 k9 .int (4 : Int32) ls (.int (0 : Int32))) (gc15 : n0 ≤ b7) (gc16 : h0.size ≤ b7) (gc17 : n0 ≤ wk_8) (gc18 : h0.size ≤ wk_8) (gc19 : n0 ≤ sl_8) (gc20 : h0.size ≤ sl_8) (gc21 : n0 ≤ al_8) (gc22 : h0.size ≤ al_8) (gc23 : n0 ≤ ed_8) (gc24 : h0.size ≤ ed_8) (gc25 : n0 ≤ b9) (gc26 : h0.size ≤ b9) (nc27 : wk_8 ≠ sl_8) (nc28 : b7 ≠ wk_8) (nc29 : b7 ≠ sl_8) (nc30 : al_8 ≠ ed_8) (nc31 : al_8 ≠ wk_8) (nc32 : al_8 ≠ sl_8) (nc33 : ed_8 ≠ wk_8) (nc34 : ed_8 ≠ sl_8) (nc35 : b7 ≠ al_8) (nc36 : b7 ≠ ed_8) (nc37 : b9 ≠ wk_8) (nc38 : b9 ≠ sl_8) (nc39 : b9 ≠ al_8) (nc40 : b9 ≠ ed_8) (oc41 : Ovr Z kk_8 "java/lang/Object") (hbx : Bxs Z ca bxc "java/lang/Integer" "I" (256 : Int32) own_bval) (hbn : 1 ≤ y1.toInt ∧ y1.toInt ≤ 4) (hbr : 1 ≤ rr.toInt ∧ rr.toInt ≤ 4) (hnr : nr.toInt = y1.toInt * rr.toInt) (hns : ns.toInt = y1.toInt * rr.toInt + rr.toInt) (hbp : 0 ≤ y3.toInt ∧ y3.toInt < y1.toInt) (hbq : 0 ≤ y4.toInt ∧ y4.toInt < y1.toInt) (hbp2 : 0 ≤ y5.toInt ∧ y5.toInt < y1.toInt) (hvl : vw_8.length = (nr).toNatClampNeg) (hul : vu_8.length = (ns).toNatClampNeg) (hpre : own_pre vw_8 nr.toInt) (hfc : Z.vm.findClass "[I" = some kw_8) (hls : own_spv ls nr.toInt) (hszz : szz.toInt = rr.toInt) (hel : ee.length = 10) (hsp : own_sp Z ee rr.toInt nr.toInt) :
    ∃ U_ o_, Steps p.tables e below (Tc.setTop (mkF m 125 #[.val (.int p1), .val (.int p2), .val (.int p3), .val (.int p4), .val (.int p5), .val (.int p6), .val (.int y1), .val (.int rr), .val (.int y3), .val (.int y4), .val (.int y5), .val (.int y6), .val (.ref b7), .val (.int nr), .val (.ref b9), .val (.int (0 : Int32)), .val (.int (0 : Int32)), .unset, .unset] [])) U_ ∧ U_.status = .running ∧ Ended U_ below o_ ∧ (∃ v_ L_, o_ = .returned v_ ∧ Q_rm0 Z p1 p2 p3 p4 p5 p6 dc kd ca bxc el h0 n0 v_ U_.heap L_ ∧ FrameEnd s o_ U_ L_ room_1.cells room_1.slots) := by
  refine own_go (A := Tc.setTop (mkF m 129 #[.val (.int p1), .val (.int p2), .val (.int p3), .val (.int p4), .val (.int p5), .val (.int p6), .val (.int y1), .val (.int rr), .val (.int y3), .val (.int y4), .val (.int y5), .val (.int y6), .val (.ref b7), .val (.int nr), .val (.ref b9), .val (.int (0 : Int32)), .val (.int (0 : Int32)), .unset, .unset] [(.int y3), (.ref b7)])) (fun t_ k_ => ?_) ?_
  · show Steps p.tables e below (Tc.setTop (mkF m 125 #[.val (.int p1), .val (.int p2), .val (.int p3), .val (.int p4), .val (.int p5), .val (.int p6), .val (.int y1), .val (.int rr), .val (.int y3), .val (.int y4), .val (.int y5), .val (.int y6), .val (.ref b7), .val (.int nr), .val (.ref b9), .val (.int (0 : Int32)), .val (.int (0 : Int32)), .unset, .unset] [])) t_
    refine XS.aload Xc.here hx rfl (hb hby at_125) rfl rfl ?_
    refine XS.iload Xc.here hx rfl (hb hby at_127) rfl ?_
    exact k_
  obtain ⟨cq19, kq19, q19a, q19b, q19c⟩ := isOf hZ ec zc2
  obtain ⟨_, _, ⟨T19, L19, k19, n19⟩, -, X19, ⟨Lc19, hQ19, l19, y19, z19⟩, st19⟩ := Xc.virtualBack hx (y := own_y18) (z := own_y18) hown (mvT hZ (own_w hw 123 rfl)) (mvT hZ (own_w hw 124 rfl)) (notFace_of_selects (args := #[]) (mvT hZ (own_w hw 126 rfl))) (mvT hZ (own_w hw 126 rfl)) (mvT hZ (own_w hw 125 rfl)) (by decide) (backOf (W := 0) (rmRem l Z a0 hw [] b7 y3 y1 rr nr ns wk_8 kw_8 sl_8 ks_8 vw_8 vu_8 Hc n0 (Nat.le_trans Z0 Kc0.1) zc2 zc6 zc3 zc4 zc7 zc8 gc17 gc19 nc27 nc28 nc29 hbn hbr hnr hns hbp hvl hul hfc (own_bpre hpre hbr hbn hbp hnr hns)) hZ (own_w hw 127 rfl) (own_w hw 3 rfl) (by decide) (by decide)) q19a q19c (g := (mkF m 129 #[.val (.int p1), .val (.int p2), .val (.int p3), .val (.int p4), .val (.int p5), .val (.int p6), .val (.int y1), .val (.int rr), .val (.int y3), .val (.int y4), .val (.int y5), .val (.int y6), .val (.ref b7), .val (.int nr), .val (.ref b9), .val (.int (0 : Int32)), .val (.int (0 : Int32)), .unset, .unset] [(.int y3), (.ref b7)])) rfl (by rw [hml]; rfl) (Steps.refl _) (argsL := [(.int y3)]) (rest := []) (lenOf pd_12 rfl) rfl (by show 2 * 0 + _ ≤ _; exact Nat.le_of_eq rfl) (hb hby at_129) (fun _ _ => ⟨rfl, ec, (by decide : 7 + 1 ≤ _), (by decide : 61 + 4 ≤ _)⟩)
  dsimp only [Pt.U, Pt.locs, Pt.cells, Pt.slots] at X19 l19 y19 z19 st19 hQ19
  subst l19 y19 z19
  obtain ⟨rb_19, vr_19, ur_19, rfl, N19q, Kc19, r19_0, r19_1, w19_0, w19_1, w19_2⟩ := hQ19
  have N19 := Fr.app Nc N19q
  refine own_via st19 ?_
  have K19 : Keep h0 T19.heap [] := Kc0.trans Kc19 (allS (P := fun x => x ∈ _ ∨ _ ≤ x) (Or.inr gc18) (allS (P := fun x => x ∈ _ ∨ _ ≤ x) (Or.inr gc20) all0))
  have O19 := Oc.keep Kc19 (allS (P := fun x => n0 ≤ x) gc17 (allS (P := fun x => n0 ≤ x) gc19 all0))
  refine own_go (A := T19.setTop (mkF m 139 #[.val (.int p1), .val (.int p2), .val (.int p3), .val (.int p4), .val (.int p5), .val (.int p6), .val (.int y1), .val (.int rr), .val (.int y3), .val (.int y4), .val (.int y5), .val (.int y6), .val (.ref b7), .val (.int nr), .val (.ref b9), .val (.int (1 : Int32)), .val (.int (0 : Int32)), .unset, .unset] [(.int (2 : Int32)), (.int y6)])) (fun t_ k_ => ?_) ?_
  · show Steps p.tables e below (T19.setTop (mkF m 132 #[.val (.int p1), .val (.int p2), .val (.int p3), .val (.int p4), .val (.int p5), .val (.int p6), .val (.int y1), .val (.int rr), .val (.int y3), .val (.int y4), .val (.int y5), .val (.int y6), .val (.ref b7), .val (.int nr), .val (.ref b9), .val (.int (0 : Int32)), .val (.int (0 : Int32)), .unset, .unset] [(.ref rb_19)])) t_
    refine XS.pop X19.here hx rfl (hb hby at_132) rfl rfl ?_
    refine XS.iconst X19.here hx rfl (hb hby at_133) ?_
    refine XS.istore X19.here hx rfl (hb hby at_134) rfl (l' := #[.val (.int p1), .val (.int p2), .val (.int p3), .val (.int p4), .val (.int p5), .val (.int p6), .val (.int y1), .val (.int rr), .val (.int y3), .val (.int y4), .val (.int y5), .val (.int y6), .val (.ref b7), .val (.int nr), .val (.ref b9), .val (.int (1 : Int32)), .val (.int (0 : Int32)), .unset, .unset]) rfl ?_
    refine XS.iload X19.here hx rfl (hb hby at_136) rfl ?_
    show Steps p.tables e below (T19.setTop (mkF m 138 #[.val (.int p1), .val (.int p2), .val (.int p3), .val (.int p4), .val (.int p5), .val (.int p6), .val (.int y1), .val (.int rr), .val (.int y3), .val (.int y4), .val (.int y5), .val (.int y6), .val (.ref b7), .val (.int nr), .val (.ref b9), .val (.int (1 : Int32)), .val (.int (0 : Int32)), .unset, .unset] [(.int y6)])) t_
    refine XS.iconst X19.here hx rfl (hb hby at_138) ?_
    exact k_
  by_cases hc139_20 : y6 = (2 : Int32)
  · refine own_go (A := T19.setTop (mkF m 148 #[.val (.int p1), .val (.int p2), .val (.int p3), .val (.int p4), .val (.int p5), .val (.int p6), .val (.int y1), .val (.int rr), .val (.int y3), .val (.int y4), .val (.int y5), .val (.int y6), .val (.ref b7), .val (.int nr), .val (.ref b9), .val (.int (1 : Int32)), .val (.int (0 : Int32)), .unset, .unset] [(.ref b9), (.int y3), (.ref b7)])) (fun t_ k_ => ?_) ?_
    · show Steps p.tables e below (T19.setTop (mkF m 139 #[.val (.int p1), .val (.int p2), .val (.int p3), .val (.int p4), .val (.int p5), .val (.int p6), .val (.int y1), .val (.int rr), .val (.int y3), .val (.int y4), .val (.int y5), .val (.int y6), .val (.ref b7), .val (.int nr), .val (.ref b9), .val (.int (1 : Int32)), .val (.int (0 : Int32)), .unset, .unset] [(.int (2 : Int32)), (.int y6)])) t_
      refine XS.icmpNo X19.here hx rfl (hb hby at_139) rfl (teq hc139_20).2 ?_
      refine XS.aload X19.here hx rfl (hb hby at_142) rfl rfl ?_
      refine XS.iload X19.here hx rfl (hb hby at_144) rfl ?_
      refine XS.aload X19.here hx rfl (hb hby at_146) rfl rfl ?_
      exact k_
    obtain ⟨cq21, kq21, q21a, q21b, q21c⟩ := isOf hZ rfl (zc2.keep Kc19)
    obtain ⟨_, _, ⟨T21, L21, k21, n21⟩, -, X21, ⟨Lc21, hQ21, l21, y21, z21⟩, st21⟩ := X19.virtualBack hx (y := own_y25) (z := own_y25) hown (mvT hZ (own_w hw 159 rfl)) (mvT hZ (own_w hw 160 rfl)) (notFace_of_selects (args := #[]) (mvT hZ (own_w hw 162 rfl))) (mvT hZ (own_w hw 162 rfl)) (mvT hZ (own_w hw 161 rfl)) (by decide) (backOf (W := 0) (rmRep l Z a0 hw [] b7 y3 b9 y1 rr nr ns wk_8 kw_8 sl_8 ks_8 vr_19 ur_19 k9 ls al_8 ed_8 kk_8 szz mcc ee ca bxc T19.heap n0 (Nat.le_trans Z0 K19.1) O19 zc0 zc1 hbx (zc2.keep Kc19) (zc6.keep Kc19 (ninS nc28 (ninS nc29 nin0))) (zc3.keep Kc19 (ninS nc28 (ninS nc29 nin0))) (zc4.keep Kc19 (ninS nc28 (ninS nc29 nin0))) r19_0 r19_1 gc17 gc19 nc27 nc28 nc29 hbn hbr hnr hns hbp w19_0 w19_1 (zc14.keep Kc19 (ninS nc37 (ninS nc38 nin0))) (zc5.keep Kc19 (ninS nc28 (ninS nc29 nin0))) (zc9.keep Kc19) (zc10.keep Kc19 (ninS nc31 (ninS nc32 nin0))) (zc11.keep Kc19 (ninS nc31 (ninS nc32 nin0))) (zc12.keep Kc19 (ninS nc31 (ninS nc32 nin0))) (zc13.keep Kc19 (ninS nc33 (ninS nc34 nin0))) oc41 gc21 gc23 nc30 nc31 nc32 nc33 nc34 nc35 nc36 nc37 nc38 nc39 nc40 hls hszz hel hsp) hZ (own_w hw 163 rfl) (own_w hw 3 rfl) (by decide) (by decide)) q21a q21c (g := (mkF m 148 #[.val (.int p1), .val (.int p2), .val (.int p3), .val (.int p4), .val (.int p5), .val (.int p6), .val (.int y1), .val (.int rr), .val (.int y3), .val (.int y4), .val (.int y5), .val (.int y6), .val (.ref b7), .val (.int nr), .val (.ref b9), .val (.int (1 : Int32)), .val (.int (0 : Int32)), .unset, .unset] [(.ref b9), (.int y3), (.ref b7)])) rfl (by rw [hml]; rfl) (Steps.refl _) (argsL := [(.int y3), (.ref b9)]) (rest := []) (lenOf pd_16 rfl) rfl (by show 2 * 0 + _ ≤ _; exact Nat.le_of_eq rfl) (hb hby at_148) (fun _ _ => ⟨rfl, rfl, (by decide : 8 + 0 ≤ _), (by decide : 65 + 0 ≤ _)⟩)
    dsimp only [Pt.U, Pt.locs, Pt.cells, Pt.slots] at X21 l21 y21 z21 st21 hQ21
    subst l21 y21 z21
    obtain ⟨vr_21, rfl, N21q, Kc21, r21_0, w21_0⟩ := hQ21
    have N21 := Fr.app N19 N21q
    refine own_via st21 ?_
    have K21 : Keep h0 T21.heap [] := K19.trans Kc21 (allS (P := fun x => x ∈ _ ∨ _ ≤ x) (Or.inr gc18) (allS (P := fun x => x ∈ _ ∨ _ ≤ x) (Or.inr gc20) (allS (P := fun x => x ∈ _ ∨ _ ≤ x) (Or.inr gc22) (allS (P := fun x => x ∈ _ ∨ _ ≤ x) (Or.inr gc24) all0))))
    have O21 := O19.keep Kc21 (allS (P := fun x => n0 ≤ x) gc17 (allS (P := fun x => n0 ≤ x) gc19 (allS (P := fun x => n0 ≤ x) gc21 (allS (P := fun x => n0 ≤ x) gc23 all0))))
    refine own_go (A := T21.setTop (mkF m 157 #[.val (.int p1), .val (.int p2), .val (.int p3), .val (.int p4), .val (.int p5), .val (.int p6), .val (.int y1), .val (.int rr), .val (.int y3), .val (.int y4), .val (.int y5), .val (.int y6), .val (.ref b7), .val (.int nr), .val (.ref b9), .val (.int (0 : Int32)), .val (.int (0 : Int32)), .unset, .unset] [(.int (3 : Int32)), (.int y6)])) (fun t_ k_ => ?_) ?_
    · show Steps p.tables e below (T21.setTop (mkF m 151 #[.val (.int p1), .val (.int p2), .val (.int p3), .val (.int p4), .val (.int p5), .val (.int p6), .val (.int y1), .val (.int rr), .val (.int y3), .val (.int y4), .val (.int y5), .val (.int y6), .val (.ref b7), .val (.int nr), .val (.ref b9), .val (.int (1 : Int32)), .val (.int (0 : Int32)), .unset, .unset] [])) t_
      refine XS.iconst X21.here hx rfl (hb hby at_151) ?_
      refine XS.istore X21.here hx rfl (hb hby at_152) rfl (l' := #[.val (.int p1), .val (.int p2), .val (.int p3), .val (.int p4), .val (.int p5), .val (.int p6), .val (.int y1), .val (.int rr), .val (.int y3), .val (.int y4), .val (.int y5), .val (.int y6), .val (.ref b7), .val (.int nr), .val (.ref b9), .val (.int (0 : Int32)), .val (.int (0 : Int32)), .unset, .unset]) rfl ?_
      refine XS.iload X21.here hx rfl (hb hby at_154) rfl ?_
      refine XS.iconst X21.here hx rfl (hb hby at_156) ?_
      exact k_
    have hc157_22 : ¬ (y6 = (3 : Int32)) := by rw [hc139_20]; decide
    refine own_go (A := T21.setTop (mkF m 178 #[.val (.int p1), .val (.int p2), .val (.int p3), .val (.int p4), .val (.int p5), .val (.int p6), .val (.int y1), .val (.int rr), .val (.int y3), .val (.int y4), .val (.int y5), .val (.int y6), .val (.ref b7), .val (.int nr), .val (.ref b9), .val (.int (0 : Int32)), .val (.int (0 : Int32)), .unset, .unset] [])) (fun t_ k_ => ?_) ?_
    · show Steps p.tables e below (T21.setTop (mkF m 157 #[.val (.int p1), .val (.int p2), .val (.int p3), .val (.int p4), .val (.int p5), .val (.int p6), .val (.int y1), .val (.int rr), .val (.int y3), .val (.int y4), .val (.int y5), .val (.int y6), .val (.ref b7), .val (.int nr), .val (.ref b9), .val (.int (0 : Int32)), .val (.int (0 : Int32)), .unset, .unset] [(.int (3 : Int32)), (.int y6)])) t_
      refine XS.icmpYes X21.here hx rfl (pc0 := 157) (pc' := 178) rfl (hb hby at_157) rfl (feq hc157_22).2 (by decide) (by decide) ?_
      exact k_
    exact own_s00 l Z a0 hw p1 p2 p3 p4 p5 p6 dc kd ca bxc el y1 rr y3 y4 y5 y6 b7 nr b9 wk_8 sl_8 al_8 kw_8 vr_21 h0 n0 Z0 X21 hx hZ hby hml hown hret hlk hh rfl N21 K21 O21 (by decide) (by decide) ((zc2.keep Kc19).keep Kc21) ((zc3.keep Kc19 (ninS nc28 (ninS nc29 nin0))).keep Kc21 (ninS nc28 (ninS nc29 (ninS nc35 (ninS nc36 nin0))))) ((zc4.keep Kc19 (ninS nc28 (ninS nc29 nin0))).keep Kc21 (ninS nc28 (ninS nc29 (ninS nc35 (ninS nc36 nin0))))) ((zc5.keep Kc19 (ninS nc28 (ninS nc29 nin0))).keep Kc21 (ninS nc28 (ninS nc29 (ninS nc35 (ninS nc36 nin0))))) ((zc6.keep Kc19 (ninS nc28 (ninS nc29 nin0))).keep Kc21 (ninS nc28 (ninS nc29 (ninS nc35 (ninS nc36 nin0))))) r21_0 gc15 gc16 gc17 gc18 nc28 hbx (own_ib0 hbr hbn hbq) (own_ib1 hbr hbn hbq hnr) (own_ib0 hbr hbn hbp) (own_ib1 hbr hbn hbp hnr) (by rw [own_ix0 hbr hbn hbq]; exact own_arp w21_0 hbr hbp.1 hbq.1 (by rw [hnr]; have b := own_pr hbr hbn hbp; omega) (fun ne => own_alb (own_brem w19_2 hbr hbp.1 hbq.1 ne (own_bpre hpre hbr hbn hbq hnr hns)) hbr)) (by rw [own_ix0 hbr hbn hbp]; exact own_arp w21_0 hbr hbp.1 hbp.1 (by rw [hnr]; have b := own_pr hbr hbn hbp; omega) (fun ne => own_alb (own_brem w19_2 hbr hbp.1 hbp.1 ne (own_bpre hpre hbr hbn hbp hnr hns)) hbr))
  · refine own_go (A := T19.setTop (mkF m 157 #[.val (.int p1), .val (.int p2), .val (.int p3), .val (.int p4), .val (.int p5), .val (.int p6), .val (.int y1), .val (.int rr), .val (.int y3), .val (.int y4), .val (.int y5), .val (.int y6), .val (.ref b7), .val (.int nr), .val (.ref b9), .val (.int (1 : Int32)), .val (.int (0 : Int32)), .unset, .unset] [(.int (3 : Int32)), (.int y6)])) (fun t_ k_ => ?_) ?_
    · show Steps p.tables e below (T19.setTop (mkF m 139 #[.val (.int p1), .val (.int p2), .val (.int p3), .val (.int p4), .val (.int p5), .val (.int p6), .val (.int y1), .val (.int rr), .val (.int y3), .val (.int y4), .val (.int y5), .val (.int y6), .val (.ref b7), .val (.int nr), .val (.ref b9), .val (.int (1 : Int32)), .val (.int (0 : Int32)), .unset, .unset] [(.int (2 : Int32)), (.int y6)])) t_
      refine XS.icmpYes X19.here hx rfl (pc0 := 139) (pc' := 154) rfl (hb hby at_139) rfl (feq hc139_20).2 (by decide) (by decide) ?_
      refine XS.iload X19.here hx rfl (hb hby at_154) rfl ?_
      refine XS.iconst X19.here hx rfl (hb hby at_156) ?_
      exact k_
    by_cases hc157_28 : y6 = (3 : Int32)
    · refine own_go (A := T19.setTop (mkF m 164 #[.val (.int p1), .val (.int p2), .val (.int p3), .val (.int p4), .val (.int p5), .val (.int p6), .val (.int y1), .val (.int rr), .val (.int y3), .val (.int y4), .val (.int y5), .val (.int y6), .val (.ref b7), .val (.int nr), .val (.ref b9), .val (.int (1 : Int32)), .val (.int (0 : Int32)), .unset, .unset] [(.int y3), (.int y5)])) (fun t_ k_ => ?_) ?_
      · show Steps p.tables e below (T19.setTop (mkF m 157 #[.val (.int p1), .val (.int p2), .val (.int p3), .val (.int p4), .val (.int p5), .val (.int p6), .val (.int y1), .val (.int rr), .val (.int y3), .val (.int y4), .val (.int y5), .val (.int y6), .val (.ref b7), .val (.int nr), .val (.ref b9), .val (.int (1 : Int32)), .val (.int (0 : Int32)), .unset, .unset] [(.int (3 : Int32)), (.int y6)])) t_
        refine XS.icmpNo X19.here hx rfl (hb hby at_157) rfl (teq hc157_28).2 ?_
        refine XS.iload X19.here hx rfl (hb hby at_160) rfl ?_
        refine XS.iload X19.here hx rfl (hb hby at_162) rfl ?_
        exact k_
      by_cases hc164_29 : y5 = y3
      · refine own_go (A := T19.setTop (mkF m 178 #[.val (.int p1), .val (.int p2), .val (.int p3), .val (.int p4), .val (.int p5), .val (.int p6), .val (.int y1), .val (.int rr), .val (.int y3), .val (.int y4), .val (.int y5), .val (.int y6), .val (.ref b7), .val (.int nr), .val (.ref b9), .val (.int (1 : Int32)), .val (.int (0 : Int32)), .unset, .unset] [])) (fun t_ k_ => ?_) ?_
        · show Steps p.tables e below (T19.setTop (mkF m 164 #[.val (.int p1), .val (.int p2), .val (.int p3), .val (.int p4), .val (.int p5), .val (.int p6), .val (.int y1), .val (.int rr), .val (.int y3), .val (.int y4), .val (.int y5), .val (.int y6), .val (.ref b7), .val (.int nr), .val (.ref b9), .val (.int (1 : Int32)), .val (.int (0 : Int32)), .unset, .unset] [(.int y3), (.int y5)])) t_
          refine XS.icmpYes X19.here hx rfl (pc0 := 164) (pc' := 178) rfl (hb hby at_164) rfl (teq hc164_29).1 (by decide) (by decide) ?_
          exact k_
        exact own_s10 l Z a0 hw p1 p2 p3 p4 p5 p6 dc kd ca bxc el y1 rr y3 y4 y5 y6 b7 nr b9 wk_8 sl_8 al_8 kw_8 vr_19 h0 n0 Z0 X19 hx hZ hby hml hown hret hlk hh rfl N19 K19 O19 (by decide) (by decide) (zc2.keep Kc19) (zc3.keep Kc19 (ninS nc28 (ninS nc29 nin0))) (zc4.keep Kc19 (ninS nc28 (ninS nc29 nin0))) (zc5.keep Kc19 (ninS nc28 (ninS nc29 nin0))) (zc6.keep Kc19 (ninS nc28 (ninS nc29 nin0))) r19_0 gc15 gc16 gc17 gc18 nc28 hbx (own_ib0 hbr hbn hbq) (own_ib1 hbr hbn hbq hnr) (own_ib0 hbr hbn hbp) (own_ib1 hbr hbn hbp hnr) (by rw [own_ix0 hbr hbn hbp]; exact own_dd w19_2 hbr) (fun ne => by rw [own_ix0 hbr hbn hbq]; exact own_alb (own_brem w19_2 hbr hbp.1 hbq.1 (own_ne32 ne) (own_bpre hpre hbr hbn hbq hnr hns)) hbr)
      · refine own_go (A := T19.setTop (mkF m 171 #[.val (.int p1), .val (.int p2), .val (.int p3), .val (.int p4), .val (.int p5), .val (.int p6), .val (.int y1), .val (.int rr), .val (.int y3), .val (.int y4), .val (.int y5), .val (.int y6), .val (.ref b7), .val (.int nr), .val (.ref b9), .val (.int (1 : Int32)), .val (.int (0 : Int32)), .unset, .unset] [(.int y5), (.ref b7)])) (fun t_ k_ => ?_) ?_
        · show Steps p.tables e below (T19.setTop (mkF m 164 #[.val (.int p1), .val (.int p2), .val (.int p3), .val (.int p4), .val (.int p5), .val (.int p6), .val (.int y1), .val (.int rr), .val (.int y3), .val (.int y4), .val (.int y5), .val (.int y6), .val (.ref b7), .val (.int nr), .val (.ref b9), .val (.int (1 : Int32)), .val (.int (0 : Int32)), .unset, .unset] [(.int y3), (.int y5)])) t_
          refine XS.icmpNo X19.here hx rfl (hb hby at_164) rfl (feq hc164_29).1 ?_
          refine XS.aload X19.here hx rfl (hb hby at_167) rfl rfl ?_
          refine XS.iload X19.here hx rfl (hb hby at_169) rfl ?_
          exact k_
        obtain ⟨cq41, kq41, q41a, q41b, q41c⟩ := isOf hZ rfl (zc2.keep Kc19)
        obtain ⟨_, _, ⟨T41, L41, k41, n41⟩, -, X41, ⟨Lc41, hQ41, l41, y41, z41⟩, st41⟩ := X19.virtualBack hx (y := own_y18) (z := own_y18) hown (mvT hZ (own_w hw 123 rfl)) (mvT hZ (own_w hw 124 rfl)) (notFace_of_selects (args := #[]) (mvT hZ (own_w hw 126 rfl))) (mvT hZ (own_w hw 126 rfl)) (mvT hZ (own_w hw 125 rfl)) (by decide) (backOf (W := 0) (rmRem l Z a0 hw [] b7 y5 y1 rr nr ns wk_8 kw_8 sl_8 ks_8 vr_19 ur_19 T19.heap n0 (Nat.le_trans Z0 K19.1) (zc2.keep Kc19) (zc6.keep Kc19 (ninS nc28 (ninS nc29 nin0))) (zc3.keep Kc19 (ninS nc28 (ninS nc29 nin0))) (zc4.keep Kc19 (ninS nc28 (ninS nc29 nin0))) r19_0 r19_1 gc17 gc19 nc27 nc28 nc29 hbn hbr hnr hns hbp2 w19_0 w19_1 hfc (own_brem w19_2 hbr hbp.1 hbp2.1 (own_ne32 hc164_29) (own_bpre hpre hbr hbn hbp2 hnr hns))) hZ (own_w hw 127 rfl) (own_w hw 3 rfl) (by decide) (by decide)) q41a q41c (g := (mkF m 171 #[.val (.int p1), .val (.int p2), .val (.int p3), .val (.int p4), .val (.int p5), .val (.int p6), .val (.int y1), .val (.int rr), .val (.int y3), .val (.int y4), .val (.int y5), .val (.int y6), .val (.ref b7), .val (.int nr), .val (.ref b9), .val (.int (1 : Int32)), .val (.int (0 : Int32)), .unset, .unset] [(.int y5), (.ref b7)])) rfl (by rw [hml]; rfl) (Steps.refl _) (argsL := [(.int y5)]) (rest := []) (lenOf pd_12 rfl) rfl (by show 2 * 0 + _ ≤ _; exact Nat.le_of_eq rfl) (hb hby at_171) (fun _ _ => ⟨rfl, rfl, (by decide : 8 + 1 ≤ _), (by decide : 65 + 4 ≤ _)⟩)
        dsimp only [Pt.U, Pt.locs, Pt.cells, Pt.slots] at X41 l41 y41 z41 st41 hQ41
        subst l41 y41 z41
        obtain ⟨rb_41, vr_41, ur_41, rfl, N41q, Kc41, r41_0, r41_1, w41_0, w41_1, w41_2⟩ := hQ41
        have N41 := Fr.app N19 N41q
        refine own_via st41 ?_
        have K41 : Keep h0 T41.heap [] := K19.trans Kc41 (allS (P := fun x => x ∈ _ ∨ _ ≤ x) (Or.inr gc18) (allS (P := fun x => x ∈ _ ∨ _ ≤ x) (Or.inr gc20) all0))
        have O41 := O19.keep Kc41 (allS (P := fun x => n0 ≤ x) gc17 (allS (P := fun x => n0 ≤ x) gc19 all0))
        refine own_go (A := T41.setTop (mkF m 178 #[.val (.int p1), .val (.int p2), .val (.int p3), .val (.int p4), .val (.int p5), .val (.int p6), .val (.int y1), .val (.int rr), .val (.int y3), .val (.int y4), .val (.int y5), .val (.int y6), .val (.ref b7), .val (.int nr), .val (.ref b9), .val (.int (1 : Int32)), .val (.int (1 : Int32)), .unset, .unset] [])) (fun t_ k_ => ?_) ?_
        · show Steps p.tables e below (T41.setTop (mkF m 174 #[.val (.int p1), .val (.int p2), .val (.int p3), .val (.int p4), .val (.int p5), .val (.int p6), .val (.int y1), .val (.int rr), .val (.int y3), .val (.int y4), .val (.int y5), .val (.int y6), .val (.ref b7), .val (.int nr), .val (.ref b9), .val (.int (1 : Int32)), .val (.int (0 : Int32)), .unset, .unset] [(.ref rb_41)])) t_
          refine XS.pop X41.here hx rfl (hb hby at_174) rfl rfl ?_
          refine XS.iconst X41.here hx rfl (hb hby at_175) ?_
          refine XS.istore X41.here hx rfl (hb hby at_176) rfl (l' := #[.val (.int p1), .val (.int p2), .val (.int p3), .val (.int p4), .val (.int p5), .val (.int p6), .val (.int y1), .val (.int rr), .val (.int y3), .val (.int y4), .val (.int y5), .val (.int y6), .val (.ref b7), .val (.int nr), .val (.ref b9), .val (.int (1 : Int32)), .val (.int (1 : Int32)), .unset, .unset]) rfl ?_
          exact k_
        exact own_s11 l Z a0 hw p1 p2 p3 p4 p5 p6 dc kd ca bxc el y1 rr y3 y4 y5 y6 b7 nr b9 wk_8 sl_8 al_8 kw_8 vr_41 h0 n0 Z0 X41 hx hZ hby hml hown hret hlk hh rfl N41 K41 O41 (by decide) (by decide) ((zc2.keep Kc19).keep Kc41) ((zc3.keep Kc19 (ninS nc28 (ninS nc29 nin0))).keep Kc41 (ninS nc28 (ninS nc29 nin0))) ((zc4.keep Kc19 (ninS nc28 (ninS nc29 nin0))).keep Kc41 (ninS nc28 (ninS nc29 nin0))) ((zc5.keep Kc19 (ninS nc28 (ninS nc29 nin0))).keep Kc41 (ninS nc28 (ninS nc29 nin0))) ((zc6.keep Kc19 (ninS nc28 (ninS nc29 nin0))).keep Kc41 (ninS nc28 (ninS nc29 nin0))) r41_0 gc15 gc16 gc17 gc18 nc28 hbx (own_ib0 hbr hbn hbq) (own_ib1 hbr hbn hbq hnr) (own_ib0 hbr hbn hbp) (own_ib1 hbr hbn hbp hnr) (by rw [own_ix0 hbr hbn hbp]; exact own_ddr w41_2 hbr hbp2.1 hbp.1 (fun e => own_ne32 hc164_29 e.symm) (own_dd w19_2 hbr)) (by rw [own_ix0 hbr hbn hbp2]; exact own_dd w41_2 hbr) (fun n1 n2 => by rw [own_ix0 hbr hbn hbq]; exact own_alb (own_brem w41_2 hbr hbp2.1 hbq.1 (own_ne32 n2) (own_brem w19_2 hbr hbp.1 hbq.1 (own_ne32 n1) (own_bpre hpre hbr hbn hbq hnr hns))) hbr)
    · refine own_go (A := T19.setTop (mkF m 178 #[.val (.int p1), .val (.int p2), .val (.int p3), .val (.int p4), .val (.int p5), .val (.int p6), .val (.int y1), .val (.int rr), .val (.int y3), .val (.int y4), .val (.int y5), .val (.int y6), .val (.ref b7), .val (.int nr), .val (.ref b9), .val (.int (1 : Int32)), .val (.int (0 : Int32)), .unset, .unset] [])) (fun t_ k_ => ?_) ?_
      · show Steps p.tables e below (T19.setTop (mkF m 157 #[.val (.int p1), .val (.int p2), .val (.int p3), .val (.int p4), .val (.int p5), .val (.int p6), .val (.int y1), .val (.int rr), .val (.int y3), .val (.int y4), .val (.int y5), .val (.int y6), .val (.ref b7), .val (.int nr), .val (.ref b9), .val (.int (1 : Int32)), .val (.int (0 : Int32)), .unset, .unset] [(.int (3 : Int32)), (.int y6)])) t_
        refine XS.icmpYes X19.here hx rfl (pc0 := 157) (pc' := 178) rfl (hb hby at_157) rfl (feq hc157_28).2 (by decide) (by decide) ?_
        exact k_
      exact own_s10 l Z a0 hw p1 p2 p3 p4 p5 p6 dc kd ca bxc el y1 rr y3 y4 y5 y6 b7 nr b9 wk_8 sl_8 al_8 kw_8 vr_19 h0 n0 Z0 X19 hx hZ hby hml hown hret hlk hh rfl N19 K19 O19 (by decide) (by decide) (zc2.keep Kc19) (zc3.keep Kc19 (ninS nc28 (ninS nc29 nin0))) (zc4.keep Kc19 (ninS nc28 (ninS nc29 nin0))) (zc5.keep Kc19 (ninS nc28 (ninS nc29 nin0))) (zc6.keep Kc19 (ninS nc28 (ninS nc29 nin0))) r19_0 gc15 gc16 gc17 gc18 nc28 hbx (own_ib0 hbr hbn hbq) (own_ib1 hbr hbn hbq hnr) (own_ib0 hbr hbn hbp) (own_ib1 hbr hbn hbp hnr) (by rw [own_ix0 hbr hbn hbp]; exact own_dd w19_2 hbr) (fun ne => by rw [own_ix0 hbr hbn hbq]; exact own_alb (own_brem w19_2 hbr hbp.1 hbq.1 (own_ne32 ne) (own_bpre hpre hbr hbn hbq hnr hns)) hbr)
set_option maxRecDepth 65536 in
set_option maxHeartbeats 40000000 in
theorem own_c107 (l : Launch) (Z : State) (a0 : Array Value) (hw : ∀ d ∈ tables_1, d.before a0 Z = true) (p1 : Int32) (p2 : Int32) (p3 : Int32) (p4 : Int32) (p5 : Int32) (p6 : Int32) (dc : Addr) (kd : ClassId) (ca : Addr) (bxc : Cell) (el : Addr) (y1 : Int32) (y3 : Int32) (y4 : Int32) (y5 : Int32) (y6 : Int32) (b7 : Addr) (b9 : Addr) (wk_8 : Addr) (sl_8 : Addr) (al_8 : Addr) (kw_8 : ClassId) (vw_8 : List Value) (ks_8 : ClassId) (vu_8 : List Value) (ed_8 : Addr) (kk_8 : ClassId) (k9 : ClassId) (rr : Int32) (nr : Int32) (ns : Int32) (szz : Int32) (mcc : Int32) (ee : List Value) (ls : List Value) (h0 : Heap) (n0 : Nat) (Z0 : n0 ≤ h0.size) {p : Program} {e : Env} {s : State} {m : MethodId} {below : List Frame} {meth : Method} {c : Code} {Tc : State} {Hc : Heap} {locsc : List Loc} (Xc : Stand p l e room_1 s m #[(.int p1), (.int p2), (.int p3), (.int p4), (.int p5), (.int p6)] below meth c Tc locsc 7 61) (hx : p.tables.exec = Jvm.exec) (hZ : Z.Warmed39 s.vm) (hby : c.code = code) (hml : c.maxLocals = 19) (hown : s.vm.findClass "com/example/kneiphof/kneiphof/AssignmentRunsPinLaw" = some m.cls) (hret : meth.sig.returnType = some .boolean) (hlk : meth.locks = false) (hh : s.heap = h0) (ec : Tc.heap = Hc) (Nc : Fr n0 locsc) (Kc0 : Keep h0 Hc []) (Oc : Old Z n0 Hc) (zc0 : Sta Z Z.heap "java/lang/Integer$IntegerCache" "high" "I" (.int (127 : Int32))) (zc1 : Sta Z Z.heap "java/lang/Integer$IntegerCache" "cache" "[Ljava/lang/Integer;" (.ref ca)) (zc2 : Exa Z Hc b7 "com/example/kneiphof/kneiphof/Assignment") (zc3 : Fld Z Hc b7 "com/example/kneiphof/kneiphof/Assignment" "workers" "[I" (.ref wk_8)) (zc4 : Fld Z Hc b7 "com/example/kneiphof/kneiphof/Assignment" "slots" "[I" (.ref sl_8)) (zc5 : Fld Z Hc b7 "com/example/kneiphof/kneiphof/Assignment" "spares" "Ljava/util/List;" (.ref al_8)) (zc6 : Fld Z Hc b7 "com/example/kneiphof/kneiphof/Assignment" "replicas" "I" (.int rr)) (zc7 : Arv Z Hc wk_8 kw_8 .int nr vw_8 (.int (0 : Int32))) (zc8 : Arv Z Hc sl_8 ks_8 .int ns vu_8 (.int (0 : Int32))) (zc9 : Exa Z Hc al_8 "java/util/ArrayList") (zc10 : Fld Z Hc al_8 "java/util/ArrayList" "elementData" "[Ljava/lang/Object;" (.ref ed_8)) (zc11 : Fld Z Hc al_8 "java/util/ArrayList" "size" "I" (.int szz)) (zc12 : Fld Z Hc al_8 "java/util/AbstractList" "modCount" "I" (.int mcc)) (zc13 : Arv Z Hc ed_8 kk_8 (.object "java/lang/Object") (10 : Int32) ee .null) (zc14 : Arv Z Hc b9 k9 .int (4 : Int32) ls (.int (0 : Int32))) (gc15 : n0 ≤ b7) (sc15 : h0.size ≤ b7) (gc16 : n0 ≤ wk_8) (sc16 : h0.size ≤ wk_8) (gc17 : n0 ≤ sl_8) (sc17 : h0.size ≤ sl_8) (gc18 : n0 ≤ al_8) (sc18 : h0.size ≤ al_8) (gc19 : n0 ≤ ed_8) (sc19 : h0.size ≤ ed_8) (gc20 : n0 ≤ b9) (sc20 : h0.size ≤ b9) (nc21 : wk_8 ≠ sl_8) (nc22 : b7 ≠ wk_8) (nc23 : b7 ≠ sl_8) (nc24 : al_8 ≠ ed_8) (nc25 : al_8 ≠ wk_8) (nc26 : al_8 ≠ sl_8) (nc27 : ed_8 ≠ wk_8) (nc28 : ed_8 ≠ sl_8) (nc29 : b7 ≠ al_8) (nc30 : b7 ≠ ed_8) (nc31 : b9 ≠ wk_8) (nc32 : b9 ≠ sl_8) (nc33 : b9 ≠ al_8) (nc34 : b9 ≠ ed_8) (oc35 : Ovr Z kk_8 "java/lang/Object") (hbx : Bxs Z ca bxc "java/lang/Integer" "I" (256 : Int32) own_bval) (hbn : 1 ≤ y1.toInt ∧ y1.toInt ≤ 4) (hbr : 1 ≤ rr.toInt ∧ rr.toInt ≤ 4) (hnr : nr.toInt = y1.toInt * rr.toInt) (hns : ns.toInt = y1.toInt * rr.toInt + rr.toInt) (hbp : 0 ≤ y3.toInt ∧ y3.toInt < y1.toInt) (hbq : 0 ≤ y4.toInt ∧ y4.toInt < y1.toInt) (hbp2 : 0 ≤ y5.toInt ∧ y5.toInt < y1.toInt) (hvl : vw_8.length = (nr).toNatClampNeg) (hul : vu_8.length = (ns).toNatClampNeg) (hpre : own_pre vw_8 nr.toInt) (hfc : Z.vm.findClass "[I" = some kw_8) (hls : own_spv ls nr.toInt) (hszz : szz.toInt = rr.toInt) (hel : ee.length = 10) (hsp : own_sp Z ee rr.toInt nr.toInt) :
    ∃ U_ o_, Steps p.tables e below (Tc.setTop (mkF m 107 #[.val (.int p1), .val (.int p2), .val (.int p3), .val (.int p4), .val (.int p5), .val (.int p6), .val (.int y1), .val (.int rr), .val (.int y3), .val (.int y4), .val (.int y5), .val (.int y6), .val (.ref b7), .val (.int nr), .val (.ref b9), .val (.int (0 : Int32)), .val (.int (0 : Int32)), .unset, .unset] [])) U_ ∧ U_.status = .running ∧ Ended U_ below o_ ∧ (∃ v_ L_, o_ = .returned v_ ∧ Q_rm0 Z p1 p2 p3 p4 p5 p6 dc kd ca bxc el h0 n0 v_ U_.heap L_ ∧ FrameEnd s o_ U_ L_ room_1.cells room_1.slots) := by
  refine own_go (A := Tc.setTop (mkF m 110 #[.val (.int p1), .val (.int p2), .val (.int p3), .val (.int p4), .val (.int p5), .val (.int p6), .val (.int y1), .val (.int rr), .val (.int y3), .val (.int y4), .val (.int y5), .val (.int y6), .val (.ref b7), .val (.int nr), .val (.ref b9), .val (.int (0 : Int32)), .val (.int (0 : Int32)), .unset, .unset] [(.int (1 : Int32)), (.int y6)])) (fun t_ k_ => ?_) ?_
  · show Steps p.tables e below (Tc.setTop (mkF m 107 #[.val (.int p1), .val (.int p2), .val (.int p3), .val (.int p4), .val (.int p5), .val (.int p6), .val (.int y1), .val (.int rr), .val (.int y3), .val (.int y4), .val (.int y5), .val (.int y6), .val (.ref b7), .val (.int nr), .val (.ref b9), .val (.int (0 : Int32)), .val (.int (0 : Int32)), .unset, .unset] [])) t_
    refine XS.iload Xc.here hx rfl (hb hby at_107) rfl ?_
    refine XS.iconst Xc.here hx rfl (hb hby at_109) ?_
    exact k_
  by_cases hc110_18 : y6 = (1 : Int32)
  · refine own_go (A := Tc.setTop (mkF m 125 #[.val (.int p1), .val (.int p2), .val (.int p3), .val (.int p4), .val (.int p5), .val (.int p6), .val (.int y1), .val (.int rr), .val (.int y3), .val (.int y4), .val (.int y5), .val (.int y6), .val (.ref b7), .val (.int nr), .val (.ref b9), .val (.int (0 : Int32)), .val (.int (0 : Int32)), .unset, .unset] [])) (fun t_ k_ => ?_) ?_
    · show Steps p.tables e below (Tc.setTop (mkF m 110 #[.val (.int p1), .val (.int p2), .val (.int p3), .val (.int p4), .val (.int p5), .val (.int p6), .val (.int y1), .val (.int rr), .val (.int y3), .val (.int y4), .val (.int y5), .val (.int y6), .val (.ref b7), .val (.int nr), .val (.ref b9), .val (.int (0 : Int32)), .val (.int (0 : Int32)), .unset, .unset] [(.int (1 : Int32)), (.int y6)])) t_
      refine XS.icmpYes Xc.here hx rfl (pc0 := 110) (pc' := 125) rfl (hb hby at_110) rfl (teq hc110_18).1 (by decide) (by decide) ?_
      exact k_
    exact own_c125 l Z a0 hw p1 p2 p3 p4 p5 p6 dc kd ca bxc el y1 rr y3 y4 y5 y6 b7 nr b9 wk_8 sl_8 al_8 kw_8 vw_8 ks_8 ns vu_8 ed_8 szz mcc kk_8 ee k9 ls h0 n0 Z0 Xc hx hZ hby hml hown hret hlk hh ec Nc Kc0 Oc zc0 zc1 zc2 zc3 zc4 zc5 zc6 zc7 zc8 zc9 zc10 zc11 zc12 zc13 zc14 gc15 sc15 gc16 sc16 gc17 sc17 gc18 sc18 gc19 sc19 gc20 sc20 nc21 nc22 nc23 nc24 nc25 nc26 nc27 nc28 nc29 nc30 nc31 nc32 nc33 nc34 oc35 hbx hbn hbr hnr hns hbp hbq hbp2 hvl hul hpre hfc hls hszz hel hsp
  · refine own_go (A := Tc.setTop (mkF m 116 #[.val (.int p1), .val (.int p2), .val (.int p3), .val (.int p4), .val (.int p5), .val (.int p6), .val (.int y1), .val (.int rr), .val (.int y3), .val (.int y4), .val (.int y5), .val (.int y6), .val (.ref b7), .val (.int nr), .val (.ref b9), .val (.int (0 : Int32)), .val (.int (0 : Int32)), .unset, .unset] [(.int (2 : Int32)), (.int y6)])) (fun t_ k_ => ?_) ?_
    · show Steps p.tables e below (Tc.setTop (mkF m 110 #[.val (.int p1), .val (.int p2), .val (.int p3), .val (.int p4), .val (.int p5), .val (.int p6), .val (.int y1), .val (.int rr), .val (.int y3), .val (.int y4), .val (.int y5), .val (.int y6), .val (.ref b7), .val (.int nr), .val (.ref b9), .val (.int (0 : Int32)), .val (.int (0 : Int32)), .unset, .unset] [(.int (1 : Int32)), (.int y6)])) t_
      refine XS.icmpNo Xc.here hx rfl (hb hby at_110) rfl (feq hc110_18).1 ?_
      refine XS.iload Xc.here hx rfl (hb hby at_113) rfl ?_
      refine XS.iconst Xc.here hx rfl (hb hby at_115) ?_
      exact k_
    by_cases hc116_59 : y6 = (2 : Int32)
    · refine own_go (A := Tc.setTop (mkF m 125 #[.val (.int p1), .val (.int p2), .val (.int p3), .val (.int p4), .val (.int p5), .val (.int p6), .val (.int y1), .val (.int rr), .val (.int y3), .val (.int y4), .val (.int y5), .val (.int y6), .val (.ref b7), .val (.int nr), .val (.ref b9), .val (.int (0 : Int32)), .val (.int (0 : Int32)), .unset, .unset] [])) (fun t_ k_ => ?_) ?_
      · show Steps p.tables e below (Tc.setTop (mkF m 116 #[.val (.int p1), .val (.int p2), .val (.int p3), .val (.int p4), .val (.int p5), .val (.int p6), .val (.int y1), .val (.int rr), .val (.int y3), .val (.int y4), .val (.int y5), .val (.int y6), .val (.ref b7), .val (.int nr), .val (.ref b9), .val (.int (0 : Int32)), .val (.int (0 : Int32)), .unset, .unset] [(.int (2 : Int32)), (.int y6)])) t_
        refine XS.icmpYes Xc.here hx rfl (pc0 := 116) (pc' := 125) rfl (hb hby at_116) rfl (teq hc116_59).1 (by decide) (by decide) ?_
        exact k_
      exact own_c125 l Z a0 hw p1 p2 p3 p4 p5 p6 dc kd ca bxc el y1 rr y3 y4 y5 y6 b7 nr b9 wk_8 sl_8 al_8 kw_8 vw_8 ks_8 ns vu_8 ed_8 szz mcc kk_8 ee k9 ls h0 n0 Z0 Xc hx hZ hby hml hown hret hlk hh ec Nc Kc0 Oc zc0 zc1 zc2 zc3 zc4 zc5 zc6 zc7 zc8 zc9 zc10 zc11 zc12 zc13 zc14 gc15 sc15 gc16 sc16 gc17 sc17 gc18 sc18 gc19 sc19 gc20 sc20 nc21 nc22 nc23 nc24 nc25 nc26 nc27 nc28 nc29 nc30 nc31 nc32 nc33 nc34 oc35 hbx hbn hbr hnr hns hbp hbq hbp2 hvl hul hpre hfc hls hszz hel hsp
    · refine own_go (A := Tc.setTop (mkF m 122 #[.val (.int p1), .val (.int p2), .val (.int p3), .val (.int p4), .val (.int p5), .val (.int p6), .val (.int y1), .val (.int rr), .val (.int y3), .val (.int y4), .val (.int y5), .val (.int y6), .val (.ref b7), .val (.int nr), .val (.ref b9), .val (.int (0 : Int32)), .val (.int (0 : Int32)), .unset, .unset] [(.int (3 : Int32)), (.int y6)])) (fun t_ k_ => ?_) ?_
      · show Steps p.tables e below (Tc.setTop (mkF m 116 #[.val (.int p1), .val (.int p2), .val (.int p3), .val (.int p4), .val (.int p5), .val (.int p6), .val (.int y1), .val (.int rr), .val (.int y3), .val (.int y4), .val (.int y5), .val (.int y6), .val (.ref b7), .val (.int nr), .val (.ref b9), .val (.int (0 : Int32)), .val (.int (0 : Int32)), .unset, .unset] [(.int (2 : Int32)), (.int y6)])) t_
        refine XS.icmpNo Xc.here hx rfl (hb hby at_116) rfl (feq hc116_59).1 ?_
        refine XS.iload Xc.here hx rfl (hb hby at_119) rfl ?_
        refine XS.iconst Xc.here hx rfl (hb hby at_121) ?_
        exact k_
      by_cases hc122_60 : y6 = (3 : Int32)
      · refine own_go (A := Tc.setTop (mkF m 125 #[.val (.int p1), .val (.int p2), .val (.int p3), .val (.int p4), .val (.int p5), .val (.int p6), .val (.int y1), .val (.int rr), .val (.int y3), .val (.int y4), .val (.int y5), .val (.int y6), .val (.ref b7), .val (.int nr), .val (.ref b9), .val (.int (0 : Int32)), .val (.int (0 : Int32)), .unset, .unset] [])) (fun t_ k_ => ?_) ?_
        · show Steps p.tables e below (Tc.setTop (mkF m 122 #[.val (.int p1), .val (.int p2), .val (.int p3), .val (.int p4), .val (.int p5), .val (.int p6), .val (.int y1), .val (.int rr), .val (.int y3), .val (.int y4), .val (.int y5), .val (.int y6), .val (.ref b7), .val (.int nr), .val (.ref b9), .val (.int (0 : Int32)), .val (.int (0 : Int32)), .unset, .unset] [(.int (3 : Int32)), (.int y6)])) t_
          refine XS.icmpNo Xc.here hx rfl (hb hby at_122) rfl (teq hc122_60).2 ?_
          exact k_
        exact own_c125 l Z a0 hw p1 p2 p3 p4 p5 p6 dc kd ca bxc el y1 rr y3 y4 y5 y6 b7 nr b9 wk_8 sl_8 al_8 kw_8 vw_8 ks_8 ns vu_8 ed_8 szz mcc kk_8 ee k9 ls h0 n0 Z0 Xc hx hZ hby hml hown hret hlk hh ec Nc Kc0 Oc zc0 zc1 zc2 zc3 zc4 zc5 zc6 zc7 zc8 zc9 zc10 zc11 zc12 zc13 zc14 gc15 sc15 gc16 sc16 gc17 sc17 gc18 sc18 gc19 sc19 gc20 sc20 nc21 nc22 nc23 nc24 nc25 nc26 nc27 nc28 nc29 nc30 nc31 nc32 nc33 nc34 oc35 hbx hbn hbr hnr hns hbp hbq hbp2 hvl hul hpre hfc hls hszz hel hsp
      · refine own_go (A := Tc.setTop (mkF m 178 #[.val (.int p1), .val (.int p2), .val (.int p3), .val (.int p4), .val (.int p5), .val (.int p6), .val (.int y1), .val (.int rr), .val (.int y3), .val (.int y4), .val (.int y5), .val (.int y6), .val (.ref b7), .val (.int nr), .val (.ref b9), .val (.int (0 : Int32)), .val (.int (0 : Int32)), .unset, .unset] [])) (fun t_ k_ => ?_) ?_
        · show Steps p.tables e below (Tc.setTop (mkF m 122 #[.val (.int p1), .val (.int p2), .val (.int p3), .val (.int p4), .val (.int p5), .val (.int p6), .val (.int y1), .val (.int rr), .val (.int y3), .val (.int y4), .val (.int y5), .val (.int y6), .val (.ref b7), .val (.int nr), .val (.ref b9), .val (.int (0 : Int32)), .val (.int (0 : Int32)), .unset, .unset] [(.int (3 : Int32)), (.int y6)])) t_
          refine XS.icmpYes Xc.here hx rfl (pc0 := 122) (pc' := 136) rfl (hb hby at_122) rfl (feq hc122_60).2 (by decide) (by decide) ?_
          refine XS.iload Xc.here hx rfl (hb hby at_136) rfl ?_
          refine XS.iconst Xc.here hx rfl (hb hby at_138) ?_
          refine XS.icmpYes Xc.here hx rfl (pc0 := 139) (pc' := 154) rfl (hb hby at_139) rfl (feq hc116_59).2 (by decide) (by decide) ?_
          show Steps p.tables e below (Tc.setTop (mkF m 154 #[.val (.int p1), .val (.int p2), .val (.int p3), .val (.int p4), .val (.int p5), .val (.int p6), .val (.int y1), .val (.int rr), .val (.int y3), .val (.int y4), .val (.int y5), .val (.int y6), .val (.ref b7), .val (.int nr), .val (.ref b9), .val (.int (0 : Int32)), .val (.int (0 : Int32)), .unset, .unset] [])) t_
          refine XS.iload Xc.here hx rfl (hb hby at_154) rfl ?_
          refine XS.iconst Xc.here hx rfl (hb hby at_156) ?_
          refine XS.icmpYes Xc.here hx rfl (pc0 := 157) (pc' := 178) rfl (hb hby at_157) rfl (feq hc122_60).2 (by decide) (by decide) ?_
          exact k_
        exact own_s00 l Z a0 hw p1 p2 p3 p4 p5 p6 dc kd ca bxc el y1 rr y3 y4 y5 y6 b7 nr b9 wk_8 sl_8 al_8 kw_8 vw_8 h0 n0 Z0 Xc hx hZ hby hml hown hret hlk hh ec Nc Kc0 Oc (by decide) (by decide) zc2 zc3 zc4 zc5 zc6 zc7 gc15 sc15 gc16 sc16 nc22 hbx (own_ib0 hbr hbn hbq) (own_ib1 hbr hbn hbq hnr) (own_ib0 hbr hbn hbp) (own_ib1 hbr hbn hbp hnr) (by rw [own_ix0 hbr hbn hbq]; exact own_alb (own_bpre hpre hbr hbn hbq hnr hns) hbr) (by rw [own_ix0 hbr hbn hbp]; exact own_alb (own_bpre hpre hbr hbn hbp hnr hns) hbr)
theorem ef_rm0 (m : MethodId) (p1 : Int32) (p2 : Int32) (p3 : Int32) (p4 : Int32) (p5 : Int32) (p6 : Int32) : entryFrame m #[(.int p1), (.int p2), (.int p3), (.int p4), (.int p5), (.int p6)] maxLocals = mkF m 0 #[.val (.int p1), .val (.int p2), .val (.int p3), .val (.int p4), .val (.int p5), .val (.int p6), .unset, .unset, .unset, .unset, .unset, .unset, .unset, .unset, .unset, .unset, .unset, .unset, .unset] [] := by first | (simp [entryFrame, mkF, argsToLocals, Value.category, maxLocals]; done) | rfl
theorem pn_8 : plainName "com/example/kneiphof/kneiphof/AssignmentRunsPinLaw" = true := by first | (simp [plainName, overriddenIn]; done) | decide +kernel
set_option maxRecDepth 65536 in
set_option maxHeartbeats 40000000 in
theorem rm0 (l : Launch) (Z : State) (a0 : Array Value) (hw : ∀ d ∈ tables_1, d.before a0 Z = true) (ws : List Jvm.Cond) (p1 : Int32) (p2 : Int32) (p3 : Int32) (p4 : Int32) (p5 : Int32) (p6 : Int32) (dc : Addr) (kd : ClassId) (ca : Addr) (bxc : Cell) (el : Addr) (h0 : Heap) (n0 : Nat) (Z0 : n0 ≤ h0.size) (O0 : Old Z n0 h0) (u1 : Sta Z Z.heap "java/util/ArrayList" "DEFAULTCAPACITY_EMPTY_ELEMENTDATA" "[Ljava/lang/Object;" (.ref dc)) (u2 : Arv Z Z.heap dc kd (.object "java/lang/Object") (0 : Int32) [] .null) (u3 : Sta Z Z.heap "java/lang/Integer$IntegerCache" "high" "I" (.int (127 : Int32))) (u4 : Sta Z Z.heap "java/lang/Integer$IntegerCache" "cache" "[Ljava/lang/Integer;" (.ref ca)) (hbx : Bxs Z ca bxc "java/lang/Integer" "I" (256 : Int32) own_bval) (u6 : Sta Z Z.heap "java/util/ImmutableCollections" "EMPTY_LIST" "Ljava/util/ImmutableCollections$ListN;" (.ref el)) :
    MetFree l x (head1 (Jvm.Cond.code x code maxLocals ret :: ws) room_1) (fun a_ U_ => a_ = #[(.int p1), (.int p2), (.int p3), (.int p4), (.int p5), (.int p6)] ∧ Z.Warmed39 U_.vm ∧ U_.heap = h0) (fun _ _ _ _ _ => True) (fun _ U_ o_ U2_ => ∃ v_ L_, o_ = .returned v_ ∧ Q_rm0 Z p1 p2 p3 p4 p5 p6 dc kd ca bxc el h0 n0 v_ U2_.heap L_ ∧ FrameEnd U_ o_ U2_ L_ room_1.cells room_1.slots) := by
  refine MetFree.of_bodySF (plainFor_of_name pn_8) hisR ?_
  intro p e s m args below meth c s₁ Bd hml0 hP hK
  obtain ⟨rfl, hZ, hh⟩ := hP
  have hx := Bd.exec
  have hby := Bd.bytes
  have hml : c.maxLocals = 19 := hml0
  have hown : s.vm.findClass "com/example/kneiphof/kneiphof/AssignmentRunsPinLaw" = some m.cls := findClass_of_methodNamed Bd.named
  have hnm := (name_of_methodNamed Bd.named Bd.method).1
  have X0 : Stand p l e room_1 s m #[(.int p1), (.int p2), (.int p3), (.int p4), (.int p5), (.int p6)] below meth c s₁ [] 0 0 := Stand.of_body Bd
  have e0 : s₁.heap = h0 := by rw [← hh, Bd.state]; rfl
  have N0 := Fr.nil n0
  refine own_go (A := s₁.setTop (mkF m 0 #[.val (.int p1), .val (.int p2), .val (.int p3), .val (.int p4), .val (.int p5), .val (.int p6), .unset, .unset, .unset, .unset, .unset, .unset, .unset, .unset, .unset, .unset, .unset, .unset, .unset] [])) (fun t_ k_ => castTop (ef_rm0 m p1 p2 p3 p4 p5 p6) k_) ?_
  refine own_go (A := s₁.setTop (mkF m 5 #[.val (.int p1), .val (.int p2), .val (.int p3), .val (.int p4), .val (.int p5), .val (.int p6), .unset, .unset, .unset, .unset, .unset, .unset, .unset, .unset, .unset, .unset, .unset, .unset, .unset] [(.int ((1 : Int32) + (p1 &&& (3 : Int32))))])) (fun t_ k_ => ?_) ?_
  · show Steps p.tables e below (s₁.setTop (mkF m 0 #[.val (.int p1), .val (.int p2), .val (.int p3), .val (.int p4), .val (.int p5), .val (.int p6), .unset, .unset, .unset, .unset, .unset, .unset, .unset, .unset, .unset, .unset, .unset, .unset, .unset] [])) t_
    refine XS.iconst X0.here hx rfl (hb hby at_0) ?_
    refine XS.iloadN X0.here hx rfl (hb hby at_1) rfl ?_
    refine XS.iconst X0.here hx rfl (hb hby at_2) ?_
    refine XS.iand X0.here hx rfl (hb hby at_3) rfl ?_
    show Steps p.tables e below (s₁.setTop (mkF m 4 #[.val (.int p1), .val (.int p2), .val (.int p3), .val (.int p4), .val (.int p5), .val (.int p6), .unset, .unset, .unset, .unset, .unset, .unset, .unset, .unset, .unset, .unset, .unset, .unset, .unset] [(.int (p1 &&& (3 : Int32))), (.int (1 : Int32))])) t_
    refine XS.iadd X0.here hx rfl (hb hby at_4) rfl ?_
    exact k_
  obtain ⟨y1, hqy1⟩ : ∃ z : Int32, z = ((1 : Int32) + (p1 &&& (3 : Int32))) := ⟨_, rfl⟩
  rw [← hqy1]
  have hbn : 1 ≤ y1.toInt ∧ y1.toInt ≤ 4 := by rw [hqy1]; exact own_n4 _
  have hnz : ¬ (y1 = (0 : Int32)) := own_nz hbn
  refine own_go (A := s₁.setTop (mkF m 12 #[.val (.int p1), .val (.int p2), .val (.int p3), .val (.int p4), .val (.int p5), .val (.int p6), .val (.int y1), .unset, .unset, .unset, .unset, .unset, .unset, .unset, .unset, .unset, .unset, .unset, .unset] [(.int ((1 : Int32) + (p2 &&& (3 : Int32))))])) (fun t_ k_ => ?_) ?_
  · show Steps p.tables e below (s₁.setTop (mkF m 5 #[.val (.int p1), .val (.int p2), .val (.int p3), .val (.int p4), .val (.int p5), .val (.int p6), .unset, .unset, .unset, .unset, .unset, .unset, .unset, .unset, .unset, .unset, .unset, .unset, .unset] [(.int y1)])) t_
    refine XS.istore X0.here hx rfl (hb hby at_5) rfl (l' := #[.val (.int p1), .val (.int p2), .val (.int p3), .val (.int p4), .val (.int p5), .val (.int p6), .val (.int y1), .unset, .unset, .unset, .unset, .unset, .unset, .unset, .unset, .unset, .unset, .unset, .unset]) rfl ?_
    refine XS.iconst X0.here hx rfl (hb hby at_7) ?_
    refine XS.iloadN X0.here hx rfl (hb hby at_8) rfl ?_
    refine XS.iconst X0.here hx rfl (hb hby at_9) ?_
    show Steps p.tables e below (s₁.setTop (mkF m 10 #[.val (.int p1), .val (.int p2), .val (.int p3), .val (.int p4), .val (.int p5), .val (.int p6), .val (.int y1), .unset, .unset, .unset, .unset, .unset, .unset, .unset, .unset, .unset, .unset, .unset, .unset] [(.int (3 : Int32)), (.int p2), (.int (1 : Int32))])) t_
    refine XS.iand X0.here hx rfl (hb hby at_10) rfl ?_
    refine XS.iadd X0.here hx rfl (hb hby at_11) rfl ?_
    exact k_
  obtain ⟨y2, hqy2⟩ : ∃ z : Int32, z = ((1 : Int32) + (p2 &&& (3 : Int32))) := ⟨_, rfl⟩
  rw [← hqy2]
  have hbr : 1 ≤ y2.toInt ∧ y2.toInt ≤ 4 := by rw [hqy2]; exact own_n4 _
  refine own_go (A := s₁.setTop (mkF m 21 #[.val (.int p1), .val (.int p2), .val (.int p3), .val (.int p4), .val (.int p5), .val (.int p6), .val (.int y1), .val (.int y2), .unset, .unset, .unset, .unset, .unset, .unset, .unset, .unset, .unset, .unset, .unset] [(.int ((p3 &&& (2147483647 : Int32)) % y1))])) (fun t_ k_ => ?_) ?_
  · show Steps p.tables e below (s₁.setTop (mkF m 12 #[.val (.int p1), .val (.int p2), .val (.int p3), .val (.int p4), .val (.int p5), .val (.int p6), .val (.int y1), .unset, .unset, .unset, .unset, .unset, .unset, .unset, .unset, .unset, .unset, .unset, .unset] [(.int y2)])) t_
    refine XS.istore X0.here hx rfl (hb hby at_12) rfl (l' := #[.val (.int p1), .val (.int p2), .val (.int p3), .val (.int p4), .val (.int p5), .val (.int p6), .val (.int y1), .val (.int y2), .unset, .unset, .unset, .unset, .unset, .unset, .unset, .unset, .unset, .unset, .unset]) rfl ?_
    refine XS.iloadN X0.here hx rfl (hb hby at_14) rfl ?_
    refine Jvm.Stand.ldcI X0 hx hown (mvT hZ (own_w hw 0 rfl)) (g := (mkF m 15 #[.val (.int p1), .val (.int p2), .val (.int p3), .val (.int p4), .val (.int p5), .val (.int p6), .val (.int y1), .val (.int y2), .unset, .unset, .unset, .unset, .unset, .unset, .unset, .unset, .unset, .unset, .unset] [(.int p3)])) rfl (hb hby at_15) ?_
    refine XS.iand X0.here hx rfl (hb hby at_17) rfl ?_
    show Steps p.tables e below (s₁.setTop (mkF m 18 #[.val (.int p1), .val (.int p2), .val (.int p3), .val (.int p4), .val (.int p5), .val (.int p6), .val (.int y1), .val (.int y2), .unset, .unset, .unset, .unset, .unset, .unset, .unset, .unset, .unset, .unset, .unset] [(.int (p3 &&& (2147483647 : Int32)))])) t_
    refine XS.iload X0.here hx rfl (hb hby at_18) rfl ?_
    refine iremM (g := (mkF m 20 #[.val (.int p1), .val (.int p2), .val (.int p3), .val (.int p4), .val (.int p5), .val (.int p6), .val (.int y1), .val (.int y2), .unset, .unset, .unset, .unset, .unset, .unset, .unset, .unset, .unset, .unset, .unset] [(.int y1), (.int (p3 &&& (2147483647 : Int32)))])) X0 hx rfl (hb hby at_20) rfl hnz ?_
    exact k_
  obtain ⟨y3, hqy3⟩ : ∃ z : Int32, z = ((p3 &&& (2147483647 : Int32)) % y1) := ⟨_, rfl⟩
  rw [← hqy3]
  have hbp : 0 ≤ y3.toInt ∧ y3.toInt < y1.toInt := by rw [hqy3]; exact own_md _ hbn
  refine own_go (A := s₁.setTop (mkF m 30 #[.val (.int p1), .val (.int p2), .val (.int p3), .val (.int p4), .val (.int p5), .val (.int p6), .val (.int y1), .val (.int y2), .val (.int y3), .unset, .unset, .unset, .unset, .unset, .unset, .unset, .unset, .unset, .unset] [(.int ((p4 &&& (2147483647 : Int32)) % y1))])) (fun t_ k_ => ?_) ?_
  · show Steps p.tables e below (s₁.setTop (mkF m 21 #[.val (.int p1), .val (.int p2), .val (.int p3), .val (.int p4), .val (.int p5), .val (.int p6), .val (.int y1), .val (.int y2), .unset, .unset, .unset, .unset, .unset, .unset, .unset, .unset, .unset, .unset, .unset] [(.int y3)])) t_
    refine XS.istore X0.here hx rfl (hb hby at_21) rfl (l' := #[.val (.int p1), .val (.int p2), .val (.int p3), .val (.int p4), .val (.int p5), .val (.int p6), .val (.int y1), .val (.int y2), .val (.int y3), .unset, .unset, .unset, .unset, .unset, .unset, .unset, .unset, .unset, .unset]) rfl ?_
    refine XS.iloadN X0.here hx rfl (hb hby at_23) rfl ?_
    refine Jvm.Stand.ldcI X0 hx hown (mvT hZ (own_w hw 0 rfl)) (g := (mkF m 24 #[.val (.int p1), .val (.int p2), .val (.int p3), .val (.int p4), .val (.int p5), .val (.int p6), .val (.int y1), .val (.int y2), .val (.int y3), .unset, .unset, .unset, .unset, .unset, .unset, .unset, .unset, .unset, .unset] [(.int p4)])) rfl (hb hby at_24) ?_
    refine XS.iand X0.here hx rfl (hb hby at_26) rfl ?_
    show Steps p.tables e below (s₁.setTop (mkF m 27 #[.val (.int p1), .val (.int p2), .val (.int p3), .val (.int p4), .val (.int p5), .val (.int p6), .val (.int y1), .val (.int y2), .val (.int y3), .unset, .unset, .unset, .unset, .unset, .unset, .unset, .unset, .unset, .unset] [(.int (p4 &&& (2147483647 : Int32)))])) t_
    refine XS.iload X0.here hx rfl (hb hby at_27) rfl ?_
    refine iremM (g := (mkF m 29 #[.val (.int p1), .val (.int p2), .val (.int p3), .val (.int p4), .val (.int p5), .val (.int p6), .val (.int y1), .val (.int y2), .val (.int y3), .unset, .unset, .unset, .unset, .unset, .unset, .unset, .unset, .unset, .unset] [(.int y1), (.int (p4 &&& (2147483647 : Int32)))])) X0 hx rfl (hb hby at_29) rfl hnz ?_
    exact k_
  obtain ⟨y4, hqy4⟩ : ∃ z : Int32, z = ((p4 &&& (2147483647 : Int32)) % y1) := ⟨_, rfl⟩
  rw [← hqy4]
  have hbq : 0 ≤ y4.toInt ∧ y4.toInt < y1.toInt := by rw [hqy4]; exact own_md _ hbn
  refine own_go (A := s₁.setTop (mkF m 40 #[.val (.int p1), .val (.int p2), .val (.int p3), .val (.int p4), .val (.int p5), .val (.int p6), .val (.int y1), .val (.int y2), .val (.int y3), .val (.int y4), .unset, .unset, .unset, .unset, .unset, .unset, .unset, .unset, .unset] [(.int ((p6 &&& (2147483647 : Int32)) % y1))])) (fun t_ k_ => ?_) ?_
  · show Steps p.tables e below (s₁.setTop (mkF m 30 #[.val (.int p1), .val (.int p2), .val (.int p3), .val (.int p4), .val (.int p5), .val (.int p6), .val (.int y1), .val (.int y2), .val (.int y3), .unset, .unset, .unset, .unset, .unset, .unset, .unset, .unset, .unset, .unset] [(.int y4)])) t_
    refine XS.istore X0.here hx rfl (hb hby at_30) rfl (l' := #[.val (.int p1), .val (.int p2), .val (.int p3), .val (.int p4), .val (.int p5), .val (.int p6), .val (.int y1), .val (.int y2), .val (.int y3), .val (.int y4), .unset, .unset, .unset, .unset, .unset, .unset, .unset, .unset, .unset]) rfl ?_
    refine XS.iload X0.here hx rfl (hb hby at_32) rfl ?_
    refine Jvm.Stand.ldcI X0 hx hown (mvT hZ (own_w hw 0 rfl)) (g := (mkF m 34 #[.val (.int p1), .val (.int p2), .val (.int p3), .val (.int p4), .val (.int p5), .val (.int p6), .val (.int y1), .val (.int y2), .val (.int y3), .val (.int y4), .unset, .unset, .unset, .unset, .unset, .unset, .unset, .unset, .unset] [(.int p6)])) rfl (hb hby at_34) ?_
    refine XS.iand X0.here hx rfl (hb hby at_36) rfl ?_
    show Steps p.tables e below (s₁.setTop (mkF m 37 #[.val (.int p1), .val (.int p2), .val (.int p3), .val (.int p4), .val (.int p5), .val (.int p6), .val (.int y1), .val (.int y2), .val (.int y3), .val (.int y4), .unset, .unset, .unset, .unset, .unset, .unset, .unset, .unset, .unset] [(.int (p6 &&& (2147483647 : Int32)))])) t_
    refine XS.iload X0.here hx rfl (hb hby at_37) rfl ?_
    refine iremM (g := (mkF m 39 #[.val (.int p1), .val (.int p2), .val (.int p3), .val (.int p4), .val (.int p5), .val (.int p6), .val (.int y1), .val (.int y2), .val (.int y3), .val (.int y4), .unset, .unset, .unset, .unset, .unset, .unset, .unset, .unset, .unset] [(.int y1), (.int (p6 &&& (2147483647 : Int32)))])) X0 hx rfl (hb hby at_39) rfl hnz ?_
    exact k_
  obtain ⟨y5, hqy5⟩ : ∃ z : Int32, z = ((p6 &&& (2147483647 : Int32)) % y1) := ⟨_, rfl⟩
  rw [← hqy5]
  have hbp2 : 0 ≤ y5.toInt ∧ y5.toInt < y1.toInt := by rw [hqy5]; exact own_md _ hbn
  refine own_go (A := s₁.setTop (mkF m 46 #[.val (.int p1), .val (.int p2), .val (.int p3), .val (.int p4), .val (.int p5), .val (.int p6), .val (.int y1), .val (.int y2), .val (.int y3), .val (.int y4), .val (.int y5), .unset, .unset, .unset, .unset, .unset, .unset, .unset, .unset] [(.int (p5 &&& (3 : Int32)))])) (fun t_ k_ => ?_) ?_
  · show Steps p.tables e below (s₁.setTop (mkF m 40 #[.val (.int p1), .val (.int p2), .val (.int p3), .val (.int p4), .val (.int p5), .val (.int p6), .val (.int y1), .val (.int y2), .val (.int y3), .val (.int y4), .unset, .unset, .unset, .unset, .unset, .unset, .unset, .unset, .unset] [(.int y5)])) t_
    refine XS.istore X0.here hx rfl (hb hby at_40) rfl (l' := #[.val (.int p1), .val (.int p2), .val (.int p3), .val (.int p4), .val (.int p5), .val (.int p6), .val (.int y1), .val (.int y2), .val (.int y3), .val (.int y4), .val (.int y5), .unset, .unset, .unset, .unset, .unset, .unset, .unset, .unset]) rfl ?_
    refine XS.iload X0.here hx rfl (hb hby at_42) rfl ?_
    refine XS.iconst X0.here hx rfl (hb hby at_44) ?_
    refine XS.iand X0.here hx rfl (hb hby at_45) rfl ?_
    exact k_
  obtain ⟨y6, hqy6⟩ : ∃ z : Int32, z = (p5 &&& (3 : Int32)) := ⟨_, rfl⟩
  rw [← hqy6]
  refine own_go (A := s₁.setTop (mkF m 48 #[.val (.int p1), .val (.int p2), .val (.int p3), .val (.int p4), .val (.int p5), .val (.int p6), .val (.int y1), .val (.int y2), .val (.int y3), .val (.int y4), .val (.int y5), .val (.int y6), .unset, .unset, .unset, .unset, .unset, .unset, .unset] [])) (fun t_ k_ => ?_) ?_
  · show Steps p.tables e below (s₁.setTop (mkF m 46 #[.val (.int p1), .val (.int p2), .val (.int p3), .val (.int p4), .val (.int p5), .val (.int p6), .val (.int y1), .val (.int y2), .val (.int y3), .val (.int y4), .val (.int y5), .unset, .unset, .unset, .unset, .unset, .unset, .unset, .unset] [(.int y6)])) t_
    refine XS.istore X0.here hx rfl (hb hby at_46) rfl (l' := #[.val (.int p1), .val (.int p2), .val (.int p3), .val (.int p4), .val (.int p5), .val (.int p6), .val (.int y1), .val (.int y2), .val (.int y3), .val (.int y4), .val (.int y5), .val (.int y6), .unset, .unset, .unset, .unset, .unset, .unset, .unset]) rfl ?_
    exact k_
  obtain ⟨T7, h7, X7, e7, E7, A7, D7, -, st7⟩ := newO X0 hx hZ hown (own_w hw 1 rfl) (own_w hw 2 rfl) (own_w hw 3 rfl) e0 (g := (mkF m 48 #[.val (.int p1), .val (.int p2), .val (.int p3), .val (.int p4), .val (.int p5), .val (.int p6), .val (.int y1), .val (.int y2), .val (.int y3), .val (.int y4), .val (.int y5), .val (.int y6), .unset, .unset, .unset, .unset, .unset, .unset, .unset] [])) rfl (hb hby at_48) (by decide) (by decide)
  obtain ⟨b7, g7⟩ : ∃ z, z = h0.size := ⟨_, rfl⟩
  rw [← g7] at A7 D7 st7
  refine own_go st7 ?_
  have K7 : Keep h0 h7 [] := (Keep.refl h0 []).ext E7
  have O7 := O0.ext E7
  have F7_spares : Fld Z h7 b7 "com/example/kneiphof/kneiphof/Assignment" "spares" "Ljava/util/List;" .null := D7 (Or.inr (own_w hw 35 rfl)) (ty := (.object "java/util/List")) (by decide)
  have F7_partitions : Fld Z h7 b7 "com/example/kneiphof/kneiphof/Assignment" "partitions" "I" (.int (0 : Int32)) := D7 (Or.inr (own_w hw 37 rfl)) (ty := .int) (by decide)
  have F7_replicas : Fld Z h7 b7 "com/example/kneiphof/kneiphof/Assignment" "replicas" "I" (.int (0 : Int32)) := D7 (Or.inr (own_w hw 39 rfl)) (ty := .int) (by decide)
  have F7_workers : Fld Z h7 b7 "com/example/kneiphof/kneiphof/Assignment" "workers" "[I" .null := D7 (Or.inr (own_w hw 42 rfl)) (ty := (.array .int)) (by decide)
  have F7_slots : Fld Z h7 b7 "com/example/kneiphof/kneiphof/Assignment" "slots" "[I" .null := D7 (Or.inr (own_w hw 44 rfl)) (ty := (.array .int)) (by decide)
  have F7_partitioning : Fld Z h7 b7 "com/example/kneiphof/kneiphof/Assignment" "partitioning" "Lcom/example/kneiphof/kneiphof/Partitioning;" .null := D7 (Or.inl (own_w hw 112 rfl)) (ty := (.object "com/example/kneiphof/kneiphof/Partitioning")) (by decide)
  refine own_go (A := T7.setTop (mkF m 58 #[.val (.int p1), .val (.int p2), .val (.int p3), .val (.int p4), .val (.int p5), .val (.int p6), .val (.int y1), .val (.int y2), .val (.int y3), .val (.int y4), .val (.int y5), .val (.int y6), .unset, .unset, .unset, .unset, .unset, .unset, .unset] [(.int y2), (.int y2), (.int y1), (.ref b7), (.ref b7)])) (fun t_ k_ => ?_) ?_
  · show Steps p.tables e below (T7.setTop (mkF m 51 #[.val (.int p1), .val (.int p2), .val (.int p3), .val (.int p4), .val (.int p5), .val (.int p6), .val (.int y1), .val (.int y2), .val (.int y3), .val (.int y4), .val (.int y5), .val (.int y6), .unset, .unset, .unset, .unset, .unset, .unset, .unset] [(.ref b7)])) t_
    refine XS.dup X7.here hx rfl (hb hby at_51) rfl rfl ?_
    refine XS.iload X7.here hx rfl (hb hby at_52) rfl ?_
    refine XS.iload X7.here hx rfl (hb hby at_54) rfl ?_
    refine XS.iload X7.here hx rfl (hb hby at_56) rfl ?_
    exact k_
  rcases own_rs hbr with rfl | rfl | rfl | rfl
  · obtain ⟨_, _, ⟨T8, L8, k8, n8⟩, -, X8, ⟨Lc8, hQ8, l8, y8, z8⟩, st8⟩ := X7.specialBack hx (y := own_y14) rfl hown (mvT hZ (own_w hw 4 rfl)) (mvT hZ (own_w hw 5 rfl)) (mvT hZ (own_w hw 6 rfl)) (by decide) (backOf (W := 1) (rmIni1 l Z a0 hw [] b7 y1 dc kd ca bxc el h7 n0 (Nat.le_trans Z0 K7.1) O7 u1 u2 u3 u4 hbx u6 A7 F7_spares F7_partitions F7_replicas F7_workers F7_slots F7_partitioning (Nat.le_trans Z0 (Nat.le_of_eq g7.symm)) hbn) hZ (own_w hw 6 rfl) (own_w hw 3 rfl) (by decide) (by decide)) (g := (mkF m 58 #[.val (.int p1), .val (.int p2), .val (.int p3), .val (.int p4), .val (.int p5), .val (.int p6), .val (.int y1), .val (.int (1 : Int32)), .val (.int y3), .val (.int y4), .val (.int y5), .val (.int y6), .unset, .unset, .unset, .unset, .unset, .unset, .unset] [(.int (1 : Int32)), (.int (1 : Int32)), (.int y1), (.ref b7), (.ref b7)])) rfl (by rw [hml]; rfl) (Steps.refl _) (a := b7) (argsL := [(.int y1), (.int (1 : Int32)), (.int (1 : Int32))]) (rest := [(.ref b7)]) (lenOf pd_15 rfl) rfl (by show 2 * 0 + _ ≤ _; exact Nat.le_of_eq rfl) (hb hby at_58) (fun _ _ => ⟨rfl, e7, (by decide : 1 + 5 ≤ _), (by decide : 6 + 51 ≤ _)⟩)
    dsimp only [Pt.U, Pt.locs, Pt.cells, Pt.slots] at X8 l8 y8 z8 st8 hQ8
    subst l8 y8 z8
    obtain ⟨wk_8, kw_8, sl_8, ks_8, al_8, ed_8, kk_8, mc_8, vw_8, vu_8, x0__8, rfl, N8q, Kc8, r8_0, r8_1, r8_2, r8_3, r8_4, r8_5, r8_6, r8_7, r8_8, r8_9, r8_10, r8_11, r8_12, r8_13, r8_14, r8_15, r8_16, r8_17, r8_18, r8_19, r8_20, r8_21, r8_22, r8_23, w8_0, w8_1, w8_2, w8_3⟩ := hQ8
    have N8 := Fr.app N0 N8q
    refine own_via st8 ?_
    have K8 : Keep h0 T8.heap [] := K7.trans Kc8 (allS (P := fun x => x ∈ _ ∨ _ ≤ x) (Or.inr (Nat.le_of_eq g7.symm)) all0)
    have O8 := O7.keep Kc8 (allS (P := fun x => n0 ≤ x) (Nat.le_trans Z0 (Nat.le_of_eq g7.symm)) all0)
    refine own_go (A := T8.setTop (mkF m 71 #[.val (.int p1), .val (.int p2), .val (.int p3), .val (.int p4), .val (.int p5), .val (.int p6), .val (.int y1), .val (.int (1 : Int32)), .val (.int y3), .val (.int y4), .val (.int y5), .val (.int y6), .val (.ref b7), .val (.int (y1 * (1 : Int32))), .unset, .unset, .unset, .unset, .unset] [(.int (4 : Int32))])) (fun t_ k_ => ?_) ?_
    · show Steps p.tables e below (T8.setTop (mkF m 61 #[.val (.int p1), .val (.int p2), .val (.int p3), .val (.int p4), .val (.int p5), .val (.int p6), .val (.int y1), .val (.int (1 : Int32)), .val (.int y3), .val (.int y4), .val (.int y5), .val (.int y6), .unset, .unset, .unset, .unset, .unset, .unset, .unset] [(.ref b7)])) t_
      refine XS.astore X8.here hx rfl (hb hby at_61) rfl rfl (l' := #[.val (.int p1), .val (.int p2), .val (.int p3), .val (.int p4), .val (.int p5), .val (.int p6), .val (.int y1), .val (.int (1 : Int32)), .val (.int y3), .val (.int y4), .val (.int y5), .val (.int y6), .val (.ref b7), .unset, .unset, .unset, .unset, .unset, .unset]) rfl ?_
      refine XS.iload X8.here hx rfl (hb hby at_63) rfl ?_
      refine XS.iload X8.here hx rfl (hb hby at_65) rfl ?_
      refine XS.imul X8.here hx rfl (hb hby at_67) rfl ?_
      show Steps p.tables e below (T8.setTop (mkF m 68 #[.val (.int p1), .val (.int p2), .val (.int p3), .val (.int p4), .val (.int p5), .val (.int p6), .val (.int y1), .val (.int (1 : Int32)), .val (.int y3), .val (.int y4), .val (.int y5), .val (.int y6), .val (.ref b7), .unset, .unset, .unset, .unset, .unset, .unset] [(.int (y1 * (1 : Int32)))])) t_
      refine XS.istore X8.here hx rfl (hb hby at_68) rfl (l' := #[.val (.int p1), .val (.int p2), .val (.int p3), .val (.int p4), .val (.int p5), .val (.int p6), .val (.int y1), .val (.int (1 : Int32)), .val (.int y3), .val (.int y4), .val (.int y5), .val (.int y6), .val (.ref b7), .val (.int (y1 * (1 : Int32))), .unset, .unset, .unset, .unset, .unset]) rfl ?_
      refine XS.iconst X8.here hx rfl (hb hby at_70) ?_
      exact k_
    obtain ⟨T9, h9, k9, X9, e9, E9, A9, st9⟩ := newP X8 hx hZ (own_w hw 40 rfl) rfl (g := (mkF m 71 #[.val (.int p1), .val (.int p2), .val (.int p3), .val (.int p4), .val (.int p5), .val (.int p6), .val (.int y1), .val (.int (1 : Int32)), .val (.int y3), .val (.int y4), .val (.int y5), .val (.int y6), .val (.ref b7), .val (.int (y1 * (1 : Int32))), .unset, .unset, .unset, .unset, .unset] [(.int (4 : Int32))])) rfl (hb hby at_71) rfl (by decide) (cap := 4) (by decide) (by decide) (by decide) (by decide)
    obtain ⟨b9, g9⟩ : ∃ z, z = T8.heap.size := ⟨_, rfl⟩
    rw [← g9] at A9 st9
    refine own_go st9 ?_
    have K9 : Keep h0 h9 [] := K8.ext E9
    have O9 := O8.ext E9
    have B9 : Arv Z h9 b9 k9 .int (4 : Int32) [(.int (0 : Int32)), (.int (0 : Int32)), (.int (0 : Int32)), (.int (0 : Int32))] (.int (0 : Int32)) := (Arv.new A9 (by decide)).pad (pad_rep [] (.int (0 : Int32)) 4)
    refine own_go (A := T9.setTop (mkF m 77 #[.val (.int p1), .val (.int p2), .val (.int p3), .val (.int p4), .val (.int p5), .val (.int p6), .val (.int y1), .val (.int (1 : Int32)), .val (.int y3), .val (.int y4), .val (.int y5), .val (.int y6), .val (.ref b7), .val (.int (y1 * (1 : Int32))), .unset, .unset, .unset, .unset, .unset] [(.int (y1 * (1 : Int32))), (.int (0 : Int32)), (.ref b9), (.ref b9)])) (fun t_ k_ => ?_) ?_
    · show Steps p.tables e below (T9.setTop (mkF m 73 #[.val (.int p1), .val (.int p2), .val (.int p3), .val (.int p4), .val (.int p5), .val (.int p6), .val (.int y1), .val (.int (1 : Int32)), .val (.int y3), .val (.int y4), .val (.int y5), .val (.int y6), .val (.ref b7), .val (.int (y1 * (1 : Int32))), .unset, .unset, .unset, .unset, .unset] [(.ref b9)])) t_
      refine XS.dup X9.here hx rfl (hb hby at_73) rfl rfl ?_
      refine XS.iconst X9.here hx rfl (hb hby at_74) ?_
      refine XS.iload X9.here hx rfl (hb hby at_75) rfl ?_
      exact k_
    obtain ⟨cl10, Ar10, q10, S10, M10, H10, G10⟩ := id B9
    have hin10 : ¬ ((0 : Int32) < 0 ∨ cl10.slots.size ≤ ((0 : Int32)).toNatClampNeg) := inb_of S10 ⟨by decide, by decide⟩
    obtain ⟨T11, h11, X11, e11, W11, st11⟩ := stI X9 hx hZ e9 Ar10 (j := (0 : Int32)) hin10 (g := (mkF m 77 #[.val (.int p1), .val (.int p2), .val (.int p3), .val (.int p4), .val (.int p5), .val (.int p6), .val (.int y1), .val (.int (1 : Int32)), .val (.int y3), .val (.int y4), .val (.int y5), .val (.int y6), .val (.ref b7), .val (.int (y1 * (1 : Int32))), .unset, .unset, .unset, .unset, .unset] [(.int (y1 * (1 : Int32))), (.int (0 : Int32)), (.ref b9), (.ref b9)])) rfl rfl (hb hby at_77)
    have B11 : Arv Z h11 b9 k9 .int (4 : Int32) [(.int (y1 * (1 : Int32))), (.int (0 : Int32)), (.int (0 : Int32)), (.int (0 : Int32))] (.int (0 : Int32)) := Arv.set Ar10 q10 S10 M10 H10 G10 rfl W11 0 rfl (Nat.le_of_ble_eq_true rfl)
    refine own_go st11 ?_
    have K11 : Keep h0 h11 [] := K9.wr W11 (Or.inr (Nat.le_trans K8.1 (Nat.le_of_eq g9.symm)))
    have O11 := O9.wr W11 (Nat.le_trans Z0 (Nat.le_trans K8.1 (Nat.le_of_eq g9.symm)))
    have N11 := Fr.snoc X11 N8 (Nat.le_trans Z0 (Nat.le_trans K8.1 (Nat.le_of_eq g9.symm)))
    refine own_go (A := T11.setTop (mkF m 84 #[.val (.int p1), .val (.int p2), .val (.int p3), .val (.int p4), .val (.int p5), .val (.int p6), .val (.int y1), .val (.int (1 : Int32)), .val (.int y3), .val (.int y4), .val (.int y5), .val (.int y6), .val (.ref b7), .val (.int (y1 * (1 : Int32))), .unset, .unset, .unset, .unset, .unset] [(.int ((y1 * (1 : Int32)) + (1 : Int32))), (.int (1 : Int32)), (.ref b9), (.ref b9)])) (fun t_ k_ => ?_) ?_
    · show Steps p.tables e below (T11.setTop (mkF m 78 #[.val (.int p1), .val (.int p2), .val (.int p3), .val (.int p4), .val (.int p5), .val (.int p6), .val (.int y1), .val (.int (1 : Int32)), .val (.int y3), .val (.int y4), .val (.int y5), .val (.int y6), .val (.ref b7), .val (.int (y1 * (1 : Int32))), .unset, .unset, .unset, .unset, .unset] [(.ref b9)])) t_
      refine XS.dup X11.here hx rfl (hb hby at_78) rfl rfl ?_
      refine XS.iconst X11.here hx rfl (hb hby at_79) ?_
      refine XS.iload X11.here hx rfl (hb hby at_80) rfl ?_
      refine XS.iconst X11.here hx rfl (hb hby at_82) ?_
      show Steps p.tables e below (T11.setTop (mkF m 83 #[.val (.int p1), .val (.int p2), .val (.int p3), .val (.int p4), .val (.int p5), .val (.int p6), .val (.int y1), .val (.int (1 : Int32)), .val (.int y3), .val (.int y4), .val (.int y5), .val (.int y6), .val (.ref b7), .val (.int (y1 * (1 : Int32))), .unset, .unset, .unset, .unset, .unset] [(.int (1 : Int32)), (.int (y1 * (1 : Int32))), (.int (1 : Int32)), (.ref b9), (.ref b9)])) t_
      refine XS.iadd X11.here hx rfl (hb hby at_83) rfl ?_
      exact k_
    obtain ⟨cl12, Ar12, q12, S12, M12, H12, G12⟩ := id B11
    have hin12 : ¬ ((1 : Int32) < 0 ∨ cl12.slots.size ≤ ((1 : Int32)).toNatClampNeg) := inb_of S12 ⟨by decide, by decide⟩
    obtain ⟨T13, h13, X13, e13, W13, st13⟩ := stI X11 hx hZ e11 Ar12 (j := (1 : Int32)) hin12 (g := (mkF m 84 #[.val (.int p1), .val (.int p2), .val (.int p3), .val (.int p4), .val (.int p5), .val (.int p6), .val (.int y1), .val (.int (1 : Int32)), .val (.int y3), .val (.int y4), .val (.int y5), .val (.int y6), .val (.ref b7), .val (.int (y1 * (1 : Int32))), .unset, .unset, .unset, .unset, .unset] [(.int ((y1 * (1 : Int32)) + (1 : Int32))), (.int (1 : Int32)), (.ref b9), (.ref b9)])) rfl rfl (hb hby at_84)
    have B13 : Arv Z h13 b9 k9 .int (4 : Int32) [(.int (y1 * (1 : Int32))), (.int ((y1 * (1 : Int32)) + (1 : Int32))), (.int (0 : Int32)), (.int (0 : Int32))] (.int (0 : Int32)) := Arv.set Ar12 q12 S12 M12 H12 G12 rfl W13 1 rfl (Nat.le_of_ble_eq_true rfl)
    refine own_go st13 ?_
    have K13 : Keep h0 h13 [] := K11.wr W13 (Or.inr (Nat.le_trans K8.1 (Nat.le_of_eq g9.symm)))
    have O13 := O11.wr W13 (Nat.le_trans Z0 (Nat.le_trans K8.1 (Nat.le_of_eq g9.symm)))
    have N13 := Fr.snoc X13 N11 (Nat.le_trans Z0 (Nat.le_trans K8.1 (Nat.le_of_eq g9.symm)))
    refine own_go (A := T13.setTop (mkF m 91 #[.val (.int p1), .val (.int p2), .val (.int p3), .val (.int p4), .val (.int p5), .val (.int p6), .val (.int y1), .val (.int (1 : Int32)), .val (.int y3), .val (.int y4), .val (.int y5), .val (.int y6), .val (.ref b7), .val (.int (y1 * (1 : Int32))), .unset, .unset, .unset, .unset, .unset] [(.int ((y1 * (1 : Int32)) + (2 : Int32))), (.int (2 : Int32)), (.ref b9), (.ref b9)])) (fun t_ k_ => ?_) ?_
    · show Steps p.tables e below (T13.setTop (mkF m 85 #[.val (.int p1), .val (.int p2), .val (.int p3), .val (.int p4), .val (.int p5), .val (.int p6), .val (.int y1), .val (.int (1 : Int32)), .val (.int y3), .val (.int y4), .val (.int y5), .val (.int y6), .val (.ref b7), .val (.int (y1 * (1 : Int32))), .unset, .unset, .unset, .unset, .unset] [(.ref b9)])) t_
      refine XS.dup X13.here hx rfl (hb hby at_85) rfl rfl ?_
      refine XS.iconst X13.here hx rfl (hb hby at_86) ?_
      refine XS.iload X13.here hx rfl (hb hby at_87) rfl ?_
      refine XS.iconst X13.here hx rfl (hb hby at_89) ?_
      show Steps p.tables e below (T13.setTop (mkF m 90 #[.val (.int p1), .val (.int p2), .val (.int p3), .val (.int p4), .val (.int p5), .val (.int p6), .val (.int y1), .val (.int (1 : Int32)), .val (.int y3), .val (.int y4), .val (.int y5), .val (.int y6), .val (.ref b7), .val (.int (y1 * (1 : Int32))), .unset, .unset, .unset, .unset, .unset] [(.int (2 : Int32)), (.int (y1 * (1 : Int32))), (.int (2 : Int32)), (.ref b9), (.ref b9)])) t_
      refine XS.iadd X13.here hx rfl (hb hby at_90) rfl ?_
      exact k_
    obtain ⟨cl14, Ar14, q14, S14, M14, H14, G14⟩ := id B13
    have hin14 : ¬ ((2 : Int32) < 0 ∨ cl14.slots.size ≤ ((2 : Int32)).toNatClampNeg) := inb_of S14 ⟨by decide, by decide⟩
    obtain ⟨T15, h15, X15, e15, W15, st15⟩ := stI X13 hx hZ e13 Ar14 (j := (2 : Int32)) hin14 (g := (mkF m 91 #[.val (.int p1), .val (.int p2), .val (.int p3), .val (.int p4), .val (.int p5), .val (.int p6), .val (.int y1), .val (.int (1 : Int32)), .val (.int y3), .val (.int y4), .val (.int y5), .val (.int y6), .val (.ref b7), .val (.int (y1 * (1 : Int32))), .unset, .unset, .unset, .unset, .unset] [(.int ((y1 * (1 : Int32)) + (2 : Int32))), (.int (2 : Int32)), (.ref b9), (.ref b9)])) rfl rfl (hb hby at_91)
    have B15 : Arv Z h15 b9 k9 .int (4 : Int32) [(.int (y1 * (1 : Int32))), (.int ((y1 * (1 : Int32)) + (1 : Int32))), (.int ((y1 * (1 : Int32)) + (2 : Int32))), (.int (0 : Int32))] (.int (0 : Int32)) := Arv.set Ar14 q14 S14 M14 H14 G14 rfl W15 2 rfl (Nat.le_of_ble_eq_true rfl)
    refine own_go st15 ?_
    have K15 : Keep h0 h15 [] := K13.wr W15 (Or.inr (Nat.le_trans K8.1 (Nat.le_of_eq g9.symm)))
    have O15 := O13.wr W15 (Nat.le_trans Z0 (Nat.le_trans K8.1 (Nat.le_of_eq g9.symm)))
    have N15 := Fr.snoc X15 N13 (Nat.le_trans Z0 (Nat.le_trans K8.1 (Nat.le_of_eq g9.symm)))
    refine own_go (A := T15.setTop (mkF m 98 #[.val (.int p1), .val (.int p2), .val (.int p3), .val (.int p4), .val (.int p5), .val (.int p6), .val (.int y1), .val (.int (1 : Int32)), .val (.int y3), .val (.int y4), .val (.int y5), .val (.int y6), .val (.ref b7), .val (.int (y1 * (1 : Int32))), .unset, .unset, .unset, .unset, .unset] [(.int ((y1 * (1 : Int32)) + (3 : Int32))), (.int (3 : Int32)), (.ref b9), (.ref b9)])) (fun t_ k_ => ?_) ?_
    · show Steps p.tables e below (T15.setTop (mkF m 92 #[.val (.int p1), .val (.int p2), .val (.int p3), .val (.int p4), .val (.int p5), .val (.int p6), .val (.int y1), .val (.int (1 : Int32)), .val (.int y3), .val (.int y4), .val (.int y5), .val (.int y6), .val (.ref b7), .val (.int (y1 * (1 : Int32))), .unset, .unset, .unset, .unset, .unset] [(.ref b9)])) t_
      refine XS.dup X15.here hx rfl (hb hby at_92) rfl rfl ?_
      refine XS.iconst X15.here hx rfl (hb hby at_93) ?_
      refine XS.iload X15.here hx rfl (hb hby at_94) rfl ?_
      refine XS.iconst X15.here hx rfl (hb hby at_96) ?_
      show Steps p.tables e below (T15.setTop (mkF m 97 #[.val (.int p1), .val (.int p2), .val (.int p3), .val (.int p4), .val (.int p5), .val (.int p6), .val (.int y1), .val (.int (1 : Int32)), .val (.int y3), .val (.int y4), .val (.int y5), .val (.int y6), .val (.ref b7), .val (.int (y1 * (1 : Int32))), .unset, .unset, .unset, .unset, .unset] [(.int (3 : Int32)), (.int (y1 * (1 : Int32))), (.int (3 : Int32)), (.ref b9), (.ref b9)])) t_
      refine XS.iadd X15.here hx rfl (hb hby at_97) rfl ?_
      exact k_
    obtain ⟨cl16, Ar16, q16, S16, M16, H16, G16⟩ := id B15
    have hin16 : ¬ ((3 : Int32) < 0 ∨ cl16.slots.size ≤ ((3 : Int32)).toNatClampNeg) := inb_of S16 ⟨by decide, by decide⟩
    obtain ⟨T17, h17, X17, e17, W17, st17⟩ := stI X15 hx hZ e15 Ar16 (j := (3 : Int32)) hin16 (g := (mkF m 98 #[.val (.int p1), .val (.int p2), .val (.int p3), .val (.int p4), .val (.int p5), .val (.int p6), .val (.int y1), .val (.int (1 : Int32)), .val (.int y3), .val (.int y4), .val (.int y5), .val (.int y6), .val (.ref b7), .val (.int (y1 * (1 : Int32))), .unset, .unset, .unset, .unset, .unset] [(.int ((y1 * (1 : Int32)) + (3 : Int32))), (.int (3 : Int32)), (.ref b9), (.ref b9)])) rfl rfl (hb hby at_98)
    have B17 : Arv Z h17 b9 k9 .int (4 : Int32) [(.int (y1 * (1 : Int32))), (.int ((y1 * (1 : Int32)) + (1 : Int32))), (.int ((y1 * (1 : Int32)) + (2 : Int32))), (.int ((y1 * (1 : Int32)) + (3 : Int32)))] (.int (0 : Int32)) := Arv.set Ar16 q16 S16 M16 H16 G16 rfl W17 3 rfl (Nat.le_of_ble_eq_true rfl)
    refine own_go st17 ?_
    have K17 : Keep h0 h17 [] := K15.wr W17 (Or.inr (Nat.le_trans K8.1 (Nat.le_of_eq g9.symm)))
    have O17 := O15.wr W17 (Nat.le_trans Z0 (Nat.le_trans K8.1 (Nat.le_of_eq g9.symm)))
    have N17 := Fr.snoc X17 N15 (Nat.le_trans Z0 (Nat.le_trans K8.1 (Nat.le_of_eq g9.symm)))
    refine own_go (A := T17.setTop (mkF m 107 #[.val (.int p1), .val (.int p2), .val (.int p3), .val (.int p4), .val (.int p5), .val (.int p6), .val (.int y1), .val (.int (1 : Int32)), .val (.int y3), .val (.int y4), .val (.int y5), .val (.int y6), .val (.ref b7), .val (.int (y1 * (1 : Int32))), .val (.ref b9), .val (.int (0 : Int32)), .val (.int (0 : Int32)), .unset, .unset] [])) (fun t_ k_ => ?_) ?_
    · show Steps p.tables e below (T17.setTop (mkF m 99 #[.val (.int p1), .val (.int p2), .val (.int p3), .val (.int p4), .val (.int p5), .val (.int p6), .val (.int y1), .val (.int (1 : Int32)), .val (.int y3), .val (.int y4), .val (.int y5), .val (.int y6), .val (.ref b7), .val (.int (y1 * (1 : Int32))), .unset, .unset, .unset, .unset, .unset] [(.ref b9)])) t_
      refine XS.astore X17.here hx rfl (hb hby at_99) rfl rfl (l' := #[.val (.int p1), .val (.int p2), .val (.int p3), .val (.int p4), .val (.int p5), .val (.int p6), .val (.int y1), .val (.int (1 : Int32)), .val (.int y3), .val (.int y4), .val (.int y5), .val (.int y6), .val (.ref b7), .val (.int (y1 * (1 : Int32))), .val (.ref b9), .unset, .unset, .unset, .unset]) rfl ?_
      refine XS.iconst X17.here hx rfl (hb hby at_101) ?_
      refine XS.istore X17.here hx rfl (hb hby at_102) rfl (l' := #[.val (.int p1), .val (.int p2), .val (.int p3), .val (.int p4), .val (.int p5), .val (.int p6), .val (.int y1), .val (.int (1 : Int32)), .val (.int y3), .val (.int y4), .val (.int y5), .val (.int y6), .val (.ref b7), .val (.int (y1 * (1 : Int32))), .val (.ref b9), .val (.int (0 : Int32)), .unset, .unset, .unset]) rfl ?_
      refine XS.iconst X17.here hx rfl (hb hby at_104) ?_
      show Steps p.tables e below (T17.setTop (mkF m 105 #[.val (.int p1), .val (.int p2), .val (.int p3), .val (.int p4), .val (.int p5), .val (.int p6), .val (.int y1), .val (.int (1 : Int32)), .val (.int y3), .val (.int y4), .val (.int y5), .val (.int y6), .val (.ref b7), .val (.int (y1 * (1 : Int32))), .val (.ref b9), .val (.int (0 : Int32)), .unset, .unset, .unset] [(.int (0 : Int32))])) t_
      refine XS.istore X17.here hx rfl (hb hby at_105) rfl (l' := #[.val (.int p1), .val (.int p2), .val (.int p3), .val (.int p4), .val (.int p5), .val (.int p6), .val (.int y1), .val (.int (1 : Int32)), .val (.int y3), .val (.int y4), .val (.int y5), .val (.int y6), .val (.ref b7), .val (.int (y1 * (1 : Int32))), .val (.ref b9), .val (.int (0 : Int32)), .val (.int (0 : Int32)), .unset, .unset]) rfl ?_
      exact k_
    exact own_c107 l Z a0 hw p1 p2 p3 p4 p5 p6 dc kd ca bxc el y1 y3 y4 y5 y6 b7 b9 wk_8 sl_8 al_8 kw_8 vw_8 ks_8 vu_8 ed_8 kk_8 k9 (1 : Int32) (y1 * (1 : Int32)) ((y1 * (1 : Int32)) + (1 : Int32)) (1 : Int32) mc_8 [(.ref x0__8), .null, .null, .null, .null, .null, .null, .null, .null, .null] [(.int (y1 * (1 : Int32))), (.int ((y1 * (1 : Int32)) + (1 : Int32))), (.int ((y1 * (1 : Int32)) + (2 : Int32))), (.int ((y1 * (1 : Int32)) + (3 : Int32)))] h0 n0 Z0 X17 hx hZ hby hml hown Bd.returns (BodyLoose.notSynchronized Bd) hh e17 N17 K17 O17 u3 u4 ((((((A7.keep Kc8).ext E9).wr W11).wr W13).wr W15).wr W17) (((((r8_4.ext E9).other W11 (Or.inl (Nat.ne_of_lt (Nat.lt_of_lt_of_le r8_4.lt (Nat.le_of_eq g9.symm))))).other W13 (Or.inl (Nat.ne_of_lt (Nat.lt_of_lt_of_le r8_4.lt (Nat.le_of_eq g9.symm))))).other W15 (Or.inl (Nat.ne_of_lt (Nat.lt_of_lt_of_le r8_4.lt (Nat.le_of_eq g9.symm))))).other W17 (Or.inl (Nat.ne_of_lt (Nat.lt_of_lt_of_le r8_4.lt (Nat.le_of_eq g9.symm))))) (((((r8_5.ext E9).other W11 (Or.inl (Nat.ne_of_lt (Nat.lt_of_lt_of_le r8_4.lt (Nat.le_of_eq g9.symm))))).other W13 (Or.inl (Nat.ne_of_lt (Nat.lt_of_lt_of_le r8_4.lt (Nat.le_of_eq g9.symm))))).other W15 (Or.inl (Nat.ne_of_lt (Nat.lt_of_lt_of_le r8_4.lt (Nat.le_of_eq g9.symm))))).other W17 (Or.inl (Nat.ne_of_lt (Nat.lt_of_lt_of_le r8_4.lt (Nat.le_of_eq g9.symm))))) (((((r8_6.ext E9).other W11 (Or.inl (Nat.ne_of_lt (Nat.lt_of_lt_of_le r8_4.lt (Nat.le_of_eq g9.symm))))).other W13 (Or.inl (Nat.ne_of_lt (Nat.lt_of_lt_of_le r8_4.lt (Nat.le_of_eq g9.symm))))).other W15 (Or.inl (Nat.ne_of_lt (Nat.lt_of_lt_of_le r8_4.lt (Nat.le_of_eq g9.symm))))).other W17 (Or.inl (Nat.ne_of_lt (Nat.lt_of_lt_of_le r8_4.lt (Nat.le_of_eq g9.symm))))) (((((r8_7.ext E9).other W11 (Or.inl (Nat.ne_of_lt (Nat.lt_of_lt_of_le r8_4.lt (Nat.le_of_eq g9.symm))))).other W13 (Or.inl (Nat.ne_of_lt (Nat.lt_of_lt_of_le r8_4.lt (Nat.le_of_eq g9.symm))))).other W15 (Or.inl (Nat.ne_of_lt (Nat.lt_of_lt_of_le r8_4.lt (Nat.le_of_eq g9.symm))))).other W17 (Or.inl (Nat.ne_of_lt (Nat.lt_of_lt_of_le r8_4.lt (Nat.le_of_eq g9.symm))))) (((((r8_8.ext E9).other W11 (Nat.ne_of_lt (Nat.lt_of_lt_of_le r8_8.lt (Nat.le_of_eq g9.symm)))).other W13 (Nat.ne_of_lt (Nat.lt_of_lt_of_le r8_8.lt (Nat.le_of_eq g9.symm)))).other W15 (Nat.ne_of_lt (Nat.lt_of_lt_of_le r8_8.lt (Nat.le_of_eq g9.symm)))).other W17 (Nat.ne_of_lt (Nat.lt_of_lt_of_le r8_8.lt (Nat.le_of_eq g9.symm)))) (((((r8_9.ext E9).other W11 (Nat.ne_of_lt (Nat.lt_of_lt_of_le r8_9.lt (Nat.le_of_eq g9.symm)))).other W13 (Nat.ne_of_lt (Nat.lt_of_lt_of_le r8_9.lt (Nat.le_of_eq g9.symm)))).other W15 (Nat.ne_of_lt (Nat.lt_of_lt_of_le r8_9.lt (Nat.le_of_eq g9.symm)))).other W17 (Nat.ne_of_lt (Nat.lt_of_lt_of_le r8_9.lt (Nat.le_of_eq g9.symm)))) (((((r8_10.ext E9).wr W11).wr W13).wr W15).wr W17) (((((r8_11.ext E9).other W11 (Or.inl (Nat.ne_of_lt (Nat.lt_of_lt_of_le r8_10.lt (Nat.le_of_eq g9.symm))))).other W13 (Or.inl (Nat.ne_of_lt (Nat.lt_of_lt_of_le r8_10.lt (Nat.le_of_eq g9.symm))))).other W15 (Or.inl (Nat.ne_of_lt (Nat.lt_of_lt_of_le r8_10.lt (Nat.le_of_eq g9.symm))))).other W17 (Or.inl (Nat.ne_of_lt (Nat.lt_of_lt_of_le r8_10.lt (Nat.le_of_eq g9.symm))))) (((((r8_12.ext E9).other W11 (Or.inl (Nat.ne_of_lt (Nat.lt_of_lt_of_le r8_10.lt (Nat.le_of_eq g9.symm))))).other W13 (Or.inl (Nat.ne_of_lt (Nat.lt_of_lt_of_le r8_10.lt (Nat.le_of_eq g9.symm))))).other W15 (Or.inl (Nat.ne_of_lt (Nat.lt_of_lt_of_le r8_10.lt (Nat.le_of_eq g9.symm))))).other W17 (Or.inl (Nat.ne_of_lt (Nat.lt_of_lt_of_le r8_10.lt (Nat.le_of_eq g9.symm))))) (((((r8_13.ext E9).other W11 (Or.inl (Nat.ne_of_lt (Nat.lt_of_lt_of_le r8_10.lt (Nat.le_of_eq g9.symm))))).other W13 (Or.inl (Nat.ne_of_lt (Nat.lt_of_lt_of_le r8_10.lt (Nat.le_of_eq g9.symm))))).other W15 (Or.inl (Nat.ne_of_lt (Nat.lt_of_lt_of_le r8_10.lt (Nat.le_of_eq g9.symm))))).other W17 (Or.inl (Nat.ne_of_lt (Nat.lt_of_lt_of_le r8_10.lt (Nat.le_of_eq g9.symm))))) (((((r8_14.ext E9).other W11 (Nat.ne_of_lt (Nat.lt_of_lt_of_le r8_14.lt (Nat.le_of_eq g9.symm)))).other W13 (Nat.ne_of_lt (Nat.lt_of_lt_of_le r8_14.lt (Nat.le_of_eq g9.symm)))).other W15 (Nat.ne_of_lt (Nat.lt_of_lt_of_le r8_14.lt (Nat.le_of_eq g9.symm)))).other W17 (Nat.ne_of_lt (Nat.lt_of_lt_of_le r8_14.lt (Nat.le_of_eq g9.symm)))) B17 (Nat.le_trans Z0 (Nat.le_of_eq g7.symm)) (Nat.le_of_eq g7.symm) (Nat.le_trans Z0 (Nat.le_trans K7.1 r8_0)) (Nat.le_trans K7.1 r8_0) (Nat.le_trans Z0 (Nat.le_trans K7.1 r8_1)) (Nat.le_trans K7.1 r8_1) (Nat.le_trans Z0 (Nat.le_trans K7.1 r8_2)) (Nat.le_trans K7.1 r8_2) (Nat.le_trans Z0 (Nat.le_trans K7.1 r8_3)) (Nat.le_trans K7.1 r8_3) (Nat.le_trans Z0 (Nat.le_trans K8.1 (Nat.le_of_eq g9.symm))) (Nat.le_trans K8.1 (Nat.le_of_eq g9.symm)) r8_16 (Nat.ne_of_lt (Nat.lt_of_lt_of_le A7.lt r8_0)) (Nat.ne_of_lt (Nat.lt_of_lt_of_le A7.lt r8_1)) r8_21 (Ne.symm r8_17) (Ne.symm r8_19) (Ne.symm r8_18) (Ne.symm r8_20) (Nat.ne_of_lt (Nat.lt_of_lt_of_le A7.lt r8_2)) (Nat.ne_of_lt (Nat.lt_of_lt_of_le A7.lt r8_3)) (Ne.symm (Nat.ne_of_lt (Nat.lt_of_lt_of_le r8_8.lt (Nat.le_of_eq g9.symm)))) (Ne.symm (Nat.ne_of_lt (Nat.lt_of_lt_of_le r8_9.lt (Nat.le_of_eq g9.symm)))) (Ne.symm (Nat.ne_of_lt (Nat.lt_of_lt_of_le r8_10.lt (Nat.le_of_eq g9.symm)))) (Ne.symm (Nat.ne_of_lt (Nat.lt_of_lt_of_le r8_14.lt (Nat.le_of_eq g9.symm)))) r8_15 hbx hbn (by decide) (by rw [show ((1 : Int32).toInt) = 1 from rfl]; exact own_nr1 hbn) (by rw [show ((1 : Int32).toInt) = 1 from rfl]; exact own_ns1 hbn) hbp hbq hbp2 w8_0 w8_1 w8_2 w8_3 (own_ls (by rw [own_nr1 hbn]; omega)) rfl rfl (own_sp1 hbn r8_22 r8_23)
  · obtain ⟨_, _, ⟨T61, L61, k61, n61⟩, -, X61, ⟨Lc61, hQ61, l61, y61, z61⟩, st61⟩ := X7.specialBack hx (y := own_y14) rfl hown (mvT hZ (own_w hw 4 rfl)) (mvT hZ (own_w hw 5 rfl)) (mvT hZ (own_w hw 6 rfl)) (by decide) (backOf (W := 1) (rmIni2 l Z a0 hw [] b7 y1 dc kd ca bxc el h7 n0 (Nat.le_trans Z0 K7.1) O7 u1 u2 u3 u4 hbx u6 A7 F7_spares F7_partitions F7_replicas F7_workers F7_slots F7_partitioning (Nat.le_trans Z0 (Nat.le_of_eq g7.symm)) hbn) hZ (own_w hw 6 rfl) (own_w hw 3 rfl) (by decide) (by decide)) (g := (mkF m 58 #[.val (.int p1), .val (.int p2), .val (.int p3), .val (.int p4), .val (.int p5), .val (.int p6), .val (.int y1), .val (.int (2 : Int32)), .val (.int y3), .val (.int y4), .val (.int y5), .val (.int y6), .unset, .unset, .unset, .unset, .unset, .unset, .unset] [(.int (2 : Int32)), (.int (2 : Int32)), (.int y1), (.ref b7), (.ref b7)])) rfl (by rw [hml]; rfl) (Steps.refl _) (a := b7) (argsL := [(.int y1), (.int (2 : Int32)), (.int (2 : Int32))]) (rest := [(.ref b7)]) (lenOf pd_15 rfl) rfl (by show 2 * 0 + _ ≤ _; exact Nat.le_of_eq rfl) (hb hby at_58) (fun _ _ => ⟨rfl, e7, (by decide : 1 + 5 ≤ _), (by decide : 6 + 51 ≤ _)⟩)
    dsimp only [Pt.U, Pt.locs, Pt.cells, Pt.slots] at X61 l61 y61 z61 st61 hQ61
    subst l61 y61 z61
    obtain ⟨wk_61, kw_61, sl_61, ks_61, al_61, ed_61, kk_61, mc_61, vw_61, vu_61, x0__61, x1__61, rfl, N61q, Kc61, r61_0, r61_1, r61_2, r61_3, r61_4, r61_5, r61_6, r61_7, r61_8, r61_9, r61_10, r61_11, r61_12, r61_13, r61_14, r61_15, r61_16, r61_17, r61_18, r61_19, r61_20, r61_21, r61_22, r61_23, r61_24, r61_25, w61_0, w61_1, w61_2, w61_3⟩ := hQ61
    have N61 := Fr.app N0 N61q
    refine own_via st61 ?_
    have K61 : Keep h0 T61.heap [] := K7.trans Kc61 (allS (P := fun x => x ∈ _ ∨ _ ≤ x) (Or.inr (Nat.le_of_eq g7.symm)) all0)
    have O61 := O7.keep Kc61 (allS (P := fun x => n0 ≤ x) (Nat.le_trans Z0 (Nat.le_of_eq g7.symm)) all0)
    refine own_go (A := T61.setTop (mkF m 71 #[.val (.int p1), .val (.int p2), .val (.int p3), .val (.int p4), .val (.int p5), .val (.int p6), .val (.int y1), .val (.int (2 : Int32)), .val (.int y3), .val (.int y4), .val (.int y5), .val (.int y6), .val (.ref b7), .val (.int (y1 * (2 : Int32))), .unset, .unset, .unset, .unset, .unset] [(.int (4 : Int32))])) (fun t_ k_ => ?_) ?_
    · show Steps p.tables e below (T61.setTop (mkF m 61 #[.val (.int p1), .val (.int p2), .val (.int p3), .val (.int p4), .val (.int p5), .val (.int p6), .val (.int y1), .val (.int (2 : Int32)), .val (.int y3), .val (.int y4), .val (.int y5), .val (.int y6), .unset, .unset, .unset, .unset, .unset, .unset, .unset] [(.ref b7)])) t_
      refine XS.astore X61.here hx rfl (hb hby at_61) rfl rfl (l' := #[.val (.int p1), .val (.int p2), .val (.int p3), .val (.int p4), .val (.int p5), .val (.int p6), .val (.int y1), .val (.int (2 : Int32)), .val (.int y3), .val (.int y4), .val (.int y5), .val (.int y6), .val (.ref b7), .unset, .unset, .unset, .unset, .unset, .unset]) rfl ?_
      refine XS.iload X61.here hx rfl (hb hby at_63) rfl ?_
      refine XS.iload X61.here hx rfl (hb hby at_65) rfl ?_
      refine XS.imul X61.here hx rfl (hb hby at_67) rfl ?_
      show Steps p.tables e below (T61.setTop (mkF m 68 #[.val (.int p1), .val (.int p2), .val (.int p3), .val (.int p4), .val (.int p5), .val (.int p6), .val (.int y1), .val (.int (2 : Int32)), .val (.int y3), .val (.int y4), .val (.int y5), .val (.int y6), .val (.ref b7), .unset, .unset, .unset, .unset, .unset, .unset] [(.int (y1 * (2 : Int32)))])) t_
      refine XS.istore X61.here hx rfl (hb hby at_68) rfl (l' := #[.val (.int p1), .val (.int p2), .val (.int p3), .val (.int p4), .val (.int p5), .val (.int p6), .val (.int y1), .val (.int (2 : Int32)), .val (.int y3), .val (.int y4), .val (.int y5), .val (.int y6), .val (.ref b7), .val (.int (y1 * (2 : Int32))), .unset, .unset, .unset, .unset, .unset]) rfl ?_
      refine XS.iconst X61.here hx rfl (hb hby at_70) ?_
      exact k_
    obtain ⟨T62, h62, k62, X62, e62, E62, A62, st62⟩ := newP X61 hx hZ (own_w hw 40 rfl) rfl (g := (mkF m 71 #[.val (.int p1), .val (.int p2), .val (.int p3), .val (.int p4), .val (.int p5), .val (.int p6), .val (.int y1), .val (.int (2 : Int32)), .val (.int y3), .val (.int y4), .val (.int y5), .val (.int y6), .val (.ref b7), .val (.int (y1 * (2 : Int32))), .unset, .unset, .unset, .unset, .unset] [(.int (4 : Int32))])) rfl (hb hby at_71) rfl (by decide) (cap := 4) (by decide) (by decide) (by decide) (by decide)
    obtain ⟨b62, g62⟩ : ∃ z, z = T61.heap.size := ⟨_, rfl⟩
    rw [← g62] at A62 st62
    refine own_go st62 ?_
    have K62 : Keep h0 h62 [] := K61.ext E62
    have O62 := O61.ext E62
    have B62 : Arv Z h62 b62 k62 .int (4 : Int32) [(.int (0 : Int32)), (.int (0 : Int32)), (.int (0 : Int32)), (.int (0 : Int32))] (.int (0 : Int32)) := (Arv.new A62 (by decide)).pad (pad_rep [] (.int (0 : Int32)) 4)
    refine own_go (A := T62.setTop (mkF m 77 #[.val (.int p1), .val (.int p2), .val (.int p3), .val (.int p4), .val (.int p5), .val (.int p6), .val (.int y1), .val (.int (2 : Int32)), .val (.int y3), .val (.int y4), .val (.int y5), .val (.int y6), .val (.ref b7), .val (.int (y1 * (2 : Int32))), .unset, .unset, .unset, .unset, .unset] [(.int (y1 * (2 : Int32))), (.int (0 : Int32)), (.ref b62), (.ref b62)])) (fun t_ k_ => ?_) ?_
    · show Steps p.tables e below (T62.setTop (mkF m 73 #[.val (.int p1), .val (.int p2), .val (.int p3), .val (.int p4), .val (.int p5), .val (.int p6), .val (.int y1), .val (.int (2 : Int32)), .val (.int y3), .val (.int y4), .val (.int y5), .val (.int y6), .val (.ref b7), .val (.int (y1 * (2 : Int32))), .unset, .unset, .unset, .unset, .unset] [(.ref b62)])) t_
      refine XS.dup X62.here hx rfl (hb hby at_73) rfl rfl ?_
      refine XS.iconst X62.here hx rfl (hb hby at_74) ?_
      refine XS.iload X62.here hx rfl (hb hby at_75) rfl ?_
      exact k_
    obtain ⟨cl63, Ar63, q63, S63, M63, H63, G63⟩ := id B62
    have hin63 : ¬ ((0 : Int32) < 0 ∨ cl63.slots.size ≤ ((0 : Int32)).toNatClampNeg) := inb_of S63 ⟨by decide, by decide⟩
    obtain ⟨T64, h64, X64, e64, W64, st64⟩ := stI X62 hx hZ e62 Ar63 (j := (0 : Int32)) hin63 (g := (mkF m 77 #[.val (.int p1), .val (.int p2), .val (.int p3), .val (.int p4), .val (.int p5), .val (.int p6), .val (.int y1), .val (.int (2 : Int32)), .val (.int y3), .val (.int y4), .val (.int y5), .val (.int y6), .val (.ref b7), .val (.int (y1 * (2 : Int32))), .unset, .unset, .unset, .unset, .unset] [(.int (y1 * (2 : Int32))), (.int (0 : Int32)), (.ref b62), (.ref b62)])) rfl rfl (hb hby at_77)
    have B64 : Arv Z h64 b62 k62 .int (4 : Int32) [(.int (y1 * (2 : Int32))), (.int (0 : Int32)), (.int (0 : Int32)), (.int (0 : Int32))] (.int (0 : Int32)) := Arv.set Ar63 q63 S63 M63 H63 G63 rfl W64 0 rfl (Nat.le_of_ble_eq_true rfl)
    refine own_go st64 ?_
    have K64 : Keep h0 h64 [] := K62.wr W64 (Or.inr (Nat.le_trans K61.1 (Nat.le_of_eq g62.symm)))
    have O64 := O62.wr W64 (Nat.le_trans Z0 (Nat.le_trans K61.1 (Nat.le_of_eq g62.symm)))
    have N64 := Fr.snoc X64 N61 (Nat.le_trans Z0 (Nat.le_trans K61.1 (Nat.le_of_eq g62.symm)))
    refine own_go (A := T64.setTop (mkF m 84 #[.val (.int p1), .val (.int p2), .val (.int p3), .val (.int p4), .val (.int p5), .val (.int p6), .val (.int y1), .val (.int (2 : Int32)), .val (.int y3), .val (.int y4), .val (.int y5), .val (.int y6), .val (.ref b7), .val (.int (y1 * (2 : Int32))), .unset, .unset, .unset, .unset, .unset] [(.int ((y1 * (2 : Int32)) + (1 : Int32))), (.int (1 : Int32)), (.ref b62), (.ref b62)])) (fun t_ k_ => ?_) ?_
    · show Steps p.tables e below (T64.setTop (mkF m 78 #[.val (.int p1), .val (.int p2), .val (.int p3), .val (.int p4), .val (.int p5), .val (.int p6), .val (.int y1), .val (.int (2 : Int32)), .val (.int y3), .val (.int y4), .val (.int y5), .val (.int y6), .val (.ref b7), .val (.int (y1 * (2 : Int32))), .unset, .unset, .unset, .unset, .unset] [(.ref b62)])) t_
      refine XS.dup X64.here hx rfl (hb hby at_78) rfl rfl ?_
      refine XS.iconst X64.here hx rfl (hb hby at_79) ?_
      refine XS.iload X64.here hx rfl (hb hby at_80) rfl ?_
      refine XS.iconst X64.here hx rfl (hb hby at_82) ?_
      show Steps p.tables e below (T64.setTop (mkF m 83 #[.val (.int p1), .val (.int p2), .val (.int p3), .val (.int p4), .val (.int p5), .val (.int p6), .val (.int y1), .val (.int (2 : Int32)), .val (.int y3), .val (.int y4), .val (.int y5), .val (.int y6), .val (.ref b7), .val (.int (y1 * (2 : Int32))), .unset, .unset, .unset, .unset, .unset] [(.int (1 : Int32)), (.int (y1 * (2 : Int32))), (.int (1 : Int32)), (.ref b62), (.ref b62)])) t_
      refine XS.iadd X64.here hx rfl (hb hby at_83) rfl ?_
      exact k_
    obtain ⟨cl65, Ar65, q65, S65, M65, H65, G65⟩ := id B64
    have hin65 : ¬ ((1 : Int32) < 0 ∨ cl65.slots.size ≤ ((1 : Int32)).toNatClampNeg) := inb_of S65 ⟨by decide, by decide⟩
    obtain ⟨T66, h66, X66, e66, W66, st66⟩ := stI X64 hx hZ e64 Ar65 (j := (1 : Int32)) hin65 (g := (mkF m 84 #[.val (.int p1), .val (.int p2), .val (.int p3), .val (.int p4), .val (.int p5), .val (.int p6), .val (.int y1), .val (.int (2 : Int32)), .val (.int y3), .val (.int y4), .val (.int y5), .val (.int y6), .val (.ref b7), .val (.int (y1 * (2 : Int32))), .unset, .unset, .unset, .unset, .unset] [(.int ((y1 * (2 : Int32)) + (1 : Int32))), (.int (1 : Int32)), (.ref b62), (.ref b62)])) rfl rfl (hb hby at_84)
    have B66 : Arv Z h66 b62 k62 .int (4 : Int32) [(.int (y1 * (2 : Int32))), (.int ((y1 * (2 : Int32)) + (1 : Int32))), (.int (0 : Int32)), (.int (0 : Int32))] (.int (0 : Int32)) := Arv.set Ar65 q65 S65 M65 H65 G65 rfl W66 1 rfl (Nat.le_of_ble_eq_true rfl)
    refine own_go st66 ?_
    have K66 : Keep h0 h66 [] := K64.wr W66 (Or.inr (Nat.le_trans K61.1 (Nat.le_of_eq g62.symm)))
    have O66 := O64.wr W66 (Nat.le_trans Z0 (Nat.le_trans K61.1 (Nat.le_of_eq g62.symm)))
    have N66 := Fr.snoc X66 N64 (Nat.le_trans Z0 (Nat.le_trans K61.1 (Nat.le_of_eq g62.symm)))
    refine own_go (A := T66.setTop (mkF m 91 #[.val (.int p1), .val (.int p2), .val (.int p3), .val (.int p4), .val (.int p5), .val (.int p6), .val (.int y1), .val (.int (2 : Int32)), .val (.int y3), .val (.int y4), .val (.int y5), .val (.int y6), .val (.ref b7), .val (.int (y1 * (2 : Int32))), .unset, .unset, .unset, .unset, .unset] [(.int ((y1 * (2 : Int32)) + (2 : Int32))), (.int (2 : Int32)), (.ref b62), (.ref b62)])) (fun t_ k_ => ?_) ?_
    · show Steps p.tables e below (T66.setTop (mkF m 85 #[.val (.int p1), .val (.int p2), .val (.int p3), .val (.int p4), .val (.int p5), .val (.int p6), .val (.int y1), .val (.int (2 : Int32)), .val (.int y3), .val (.int y4), .val (.int y5), .val (.int y6), .val (.ref b7), .val (.int (y1 * (2 : Int32))), .unset, .unset, .unset, .unset, .unset] [(.ref b62)])) t_
      refine XS.dup X66.here hx rfl (hb hby at_85) rfl rfl ?_
      refine XS.iconst X66.here hx rfl (hb hby at_86) ?_
      refine XS.iload X66.here hx rfl (hb hby at_87) rfl ?_
      refine XS.iconst X66.here hx rfl (hb hby at_89) ?_
      show Steps p.tables e below (T66.setTop (mkF m 90 #[.val (.int p1), .val (.int p2), .val (.int p3), .val (.int p4), .val (.int p5), .val (.int p6), .val (.int y1), .val (.int (2 : Int32)), .val (.int y3), .val (.int y4), .val (.int y5), .val (.int y6), .val (.ref b7), .val (.int (y1 * (2 : Int32))), .unset, .unset, .unset, .unset, .unset] [(.int (2 : Int32)), (.int (y1 * (2 : Int32))), (.int (2 : Int32)), (.ref b62), (.ref b62)])) t_
      refine XS.iadd X66.here hx rfl (hb hby at_90) rfl ?_
      exact k_
    obtain ⟨cl67, Ar67, q67, S67, M67, H67, G67⟩ := id B66
    have hin67 : ¬ ((2 : Int32) < 0 ∨ cl67.slots.size ≤ ((2 : Int32)).toNatClampNeg) := inb_of S67 ⟨by decide, by decide⟩
    obtain ⟨T68, h68, X68, e68, W68, st68⟩ := stI X66 hx hZ e66 Ar67 (j := (2 : Int32)) hin67 (g := (mkF m 91 #[.val (.int p1), .val (.int p2), .val (.int p3), .val (.int p4), .val (.int p5), .val (.int p6), .val (.int y1), .val (.int (2 : Int32)), .val (.int y3), .val (.int y4), .val (.int y5), .val (.int y6), .val (.ref b7), .val (.int (y1 * (2 : Int32))), .unset, .unset, .unset, .unset, .unset] [(.int ((y1 * (2 : Int32)) + (2 : Int32))), (.int (2 : Int32)), (.ref b62), (.ref b62)])) rfl rfl (hb hby at_91)
    have B68 : Arv Z h68 b62 k62 .int (4 : Int32) [(.int (y1 * (2 : Int32))), (.int ((y1 * (2 : Int32)) + (1 : Int32))), (.int ((y1 * (2 : Int32)) + (2 : Int32))), (.int (0 : Int32))] (.int (0 : Int32)) := Arv.set Ar67 q67 S67 M67 H67 G67 rfl W68 2 rfl (Nat.le_of_ble_eq_true rfl)
    refine own_go st68 ?_
    have K68 : Keep h0 h68 [] := K66.wr W68 (Or.inr (Nat.le_trans K61.1 (Nat.le_of_eq g62.symm)))
    have O68 := O66.wr W68 (Nat.le_trans Z0 (Nat.le_trans K61.1 (Nat.le_of_eq g62.symm)))
    have N68 := Fr.snoc X68 N66 (Nat.le_trans Z0 (Nat.le_trans K61.1 (Nat.le_of_eq g62.symm)))
    refine own_go (A := T68.setTop (mkF m 98 #[.val (.int p1), .val (.int p2), .val (.int p3), .val (.int p4), .val (.int p5), .val (.int p6), .val (.int y1), .val (.int (2 : Int32)), .val (.int y3), .val (.int y4), .val (.int y5), .val (.int y6), .val (.ref b7), .val (.int (y1 * (2 : Int32))), .unset, .unset, .unset, .unset, .unset] [(.int ((y1 * (2 : Int32)) + (3 : Int32))), (.int (3 : Int32)), (.ref b62), (.ref b62)])) (fun t_ k_ => ?_) ?_
    · show Steps p.tables e below (T68.setTop (mkF m 92 #[.val (.int p1), .val (.int p2), .val (.int p3), .val (.int p4), .val (.int p5), .val (.int p6), .val (.int y1), .val (.int (2 : Int32)), .val (.int y3), .val (.int y4), .val (.int y5), .val (.int y6), .val (.ref b7), .val (.int (y1 * (2 : Int32))), .unset, .unset, .unset, .unset, .unset] [(.ref b62)])) t_
      refine XS.dup X68.here hx rfl (hb hby at_92) rfl rfl ?_
      refine XS.iconst X68.here hx rfl (hb hby at_93) ?_
      refine XS.iload X68.here hx rfl (hb hby at_94) rfl ?_
      refine XS.iconst X68.here hx rfl (hb hby at_96) ?_
      show Steps p.tables e below (T68.setTop (mkF m 97 #[.val (.int p1), .val (.int p2), .val (.int p3), .val (.int p4), .val (.int p5), .val (.int p6), .val (.int y1), .val (.int (2 : Int32)), .val (.int y3), .val (.int y4), .val (.int y5), .val (.int y6), .val (.ref b7), .val (.int (y1 * (2 : Int32))), .unset, .unset, .unset, .unset, .unset] [(.int (3 : Int32)), (.int (y1 * (2 : Int32))), (.int (3 : Int32)), (.ref b62), (.ref b62)])) t_
      refine XS.iadd X68.here hx rfl (hb hby at_97) rfl ?_
      exact k_
    obtain ⟨cl69, Ar69, q69, S69, M69, H69, G69⟩ := id B68
    have hin69 : ¬ ((3 : Int32) < 0 ∨ cl69.slots.size ≤ ((3 : Int32)).toNatClampNeg) := inb_of S69 ⟨by decide, by decide⟩
    obtain ⟨T70, h70, X70, e70, W70, st70⟩ := stI X68 hx hZ e68 Ar69 (j := (3 : Int32)) hin69 (g := (mkF m 98 #[.val (.int p1), .val (.int p2), .val (.int p3), .val (.int p4), .val (.int p5), .val (.int p6), .val (.int y1), .val (.int (2 : Int32)), .val (.int y3), .val (.int y4), .val (.int y5), .val (.int y6), .val (.ref b7), .val (.int (y1 * (2 : Int32))), .unset, .unset, .unset, .unset, .unset] [(.int ((y1 * (2 : Int32)) + (3 : Int32))), (.int (3 : Int32)), (.ref b62), (.ref b62)])) rfl rfl (hb hby at_98)
    have B70 : Arv Z h70 b62 k62 .int (4 : Int32) [(.int (y1 * (2 : Int32))), (.int ((y1 * (2 : Int32)) + (1 : Int32))), (.int ((y1 * (2 : Int32)) + (2 : Int32))), (.int ((y1 * (2 : Int32)) + (3 : Int32)))] (.int (0 : Int32)) := Arv.set Ar69 q69 S69 M69 H69 G69 rfl W70 3 rfl (Nat.le_of_ble_eq_true rfl)
    refine own_go st70 ?_
    have K70 : Keep h0 h70 [] := K68.wr W70 (Or.inr (Nat.le_trans K61.1 (Nat.le_of_eq g62.symm)))
    have O70 := O68.wr W70 (Nat.le_trans Z0 (Nat.le_trans K61.1 (Nat.le_of_eq g62.symm)))
    have N70 := Fr.snoc X70 N68 (Nat.le_trans Z0 (Nat.le_trans K61.1 (Nat.le_of_eq g62.symm)))
    refine own_go (A := T70.setTop (mkF m 107 #[.val (.int p1), .val (.int p2), .val (.int p3), .val (.int p4), .val (.int p5), .val (.int p6), .val (.int y1), .val (.int (2 : Int32)), .val (.int y3), .val (.int y4), .val (.int y5), .val (.int y6), .val (.ref b7), .val (.int (y1 * (2 : Int32))), .val (.ref b62), .val (.int (0 : Int32)), .val (.int (0 : Int32)), .unset, .unset] [])) (fun t_ k_ => ?_) ?_
    · show Steps p.tables e below (T70.setTop (mkF m 99 #[.val (.int p1), .val (.int p2), .val (.int p3), .val (.int p4), .val (.int p5), .val (.int p6), .val (.int y1), .val (.int (2 : Int32)), .val (.int y3), .val (.int y4), .val (.int y5), .val (.int y6), .val (.ref b7), .val (.int (y1 * (2 : Int32))), .unset, .unset, .unset, .unset, .unset] [(.ref b62)])) t_
      refine XS.astore X70.here hx rfl (hb hby at_99) rfl rfl (l' := #[.val (.int p1), .val (.int p2), .val (.int p3), .val (.int p4), .val (.int p5), .val (.int p6), .val (.int y1), .val (.int (2 : Int32)), .val (.int y3), .val (.int y4), .val (.int y5), .val (.int y6), .val (.ref b7), .val (.int (y1 * (2 : Int32))), .val (.ref b62), .unset, .unset, .unset, .unset]) rfl ?_
      refine XS.iconst X70.here hx rfl (hb hby at_101) ?_
      refine XS.istore X70.here hx rfl (hb hby at_102) rfl (l' := #[.val (.int p1), .val (.int p2), .val (.int p3), .val (.int p4), .val (.int p5), .val (.int p6), .val (.int y1), .val (.int (2 : Int32)), .val (.int y3), .val (.int y4), .val (.int y5), .val (.int y6), .val (.ref b7), .val (.int (y1 * (2 : Int32))), .val (.ref b62), .val (.int (0 : Int32)), .unset, .unset, .unset]) rfl ?_
      refine XS.iconst X70.here hx rfl (hb hby at_104) ?_
      show Steps p.tables e below (T70.setTop (mkF m 105 #[.val (.int p1), .val (.int p2), .val (.int p3), .val (.int p4), .val (.int p5), .val (.int p6), .val (.int y1), .val (.int (2 : Int32)), .val (.int y3), .val (.int y4), .val (.int y5), .val (.int y6), .val (.ref b7), .val (.int (y1 * (2 : Int32))), .val (.ref b62), .val (.int (0 : Int32)), .unset, .unset, .unset] [(.int (0 : Int32))])) t_
      refine XS.istore X70.here hx rfl (hb hby at_105) rfl (l' := #[.val (.int p1), .val (.int p2), .val (.int p3), .val (.int p4), .val (.int p5), .val (.int p6), .val (.int y1), .val (.int (2 : Int32)), .val (.int y3), .val (.int y4), .val (.int y5), .val (.int y6), .val (.ref b7), .val (.int (y1 * (2 : Int32))), .val (.ref b62), .val (.int (0 : Int32)), .val (.int (0 : Int32)), .unset, .unset]) rfl ?_
      exact k_
    exact own_c107 l Z a0 hw p1 p2 p3 p4 p5 p6 dc kd ca bxc el y1 y3 y4 y5 y6 b7 b62 wk_61 sl_61 al_61 kw_61 vw_61 ks_61 vu_61 ed_61 kk_61 k62 (2 : Int32) (y1 * (2 : Int32)) ((y1 * (2 : Int32)) + (2 : Int32)) (2 : Int32) mc_61 [(.ref x0__61), (.ref x1__61), .null, .null, .null, .null, .null, .null, .null, .null] [(.int (y1 * (2 : Int32))), (.int ((y1 * (2 : Int32)) + (1 : Int32))), (.int ((y1 * (2 : Int32)) + (2 : Int32))), (.int ((y1 * (2 : Int32)) + (3 : Int32)))] h0 n0 Z0 X70 hx hZ hby hml hown Bd.returns (BodyLoose.notSynchronized Bd) hh e70 N70 K70 O70 u3 u4 ((((((A7.keep Kc61).ext E62).wr W64).wr W66).wr W68).wr W70) (((((r61_4.ext E62).other W64 (Or.inl (Nat.ne_of_lt (Nat.lt_of_lt_of_le r61_4.lt (Nat.le_of_eq g62.symm))))).other W66 (Or.inl (Nat.ne_of_lt (Nat.lt_of_lt_of_le r61_4.lt (Nat.le_of_eq g62.symm))))).other W68 (Or.inl (Nat.ne_of_lt (Nat.lt_of_lt_of_le r61_4.lt (Nat.le_of_eq g62.symm))))).other W70 (Or.inl (Nat.ne_of_lt (Nat.lt_of_lt_of_le r61_4.lt (Nat.le_of_eq g62.symm))))) (((((r61_5.ext E62).other W64 (Or.inl (Nat.ne_of_lt (Nat.lt_of_lt_of_le r61_4.lt (Nat.le_of_eq g62.symm))))).other W66 (Or.inl (Nat.ne_of_lt (Nat.lt_of_lt_of_le r61_4.lt (Nat.le_of_eq g62.symm))))).other W68 (Or.inl (Nat.ne_of_lt (Nat.lt_of_lt_of_le r61_4.lt (Nat.le_of_eq g62.symm))))).other W70 (Or.inl (Nat.ne_of_lt (Nat.lt_of_lt_of_le r61_4.lt (Nat.le_of_eq g62.symm))))) (((((r61_6.ext E62).other W64 (Or.inl (Nat.ne_of_lt (Nat.lt_of_lt_of_le r61_4.lt (Nat.le_of_eq g62.symm))))).other W66 (Or.inl (Nat.ne_of_lt (Nat.lt_of_lt_of_le r61_4.lt (Nat.le_of_eq g62.symm))))).other W68 (Or.inl (Nat.ne_of_lt (Nat.lt_of_lt_of_le r61_4.lt (Nat.le_of_eq g62.symm))))).other W70 (Or.inl (Nat.ne_of_lt (Nat.lt_of_lt_of_le r61_4.lt (Nat.le_of_eq g62.symm))))) (((((r61_7.ext E62).other W64 (Or.inl (Nat.ne_of_lt (Nat.lt_of_lt_of_le r61_4.lt (Nat.le_of_eq g62.symm))))).other W66 (Or.inl (Nat.ne_of_lt (Nat.lt_of_lt_of_le r61_4.lt (Nat.le_of_eq g62.symm))))).other W68 (Or.inl (Nat.ne_of_lt (Nat.lt_of_lt_of_le r61_4.lt (Nat.le_of_eq g62.symm))))).other W70 (Or.inl (Nat.ne_of_lt (Nat.lt_of_lt_of_le r61_4.lt (Nat.le_of_eq g62.symm))))) (((((r61_8.ext E62).other W64 (Nat.ne_of_lt (Nat.lt_of_lt_of_le r61_8.lt (Nat.le_of_eq g62.symm)))).other W66 (Nat.ne_of_lt (Nat.lt_of_lt_of_le r61_8.lt (Nat.le_of_eq g62.symm)))).other W68 (Nat.ne_of_lt (Nat.lt_of_lt_of_le r61_8.lt (Nat.le_of_eq g62.symm)))).other W70 (Nat.ne_of_lt (Nat.lt_of_lt_of_le r61_8.lt (Nat.le_of_eq g62.symm)))) (((((r61_9.ext E62).other W64 (Nat.ne_of_lt (Nat.lt_of_lt_of_le r61_9.lt (Nat.le_of_eq g62.symm)))).other W66 (Nat.ne_of_lt (Nat.lt_of_lt_of_le r61_9.lt (Nat.le_of_eq g62.symm)))).other W68 (Nat.ne_of_lt (Nat.lt_of_lt_of_le r61_9.lt (Nat.le_of_eq g62.symm)))).other W70 (Nat.ne_of_lt (Nat.lt_of_lt_of_le r61_9.lt (Nat.le_of_eq g62.symm)))) (((((r61_10.ext E62).wr W64).wr W66).wr W68).wr W70) (((((r61_11.ext E62).other W64 (Or.inl (Nat.ne_of_lt (Nat.lt_of_lt_of_le r61_10.lt (Nat.le_of_eq g62.symm))))).other W66 (Or.inl (Nat.ne_of_lt (Nat.lt_of_lt_of_le r61_10.lt (Nat.le_of_eq g62.symm))))).other W68 (Or.inl (Nat.ne_of_lt (Nat.lt_of_lt_of_le r61_10.lt (Nat.le_of_eq g62.symm))))).other W70 (Or.inl (Nat.ne_of_lt (Nat.lt_of_lt_of_le r61_10.lt (Nat.le_of_eq g62.symm))))) (((((r61_12.ext E62).other W64 (Or.inl (Nat.ne_of_lt (Nat.lt_of_lt_of_le r61_10.lt (Nat.le_of_eq g62.symm))))).other W66 (Or.inl (Nat.ne_of_lt (Nat.lt_of_lt_of_le r61_10.lt (Nat.le_of_eq g62.symm))))).other W68 (Or.inl (Nat.ne_of_lt (Nat.lt_of_lt_of_le r61_10.lt (Nat.le_of_eq g62.symm))))).other W70 (Or.inl (Nat.ne_of_lt (Nat.lt_of_lt_of_le r61_10.lt (Nat.le_of_eq g62.symm))))) (((((r61_13.ext E62).other W64 (Or.inl (Nat.ne_of_lt (Nat.lt_of_lt_of_le r61_10.lt (Nat.le_of_eq g62.symm))))).other W66 (Or.inl (Nat.ne_of_lt (Nat.lt_of_lt_of_le r61_10.lt (Nat.le_of_eq g62.symm))))).other W68 (Or.inl (Nat.ne_of_lt (Nat.lt_of_lt_of_le r61_10.lt (Nat.le_of_eq g62.symm))))).other W70 (Or.inl (Nat.ne_of_lt (Nat.lt_of_lt_of_le r61_10.lt (Nat.le_of_eq g62.symm))))) (((((r61_14.ext E62).other W64 (Nat.ne_of_lt (Nat.lt_of_lt_of_le r61_14.lt (Nat.le_of_eq g62.symm)))).other W66 (Nat.ne_of_lt (Nat.lt_of_lt_of_le r61_14.lt (Nat.le_of_eq g62.symm)))).other W68 (Nat.ne_of_lt (Nat.lt_of_lt_of_le r61_14.lt (Nat.le_of_eq g62.symm)))).other W70 (Nat.ne_of_lt (Nat.lt_of_lt_of_le r61_14.lt (Nat.le_of_eq g62.symm)))) B70 (Nat.le_trans Z0 (Nat.le_of_eq g7.symm)) (Nat.le_of_eq g7.symm) (Nat.le_trans Z0 (Nat.le_trans K7.1 r61_0)) (Nat.le_trans K7.1 r61_0) (Nat.le_trans Z0 (Nat.le_trans K7.1 r61_1)) (Nat.le_trans K7.1 r61_1) (Nat.le_trans Z0 (Nat.le_trans K7.1 r61_2)) (Nat.le_trans K7.1 r61_2) (Nat.le_trans Z0 (Nat.le_trans K7.1 r61_3)) (Nat.le_trans K7.1 r61_3) (Nat.le_trans Z0 (Nat.le_trans K61.1 (Nat.le_of_eq g62.symm))) (Nat.le_trans K61.1 (Nat.le_of_eq g62.symm)) r61_16 (Nat.ne_of_lt (Nat.lt_of_lt_of_le A7.lt r61_0)) (Nat.ne_of_lt (Nat.lt_of_lt_of_le A7.lt r61_1)) r61_21 (Ne.symm r61_17) (Ne.symm r61_19) (Ne.symm r61_18) (Ne.symm r61_20) (Nat.ne_of_lt (Nat.lt_of_lt_of_le A7.lt r61_2)) (Nat.ne_of_lt (Nat.lt_of_lt_of_le A7.lt r61_3)) (Ne.symm (Nat.ne_of_lt (Nat.lt_of_lt_of_le r61_8.lt (Nat.le_of_eq g62.symm)))) (Ne.symm (Nat.ne_of_lt (Nat.lt_of_lt_of_le r61_9.lt (Nat.le_of_eq g62.symm)))) (Ne.symm (Nat.ne_of_lt (Nat.lt_of_lt_of_le r61_10.lt (Nat.le_of_eq g62.symm)))) (Ne.symm (Nat.ne_of_lt (Nat.lt_of_lt_of_le r61_14.lt (Nat.le_of_eq g62.symm)))) r61_15 hbx hbn (by decide) (by rw [show ((2 : Int32).toInt) = 2 from rfl]; exact own_nr2 hbn) (by rw [show ((2 : Int32).toInt) = 2 from rfl]; exact own_ns2 hbn) hbp hbq hbp2 w61_0 w61_1 w61_2 w61_3 (own_ls (by rw [own_nr2 hbn]; omega)) rfl rfl (own_sp2 hbn r61_22 r61_23 r61_24 r61_25)
  · obtain ⟨_, _, ⟨T71, L71, k71, n71⟩, -, X71, ⟨Lc71, hQ71, l71, y71, z71⟩, st71⟩ := X7.specialBack hx (y := own_y14) rfl hown (mvT hZ (own_w hw 4 rfl)) (mvT hZ (own_w hw 5 rfl)) (mvT hZ (own_w hw 6 rfl)) (by decide) (backOf (W := 1) (rmIni3 l Z a0 hw [] b7 y1 dc kd ca bxc el h7 n0 (Nat.le_trans Z0 K7.1) O7 u1 u2 u3 u4 hbx u6 A7 F7_spares F7_partitions F7_replicas F7_workers F7_slots F7_partitioning (Nat.le_trans Z0 (Nat.le_of_eq g7.symm)) hbn) hZ (own_w hw 6 rfl) (own_w hw 3 rfl) (by decide) (by decide)) (g := (mkF m 58 #[.val (.int p1), .val (.int p2), .val (.int p3), .val (.int p4), .val (.int p5), .val (.int p6), .val (.int y1), .val (.int (3 : Int32)), .val (.int y3), .val (.int y4), .val (.int y5), .val (.int y6), .unset, .unset, .unset, .unset, .unset, .unset, .unset] [(.int (3 : Int32)), (.int (3 : Int32)), (.int y1), (.ref b7), (.ref b7)])) rfl (by rw [hml]; rfl) (Steps.refl _) (a := b7) (argsL := [(.int y1), (.int (3 : Int32)), (.int (3 : Int32))]) (rest := [(.ref b7)]) (lenOf pd_15 rfl) rfl (by show 2 * 0 + _ ≤ _; exact Nat.le_of_eq rfl) (hb hby at_58) (fun _ _ => ⟨rfl, e7, (by decide : 1 + 5 ≤ _), (by decide : 6 + 51 ≤ _)⟩)
    dsimp only [Pt.U, Pt.locs, Pt.cells, Pt.slots] at X71 l71 y71 z71 st71 hQ71
    subst l71 y71 z71
    obtain ⟨wk_71, kw_71, sl_71, ks_71, al_71, ed_71, kk_71, mc_71, vw_71, vu_71, x0__71, x1__71, x2__71, rfl, N71q, Kc71, r71_0, r71_1, r71_2, r71_3, r71_4, r71_5, r71_6, r71_7, r71_8, r71_9, r71_10, r71_11, r71_12, r71_13, r71_14, r71_15, r71_16, r71_17, r71_18, r71_19, r71_20, r71_21, r71_22, r71_23, r71_24, r71_25, r71_26, r71_27, w71_0, w71_1, w71_2, w71_3⟩ := hQ71
    have N71 := Fr.app N0 N71q
    refine own_via st71 ?_
    have K71 : Keep h0 T71.heap [] := K7.trans Kc71 (allS (P := fun x => x ∈ _ ∨ _ ≤ x) (Or.inr (Nat.le_of_eq g7.symm)) all0)
    have O71 := O7.keep Kc71 (allS (P := fun x => n0 ≤ x) (Nat.le_trans Z0 (Nat.le_of_eq g7.symm)) all0)
    refine own_go (A := T71.setTop (mkF m 71 #[.val (.int p1), .val (.int p2), .val (.int p3), .val (.int p4), .val (.int p5), .val (.int p6), .val (.int y1), .val (.int (3 : Int32)), .val (.int y3), .val (.int y4), .val (.int y5), .val (.int y6), .val (.ref b7), .val (.int (y1 * (3 : Int32))), .unset, .unset, .unset, .unset, .unset] [(.int (4 : Int32))])) (fun t_ k_ => ?_) ?_
    · show Steps p.tables e below (T71.setTop (mkF m 61 #[.val (.int p1), .val (.int p2), .val (.int p3), .val (.int p4), .val (.int p5), .val (.int p6), .val (.int y1), .val (.int (3 : Int32)), .val (.int y3), .val (.int y4), .val (.int y5), .val (.int y6), .unset, .unset, .unset, .unset, .unset, .unset, .unset] [(.ref b7)])) t_
      refine XS.astore X71.here hx rfl (hb hby at_61) rfl rfl (l' := #[.val (.int p1), .val (.int p2), .val (.int p3), .val (.int p4), .val (.int p5), .val (.int p6), .val (.int y1), .val (.int (3 : Int32)), .val (.int y3), .val (.int y4), .val (.int y5), .val (.int y6), .val (.ref b7), .unset, .unset, .unset, .unset, .unset, .unset]) rfl ?_
      refine XS.iload X71.here hx rfl (hb hby at_63) rfl ?_
      refine XS.iload X71.here hx rfl (hb hby at_65) rfl ?_
      refine XS.imul X71.here hx rfl (hb hby at_67) rfl ?_
      show Steps p.tables e below (T71.setTop (mkF m 68 #[.val (.int p1), .val (.int p2), .val (.int p3), .val (.int p4), .val (.int p5), .val (.int p6), .val (.int y1), .val (.int (3 : Int32)), .val (.int y3), .val (.int y4), .val (.int y5), .val (.int y6), .val (.ref b7), .unset, .unset, .unset, .unset, .unset, .unset] [(.int (y1 * (3 : Int32)))])) t_
      refine XS.istore X71.here hx rfl (hb hby at_68) rfl (l' := #[.val (.int p1), .val (.int p2), .val (.int p3), .val (.int p4), .val (.int p5), .val (.int p6), .val (.int y1), .val (.int (3 : Int32)), .val (.int y3), .val (.int y4), .val (.int y5), .val (.int y6), .val (.ref b7), .val (.int (y1 * (3 : Int32))), .unset, .unset, .unset, .unset, .unset]) rfl ?_
      refine XS.iconst X71.here hx rfl (hb hby at_70) ?_
      exact k_
    obtain ⟨T72, h72, k72, X72, e72, E72, A72, st72⟩ := newP X71 hx hZ (own_w hw 40 rfl) rfl (g := (mkF m 71 #[.val (.int p1), .val (.int p2), .val (.int p3), .val (.int p4), .val (.int p5), .val (.int p6), .val (.int y1), .val (.int (3 : Int32)), .val (.int y3), .val (.int y4), .val (.int y5), .val (.int y6), .val (.ref b7), .val (.int (y1 * (3 : Int32))), .unset, .unset, .unset, .unset, .unset] [(.int (4 : Int32))])) rfl (hb hby at_71) rfl (by decide) (cap := 4) (by decide) (by decide) (by decide) (by decide)
    obtain ⟨b72, g72⟩ : ∃ z, z = T71.heap.size := ⟨_, rfl⟩
    rw [← g72] at A72 st72
    refine own_go st72 ?_
    have K72 : Keep h0 h72 [] := K71.ext E72
    have O72 := O71.ext E72
    have B72 : Arv Z h72 b72 k72 .int (4 : Int32) [(.int (0 : Int32)), (.int (0 : Int32)), (.int (0 : Int32)), (.int (0 : Int32))] (.int (0 : Int32)) := (Arv.new A72 (by decide)).pad (pad_rep [] (.int (0 : Int32)) 4)
    refine own_go (A := T72.setTop (mkF m 77 #[.val (.int p1), .val (.int p2), .val (.int p3), .val (.int p4), .val (.int p5), .val (.int p6), .val (.int y1), .val (.int (3 : Int32)), .val (.int y3), .val (.int y4), .val (.int y5), .val (.int y6), .val (.ref b7), .val (.int (y1 * (3 : Int32))), .unset, .unset, .unset, .unset, .unset] [(.int (y1 * (3 : Int32))), (.int (0 : Int32)), (.ref b72), (.ref b72)])) (fun t_ k_ => ?_) ?_
    · show Steps p.tables e below (T72.setTop (mkF m 73 #[.val (.int p1), .val (.int p2), .val (.int p3), .val (.int p4), .val (.int p5), .val (.int p6), .val (.int y1), .val (.int (3 : Int32)), .val (.int y3), .val (.int y4), .val (.int y5), .val (.int y6), .val (.ref b7), .val (.int (y1 * (3 : Int32))), .unset, .unset, .unset, .unset, .unset] [(.ref b72)])) t_
      refine XS.dup X72.here hx rfl (hb hby at_73) rfl rfl ?_
      refine XS.iconst X72.here hx rfl (hb hby at_74) ?_
      refine XS.iload X72.here hx rfl (hb hby at_75) rfl ?_
      exact k_
    obtain ⟨cl73, Ar73, q73, S73, M73, H73, G73⟩ := id B72
    have hin73 : ¬ ((0 : Int32) < 0 ∨ cl73.slots.size ≤ ((0 : Int32)).toNatClampNeg) := inb_of S73 ⟨by decide, by decide⟩
    obtain ⟨T74, h74, X74, e74, W74, st74⟩ := stI X72 hx hZ e72 Ar73 (j := (0 : Int32)) hin73 (g := (mkF m 77 #[.val (.int p1), .val (.int p2), .val (.int p3), .val (.int p4), .val (.int p5), .val (.int p6), .val (.int y1), .val (.int (3 : Int32)), .val (.int y3), .val (.int y4), .val (.int y5), .val (.int y6), .val (.ref b7), .val (.int (y1 * (3 : Int32))), .unset, .unset, .unset, .unset, .unset] [(.int (y1 * (3 : Int32))), (.int (0 : Int32)), (.ref b72), (.ref b72)])) rfl rfl (hb hby at_77)
    have B74 : Arv Z h74 b72 k72 .int (4 : Int32) [(.int (y1 * (3 : Int32))), (.int (0 : Int32)), (.int (0 : Int32)), (.int (0 : Int32))] (.int (0 : Int32)) := Arv.set Ar73 q73 S73 M73 H73 G73 rfl W74 0 rfl (Nat.le_of_ble_eq_true rfl)
    refine own_go st74 ?_
    have K74 : Keep h0 h74 [] := K72.wr W74 (Or.inr (Nat.le_trans K71.1 (Nat.le_of_eq g72.symm)))
    have O74 := O72.wr W74 (Nat.le_trans Z0 (Nat.le_trans K71.1 (Nat.le_of_eq g72.symm)))
    have N74 := Fr.snoc X74 N71 (Nat.le_trans Z0 (Nat.le_trans K71.1 (Nat.le_of_eq g72.symm)))
    refine own_go (A := T74.setTop (mkF m 84 #[.val (.int p1), .val (.int p2), .val (.int p3), .val (.int p4), .val (.int p5), .val (.int p6), .val (.int y1), .val (.int (3 : Int32)), .val (.int y3), .val (.int y4), .val (.int y5), .val (.int y6), .val (.ref b7), .val (.int (y1 * (3 : Int32))), .unset, .unset, .unset, .unset, .unset] [(.int ((y1 * (3 : Int32)) + (1 : Int32))), (.int (1 : Int32)), (.ref b72), (.ref b72)])) (fun t_ k_ => ?_) ?_
    · show Steps p.tables e below (T74.setTop (mkF m 78 #[.val (.int p1), .val (.int p2), .val (.int p3), .val (.int p4), .val (.int p5), .val (.int p6), .val (.int y1), .val (.int (3 : Int32)), .val (.int y3), .val (.int y4), .val (.int y5), .val (.int y6), .val (.ref b7), .val (.int (y1 * (3 : Int32))), .unset, .unset, .unset, .unset, .unset] [(.ref b72)])) t_
      refine XS.dup X74.here hx rfl (hb hby at_78) rfl rfl ?_
      refine XS.iconst X74.here hx rfl (hb hby at_79) ?_
      refine XS.iload X74.here hx rfl (hb hby at_80) rfl ?_
      refine XS.iconst X74.here hx rfl (hb hby at_82) ?_
      show Steps p.tables e below (T74.setTop (mkF m 83 #[.val (.int p1), .val (.int p2), .val (.int p3), .val (.int p4), .val (.int p5), .val (.int p6), .val (.int y1), .val (.int (3 : Int32)), .val (.int y3), .val (.int y4), .val (.int y5), .val (.int y6), .val (.ref b7), .val (.int (y1 * (3 : Int32))), .unset, .unset, .unset, .unset, .unset] [(.int (1 : Int32)), (.int (y1 * (3 : Int32))), (.int (1 : Int32)), (.ref b72), (.ref b72)])) t_
      refine XS.iadd X74.here hx rfl (hb hby at_83) rfl ?_
      exact k_
    obtain ⟨cl75, Ar75, q75, S75, M75, H75, G75⟩ := id B74
    have hin75 : ¬ ((1 : Int32) < 0 ∨ cl75.slots.size ≤ ((1 : Int32)).toNatClampNeg) := inb_of S75 ⟨by decide, by decide⟩
    obtain ⟨T76, h76, X76, e76, W76, st76⟩ := stI X74 hx hZ e74 Ar75 (j := (1 : Int32)) hin75 (g := (mkF m 84 #[.val (.int p1), .val (.int p2), .val (.int p3), .val (.int p4), .val (.int p5), .val (.int p6), .val (.int y1), .val (.int (3 : Int32)), .val (.int y3), .val (.int y4), .val (.int y5), .val (.int y6), .val (.ref b7), .val (.int (y1 * (3 : Int32))), .unset, .unset, .unset, .unset, .unset] [(.int ((y1 * (3 : Int32)) + (1 : Int32))), (.int (1 : Int32)), (.ref b72), (.ref b72)])) rfl rfl (hb hby at_84)
    have B76 : Arv Z h76 b72 k72 .int (4 : Int32) [(.int (y1 * (3 : Int32))), (.int ((y1 * (3 : Int32)) + (1 : Int32))), (.int (0 : Int32)), (.int (0 : Int32))] (.int (0 : Int32)) := Arv.set Ar75 q75 S75 M75 H75 G75 rfl W76 1 rfl (Nat.le_of_ble_eq_true rfl)
    refine own_go st76 ?_
    have K76 : Keep h0 h76 [] := K74.wr W76 (Or.inr (Nat.le_trans K71.1 (Nat.le_of_eq g72.symm)))
    have O76 := O74.wr W76 (Nat.le_trans Z0 (Nat.le_trans K71.1 (Nat.le_of_eq g72.symm)))
    have N76 := Fr.snoc X76 N74 (Nat.le_trans Z0 (Nat.le_trans K71.1 (Nat.le_of_eq g72.symm)))
    refine own_go (A := T76.setTop (mkF m 91 #[.val (.int p1), .val (.int p2), .val (.int p3), .val (.int p4), .val (.int p5), .val (.int p6), .val (.int y1), .val (.int (3 : Int32)), .val (.int y3), .val (.int y4), .val (.int y5), .val (.int y6), .val (.ref b7), .val (.int (y1 * (3 : Int32))), .unset, .unset, .unset, .unset, .unset] [(.int ((y1 * (3 : Int32)) + (2 : Int32))), (.int (2 : Int32)), (.ref b72), (.ref b72)])) (fun t_ k_ => ?_) ?_
    · show Steps p.tables e below (T76.setTop (mkF m 85 #[.val (.int p1), .val (.int p2), .val (.int p3), .val (.int p4), .val (.int p5), .val (.int p6), .val (.int y1), .val (.int (3 : Int32)), .val (.int y3), .val (.int y4), .val (.int y5), .val (.int y6), .val (.ref b7), .val (.int (y1 * (3 : Int32))), .unset, .unset, .unset, .unset, .unset] [(.ref b72)])) t_
      refine XS.dup X76.here hx rfl (hb hby at_85) rfl rfl ?_
      refine XS.iconst X76.here hx rfl (hb hby at_86) ?_
      refine XS.iload X76.here hx rfl (hb hby at_87) rfl ?_
      refine XS.iconst X76.here hx rfl (hb hby at_89) ?_
      show Steps p.tables e below (T76.setTop (mkF m 90 #[.val (.int p1), .val (.int p2), .val (.int p3), .val (.int p4), .val (.int p5), .val (.int p6), .val (.int y1), .val (.int (3 : Int32)), .val (.int y3), .val (.int y4), .val (.int y5), .val (.int y6), .val (.ref b7), .val (.int (y1 * (3 : Int32))), .unset, .unset, .unset, .unset, .unset] [(.int (2 : Int32)), (.int (y1 * (3 : Int32))), (.int (2 : Int32)), (.ref b72), (.ref b72)])) t_
      refine XS.iadd X76.here hx rfl (hb hby at_90) rfl ?_
      exact k_
    obtain ⟨cl77, Ar77, q77, S77, M77, H77, G77⟩ := id B76
    have hin77 : ¬ ((2 : Int32) < 0 ∨ cl77.slots.size ≤ ((2 : Int32)).toNatClampNeg) := inb_of S77 ⟨by decide, by decide⟩
    obtain ⟨T78, h78, X78, e78, W78, st78⟩ := stI X76 hx hZ e76 Ar77 (j := (2 : Int32)) hin77 (g := (mkF m 91 #[.val (.int p1), .val (.int p2), .val (.int p3), .val (.int p4), .val (.int p5), .val (.int p6), .val (.int y1), .val (.int (3 : Int32)), .val (.int y3), .val (.int y4), .val (.int y5), .val (.int y6), .val (.ref b7), .val (.int (y1 * (3 : Int32))), .unset, .unset, .unset, .unset, .unset] [(.int ((y1 * (3 : Int32)) + (2 : Int32))), (.int (2 : Int32)), (.ref b72), (.ref b72)])) rfl rfl (hb hby at_91)
    have B78 : Arv Z h78 b72 k72 .int (4 : Int32) [(.int (y1 * (3 : Int32))), (.int ((y1 * (3 : Int32)) + (1 : Int32))), (.int ((y1 * (3 : Int32)) + (2 : Int32))), (.int (0 : Int32))] (.int (0 : Int32)) := Arv.set Ar77 q77 S77 M77 H77 G77 rfl W78 2 rfl (Nat.le_of_ble_eq_true rfl)
    refine own_go st78 ?_
    have K78 : Keep h0 h78 [] := K76.wr W78 (Or.inr (Nat.le_trans K71.1 (Nat.le_of_eq g72.symm)))
    have O78 := O76.wr W78 (Nat.le_trans Z0 (Nat.le_trans K71.1 (Nat.le_of_eq g72.symm)))
    have N78 := Fr.snoc X78 N76 (Nat.le_trans Z0 (Nat.le_trans K71.1 (Nat.le_of_eq g72.symm)))
    refine own_go (A := T78.setTop (mkF m 98 #[.val (.int p1), .val (.int p2), .val (.int p3), .val (.int p4), .val (.int p5), .val (.int p6), .val (.int y1), .val (.int (3 : Int32)), .val (.int y3), .val (.int y4), .val (.int y5), .val (.int y6), .val (.ref b7), .val (.int (y1 * (3 : Int32))), .unset, .unset, .unset, .unset, .unset] [(.int ((y1 * (3 : Int32)) + (3 : Int32))), (.int (3 : Int32)), (.ref b72), (.ref b72)])) (fun t_ k_ => ?_) ?_
    · show Steps p.tables e below (T78.setTop (mkF m 92 #[.val (.int p1), .val (.int p2), .val (.int p3), .val (.int p4), .val (.int p5), .val (.int p6), .val (.int y1), .val (.int (3 : Int32)), .val (.int y3), .val (.int y4), .val (.int y5), .val (.int y6), .val (.ref b7), .val (.int (y1 * (3 : Int32))), .unset, .unset, .unset, .unset, .unset] [(.ref b72)])) t_
      refine XS.dup X78.here hx rfl (hb hby at_92) rfl rfl ?_
      refine XS.iconst X78.here hx rfl (hb hby at_93) ?_
      refine XS.iload X78.here hx rfl (hb hby at_94) rfl ?_
      refine XS.iconst X78.here hx rfl (hb hby at_96) ?_
      show Steps p.tables e below (T78.setTop (mkF m 97 #[.val (.int p1), .val (.int p2), .val (.int p3), .val (.int p4), .val (.int p5), .val (.int p6), .val (.int y1), .val (.int (3 : Int32)), .val (.int y3), .val (.int y4), .val (.int y5), .val (.int y6), .val (.ref b7), .val (.int (y1 * (3 : Int32))), .unset, .unset, .unset, .unset, .unset] [(.int (3 : Int32)), (.int (y1 * (3 : Int32))), (.int (3 : Int32)), (.ref b72), (.ref b72)])) t_
      refine XS.iadd X78.here hx rfl (hb hby at_97) rfl ?_
      exact k_
    obtain ⟨cl79, Ar79, q79, S79, M79, H79, G79⟩ := id B78
    have hin79 : ¬ ((3 : Int32) < 0 ∨ cl79.slots.size ≤ ((3 : Int32)).toNatClampNeg) := inb_of S79 ⟨by decide, by decide⟩
    obtain ⟨T80, h80, X80, e80, W80, st80⟩ := stI X78 hx hZ e78 Ar79 (j := (3 : Int32)) hin79 (g := (mkF m 98 #[.val (.int p1), .val (.int p2), .val (.int p3), .val (.int p4), .val (.int p5), .val (.int p6), .val (.int y1), .val (.int (3 : Int32)), .val (.int y3), .val (.int y4), .val (.int y5), .val (.int y6), .val (.ref b7), .val (.int (y1 * (3 : Int32))), .unset, .unset, .unset, .unset, .unset] [(.int ((y1 * (3 : Int32)) + (3 : Int32))), (.int (3 : Int32)), (.ref b72), (.ref b72)])) rfl rfl (hb hby at_98)
    have B80 : Arv Z h80 b72 k72 .int (4 : Int32) [(.int (y1 * (3 : Int32))), (.int ((y1 * (3 : Int32)) + (1 : Int32))), (.int ((y1 * (3 : Int32)) + (2 : Int32))), (.int ((y1 * (3 : Int32)) + (3 : Int32)))] (.int (0 : Int32)) := Arv.set Ar79 q79 S79 M79 H79 G79 rfl W80 3 rfl (Nat.le_of_ble_eq_true rfl)
    refine own_go st80 ?_
    have K80 : Keep h0 h80 [] := K78.wr W80 (Or.inr (Nat.le_trans K71.1 (Nat.le_of_eq g72.symm)))
    have O80 := O78.wr W80 (Nat.le_trans Z0 (Nat.le_trans K71.1 (Nat.le_of_eq g72.symm)))
    have N80 := Fr.snoc X80 N78 (Nat.le_trans Z0 (Nat.le_trans K71.1 (Nat.le_of_eq g72.symm)))
    refine own_go (A := T80.setTop (mkF m 107 #[.val (.int p1), .val (.int p2), .val (.int p3), .val (.int p4), .val (.int p5), .val (.int p6), .val (.int y1), .val (.int (3 : Int32)), .val (.int y3), .val (.int y4), .val (.int y5), .val (.int y6), .val (.ref b7), .val (.int (y1 * (3 : Int32))), .val (.ref b72), .val (.int (0 : Int32)), .val (.int (0 : Int32)), .unset, .unset] [])) (fun t_ k_ => ?_) ?_
    · show Steps p.tables e below (T80.setTop (mkF m 99 #[.val (.int p1), .val (.int p2), .val (.int p3), .val (.int p4), .val (.int p5), .val (.int p6), .val (.int y1), .val (.int (3 : Int32)), .val (.int y3), .val (.int y4), .val (.int y5), .val (.int y6), .val (.ref b7), .val (.int (y1 * (3 : Int32))), .unset, .unset, .unset, .unset, .unset] [(.ref b72)])) t_
      refine XS.astore X80.here hx rfl (hb hby at_99) rfl rfl (l' := #[.val (.int p1), .val (.int p2), .val (.int p3), .val (.int p4), .val (.int p5), .val (.int p6), .val (.int y1), .val (.int (3 : Int32)), .val (.int y3), .val (.int y4), .val (.int y5), .val (.int y6), .val (.ref b7), .val (.int (y1 * (3 : Int32))), .val (.ref b72), .unset, .unset, .unset, .unset]) rfl ?_
      refine XS.iconst X80.here hx rfl (hb hby at_101) ?_
      refine XS.istore X80.here hx rfl (hb hby at_102) rfl (l' := #[.val (.int p1), .val (.int p2), .val (.int p3), .val (.int p4), .val (.int p5), .val (.int p6), .val (.int y1), .val (.int (3 : Int32)), .val (.int y3), .val (.int y4), .val (.int y5), .val (.int y6), .val (.ref b7), .val (.int (y1 * (3 : Int32))), .val (.ref b72), .val (.int (0 : Int32)), .unset, .unset, .unset]) rfl ?_
      refine XS.iconst X80.here hx rfl (hb hby at_104) ?_
      show Steps p.tables e below (T80.setTop (mkF m 105 #[.val (.int p1), .val (.int p2), .val (.int p3), .val (.int p4), .val (.int p5), .val (.int p6), .val (.int y1), .val (.int (3 : Int32)), .val (.int y3), .val (.int y4), .val (.int y5), .val (.int y6), .val (.ref b7), .val (.int (y1 * (3 : Int32))), .val (.ref b72), .val (.int (0 : Int32)), .unset, .unset, .unset] [(.int (0 : Int32))])) t_
      refine XS.istore X80.here hx rfl (hb hby at_105) rfl (l' := #[.val (.int p1), .val (.int p2), .val (.int p3), .val (.int p4), .val (.int p5), .val (.int p6), .val (.int y1), .val (.int (3 : Int32)), .val (.int y3), .val (.int y4), .val (.int y5), .val (.int y6), .val (.ref b7), .val (.int (y1 * (3 : Int32))), .val (.ref b72), .val (.int (0 : Int32)), .val (.int (0 : Int32)), .unset, .unset]) rfl ?_
      exact k_
    exact own_c107 l Z a0 hw p1 p2 p3 p4 p5 p6 dc kd ca bxc el y1 y3 y4 y5 y6 b7 b72 wk_71 sl_71 al_71 kw_71 vw_71 ks_71 vu_71 ed_71 kk_71 k72 (3 : Int32) (y1 * (3 : Int32)) ((y1 * (3 : Int32)) + (3 : Int32)) (3 : Int32) mc_71 [(.ref x0__71), (.ref x1__71), (.ref x2__71), .null, .null, .null, .null, .null, .null, .null] [(.int (y1 * (3 : Int32))), (.int ((y1 * (3 : Int32)) + (1 : Int32))), (.int ((y1 * (3 : Int32)) + (2 : Int32))), (.int ((y1 * (3 : Int32)) + (3 : Int32)))] h0 n0 Z0 X80 hx hZ hby hml hown Bd.returns (BodyLoose.notSynchronized Bd) hh e80 N80 K80 O80 u3 u4 ((((((A7.keep Kc71).ext E72).wr W74).wr W76).wr W78).wr W80) (((((r71_4.ext E72).other W74 (Or.inl (Nat.ne_of_lt (Nat.lt_of_lt_of_le r71_4.lt (Nat.le_of_eq g72.symm))))).other W76 (Or.inl (Nat.ne_of_lt (Nat.lt_of_lt_of_le r71_4.lt (Nat.le_of_eq g72.symm))))).other W78 (Or.inl (Nat.ne_of_lt (Nat.lt_of_lt_of_le r71_4.lt (Nat.le_of_eq g72.symm))))).other W80 (Or.inl (Nat.ne_of_lt (Nat.lt_of_lt_of_le r71_4.lt (Nat.le_of_eq g72.symm))))) (((((r71_5.ext E72).other W74 (Or.inl (Nat.ne_of_lt (Nat.lt_of_lt_of_le r71_4.lt (Nat.le_of_eq g72.symm))))).other W76 (Or.inl (Nat.ne_of_lt (Nat.lt_of_lt_of_le r71_4.lt (Nat.le_of_eq g72.symm))))).other W78 (Or.inl (Nat.ne_of_lt (Nat.lt_of_lt_of_le r71_4.lt (Nat.le_of_eq g72.symm))))).other W80 (Or.inl (Nat.ne_of_lt (Nat.lt_of_lt_of_le r71_4.lt (Nat.le_of_eq g72.symm))))) (((((r71_6.ext E72).other W74 (Or.inl (Nat.ne_of_lt (Nat.lt_of_lt_of_le r71_4.lt (Nat.le_of_eq g72.symm))))).other W76 (Or.inl (Nat.ne_of_lt (Nat.lt_of_lt_of_le r71_4.lt (Nat.le_of_eq g72.symm))))).other W78 (Or.inl (Nat.ne_of_lt (Nat.lt_of_lt_of_le r71_4.lt (Nat.le_of_eq g72.symm))))).other W80 (Or.inl (Nat.ne_of_lt (Nat.lt_of_lt_of_le r71_4.lt (Nat.le_of_eq g72.symm))))) (((((r71_7.ext E72).other W74 (Or.inl (Nat.ne_of_lt (Nat.lt_of_lt_of_le r71_4.lt (Nat.le_of_eq g72.symm))))).other W76 (Or.inl (Nat.ne_of_lt (Nat.lt_of_lt_of_le r71_4.lt (Nat.le_of_eq g72.symm))))).other W78 (Or.inl (Nat.ne_of_lt (Nat.lt_of_lt_of_le r71_4.lt (Nat.le_of_eq g72.symm))))).other W80 (Or.inl (Nat.ne_of_lt (Nat.lt_of_lt_of_le r71_4.lt (Nat.le_of_eq g72.symm))))) (((((r71_8.ext E72).other W74 (Nat.ne_of_lt (Nat.lt_of_lt_of_le r71_8.lt (Nat.le_of_eq g72.symm)))).other W76 (Nat.ne_of_lt (Nat.lt_of_lt_of_le r71_8.lt (Nat.le_of_eq g72.symm)))).other W78 (Nat.ne_of_lt (Nat.lt_of_lt_of_le r71_8.lt (Nat.le_of_eq g72.symm)))).other W80 (Nat.ne_of_lt (Nat.lt_of_lt_of_le r71_8.lt (Nat.le_of_eq g72.symm)))) (((((r71_9.ext E72).other W74 (Nat.ne_of_lt (Nat.lt_of_lt_of_le r71_9.lt (Nat.le_of_eq g72.symm)))).other W76 (Nat.ne_of_lt (Nat.lt_of_lt_of_le r71_9.lt (Nat.le_of_eq g72.symm)))).other W78 (Nat.ne_of_lt (Nat.lt_of_lt_of_le r71_9.lt (Nat.le_of_eq g72.symm)))).other W80 (Nat.ne_of_lt (Nat.lt_of_lt_of_le r71_9.lt (Nat.le_of_eq g72.symm)))) (((((r71_10.ext E72).wr W74).wr W76).wr W78).wr W80) (((((r71_11.ext E72).other W74 (Or.inl (Nat.ne_of_lt (Nat.lt_of_lt_of_le r71_10.lt (Nat.le_of_eq g72.symm))))).other W76 (Or.inl (Nat.ne_of_lt (Nat.lt_of_lt_of_le r71_10.lt (Nat.le_of_eq g72.symm))))).other W78 (Or.inl (Nat.ne_of_lt (Nat.lt_of_lt_of_le r71_10.lt (Nat.le_of_eq g72.symm))))).other W80 (Or.inl (Nat.ne_of_lt (Nat.lt_of_lt_of_le r71_10.lt (Nat.le_of_eq g72.symm))))) (((((r71_12.ext E72).other W74 (Or.inl (Nat.ne_of_lt (Nat.lt_of_lt_of_le r71_10.lt (Nat.le_of_eq g72.symm))))).other W76 (Or.inl (Nat.ne_of_lt (Nat.lt_of_lt_of_le r71_10.lt (Nat.le_of_eq g72.symm))))).other W78 (Or.inl (Nat.ne_of_lt (Nat.lt_of_lt_of_le r71_10.lt (Nat.le_of_eq g72.symm))))).other W80 (Or.inl (Nat.ne_of_lt (Nat.lt_of_lt_of_le r71_10.lt (Nat.le_of_eq g72.symm))))) (((((r71_13.ext E72).other W74 (Or.inl (Nat.ne_of_lt (Nat.lt_of_lt_of_le r71_10.lt (Nat.le_of_eq g72.symm))))).other W76 (Or.inl (Nat.ne_of_lt (Nat.lt_of_lt_of_le r71_10.lt (Nat.le_of_eq g72.symm))))).other W78 (Or.inl (Nat.ne_of_lt (Nat.lt_of_lt_of_le r71_10.lt (Nat.le_of_eq g72.symm))))).other W80 (Or.inl (Nat.ne_of_lt (Nat.lt_of_lt_of_le r71_10.lt (Nat.le_of_eq g72.symm))))) (((((r71_14.ext E72).other W74 (Nat.ne_of_lt (Nat.lt_of_lt_of_le r71_14.lt (Nat.le_of_eq g72.symm)))).other W76 (Nat.ne_of_lt (Nat.lt_of_lt_of_le r71_14.lt (Nat.le_of_eq g72.symm)))).other W78 (Nat.ne_of_lt (Nat.lt_of_lt_of_le r71_14.lt (Nat.le_of_eq g72.symm)))).other W80 (Nat.ne_of_lt (Nat.lt_of_lt_of_le r71_14.lt (Nat.le_of_eq g72.symm)))) B80 (Nat.le_trans Z0 (Nat.le_of_eq g7.symm)) (Nat.le_of_eq g7.symm) (Nat.le_trans Z0 (Nat.le_trans K7.1 r71_0)) (Nat.le_trans K7.1 r71_0) (Nat.le_trans Z0 (Nat.le_trans K7.1 r71_1)) (Nat.le_trans K7.1 r71_1) (Nat.le_trans Z0 (Nat.le_trans K7.1 r71_2)) (Nat.le_trans K7.1 r71_2) (Nat.le_trans Z0 (Nat.le_trans K7.1 r71_3)) (Nat.le_trans K7.1 r71_3) (Nat.le_trans Z0 (Nat.le_trans K71.1 (Nat.le_of_eq g72.symm))) (Nat.le_trans K71.1 (Nat.le_of_eq g72.symm)) r71_16 (Nat.ne_of_lt (Nat.lt_of_lt_of_le A7.lt r71_0)) (Nat.ne_of_lt (Nat.lt_of_lt_of_le A7.lt r71_1)) r71_21 (Ne.symm r71_17) (Ne.symm r71_19) (Ne.symm r71_18) (Ne.symm r71_20) (Nat.ne_of_lt (Nat.lt_of_lt_of_le A7.lt r71_2)) (Nat.ne_of_lt (Nat.lt_of_lt_of_le A7.lt r71_3)) (Ne.symm (Nat.ne_of_lt (Nat.lt_of_lt_of_le r71_8.lt (Nat.le_of_eq g72.symm)))) (Ne.symm (Nat.ne_of_lt (Nat.lt_of_lt_of_le r71_9.lt (Nat.le_of_eq g72.symm)))) (Ne.symm (Nat.ne_of_lt (Nat.lt_of_lt_of_le r71_10.lt (Nat.le_of_eq g72.symm)))) (Ne.symm (Nat.ne_of_lt (Nat.lt_of_lt_of_le r71_14.lt (Nat.le_of_eq g72.symm)))) r71_15 hbx hbn (by decide) (by rw [show ((3 : Int32).toInt) = 3 from rfl]; exact own_nr3 hbn) (by rw [show ((3 : Int32).toInt) = 3 from rfl]; exact own_ns3 hbn) hbp hbq hbp2 w71_0 w71_1 w71_2 w71_3 (own_ls (by rw [own_nr3 hbn]; omega)) rfl rfl (own_sp3 hbn r71_22 r71_23 r71_24 r71_25 r71_26 r71_27)
  · obtain ⟨_, _, ⟨T81, L81, k81, n81⟩, -, X81, ⟨Lc81, hQ81, l81, y81, z81⟩, st81⟩ := X7.specialBack hx (y := own_y14) rfl hown (mvT hZ (own_w hw 4 rfl)) (mvT hZ (own_w hw 5 rfl)) (mvT hZ (own_w hw 6 rfl)) (by decide) (backOf (W := 1) (rmIni4 l Z a0 hw [] b7 y1 dc kd ca bxc el h7 n0 (Nat.le_trans Z0 K7.1) O7 u1 u2 u3 u4 hbx u6 A7 F7_spares F7_partitions F7_replicas F7_workers F7_slots F7_partitioning (Nat.le_trans Z0 (Nat.le_of_eq g7.symm)) hbn) hZ (own_w hw 6 rfl) (own_w hw 3 rfl) (by decide) (by decide)) (g := (mkF m 58 #[.val (.int p1), .val (.int p2), .val (.int p3), .val (.int p4), .val (.int p5), .val (.int p6), .val (.int y1), .val (.int (4 : Int32)), .val (.int y3), .val (.int y4), .val (.int y5), .val (.int y6), .unset, .unset, .unset, .unset, .unset, .unset, .unset] [(.int (4 : Int32)), (.int (4 : Int32)), (.int y1), (.ref b7), (.ref b7)])) rfl (by rw [hml]; rfl) (Steps.refl _) (a := b7) (argsL := [(.int y1), (.int (4 : Int32)), (.int (4 : Int32))]) (rest := [(.ref b7)]) (lenOf pd_15 rfl) rfl (by show 2 * 0 + _ ≤ _; exact Nat.le_of_eq rfl) (hb hby at_58) (fun _ _ => ⟨rfl, e7, (by decide : 1 + 5 ≤ _), (by decide : 6 + 51 ≤ _)⟩)
    dsimp only [Pt.U, Pt.locs, Pt.cells, Pt.slots] at X81 l81 y81 z81 st81 hQ81
    subst l81 y81 z81
    obtain ⟨wk_81, kw_81, sl_81, ks_81, al_81, ed_81, kk_81, mc_81, vw_81, vu_81, x0__81, x1__81, x2__81, x3__81, rfl, N81q, Kc81, r81_0, r81_1, r81_2, r81_3, r81_4, r81_5, r81_6, r81_7, r81_8, r81_9, r81_10, r81_11, r81_12, r81_13, r81_14, r81_15, r81_16, r81_17, r81_18, r81_19, r81_20, r81_21, r81_22, r81_23, r81_24, r81_25, r81_26, r81_27, r81_28, r81_29, w81_0, w81_1, w81_2, w81_3⟩ := hQ81
    have N81 := Fr.app N0 N81q
    refine own_via st81 ?_
    have K81 : Keep h0 T81.heap [] := K7.trans Kc81 (allS (P := fun x => x ∈ _ ∨ _ ≤ x) (Or.inr (Nat.le_of_eq g7.symm)) all0)
    have O81 := O7.keep Kc81 (allS (P := fun x => n0 ≤ x) (Nat.le_trans Z0 (Nat.le_of_eq g7.symm)) all0)
    refine own_go (A := T81.setTop (mkF m 71 #[.val (.int p1), .val (.int p2), .val (.int p3), .val (.int p4), .val (.int p5), .val (.int p6), .val (.int y1), .val (.int (4 : Int32)), .val (.int y3), .val (.int y4), .val (.int y5), .val (.int y6), .val (.ref b7), .val (.int (y1 * (4 : Int32))), .unset, .unset, .unset, .unset, .unset] [(.int (4 : Int32))])) (fun t_ k_ => ?_) ?_
    · show Steps p.tables e below (T81.setTop (mkF m 61 #[.val (.int p1), .val (.int p2), .val (.int p3), .val (.int p4), .val (.int p5), .val (.int p6), .val (.int y1), .val (.int (4 : Int32)), .val (.int y3), .val (.int y4), .val (.int y5), .val (.int y6), .unset, .unset, .unset, .unset, .unset, .unset, .unset] [(.ref b7)])) t_
      refine XS.astore X81.here hx rfl (hb hby at_61) rfl rfl (l' := #[.val (.int p1), .val (.int p2), .val (.int p3), .val (.int p4), .val (.int p5), .val (.int p6), .val (.int y1), .val (.int (4 : Int32)), .val (.int y3), .val (.int y4), .val (.int y5), .val (.int y6), .val (.ref b7), .unset, .unset, .unset, .unset, .unset, .unset]) rfl ?_
      refine XS.iload X81.here hx rfl (hb hby at_63) rfl ?_
      refine XS.iload X81.here hx rfl (hb hby at_65) rfl ?_
      refine XS.imul X81.here hx rfl (hb hby at_67) rfl ?_
      show Steps p.tables e below (T81.setTop (mkF m 68 #[.val (.int p1), .val (.int p2), .val (.int p3), .val (.int p4), .val (.int p5), .val (.int p6), .val (.int y1), .val (.int (4 : Int32)), .val (.int y3), .val (.int y4), .val (.int y5), .val (.int y6), .val (.ref b7), .unset, .unset, .unset, .unset, .unset, .unset] [(.int (y1 * (4 : Int32)))])) t_
      refine XS.istore X81.here hx rfl (hb hby at_68) rfl (l' := #[.val (.int p1), .val (.int p2), .val (.int p3), .val (.int p4), .val (.int p5), .val (.int p6), .val (.int y1), .val (.int (4 : Int32)), .val (.int y3), .val (.int y4), .val (.int y5), .val (.int y6), .val (.ref b7), .val (.int (y1 * (4 : Int32))), .unset, .unset, .unset, .unset, .unset]) rfl ?_
      refine XS.iconst X81.here hx rfl (hb hby at_70) ?_
      exact k_
    obtain ⟨T82, h82, k82, X82, e82, E82, A82, st82⟩ := newP X81 hx hZ (own_w hw 40 rfl) rfl (g := (mkF m 71 #[.val (.int p1), .val (.int p2), .val (.int p3), .val (.int p4), .val (.int p5), .val (.int p6), .val (.int y1), .val (.int (4 : Int32)), .val (.int y3), .val (.int y4), .val (.int y5), .val (.int y6), .val (.ref b7), .val (.int (y1 * (4 : Int32))), .unset, .unset, .unset, .unset, .unset] [(.int (4 : Int32))])) rfl (hb hby at_71) rfl (by decide) (cap := 4) (by decide) (by decide) (by decide) (by decide)
    obtain ⟨b82, g82⟩ : ∃ z, z = T81.heap.size := ⟨_, rfl⟩
    rw [← g82] at A82 st82
    refine own_go st82 ?_
    have K82 : Keep h0 h82 [] := K81.ext E82
    have O82 := O81.ext E82
    have B82 : Arv Z h82 b82 k82 .int (4 : Int32) [(.int (0 : Int32)), (.int (0 : Int32)), (.int (0 : Int32)), (.int (0 : Int32))] (.int (0 : Int32)) := (Arv.new A82 (by decide)).pad (pad_rep [] (.int (0 : Int32)) 4)
    refine own_go (A := T82.setTop (mkF m 77 #[.val (.int p1), .val (.int p2), .val (.int p3), .val (.int p4), .val (.int p5), .val (.int p6), .val (.int y1), .val (.int (4 : Int32)), .val (.int y3), .val (.int y4), .val (.int y5), .val (.int y6), .val (.ref b7), .val (.int (y1 * (4 : Int32))), .unset, .unset, .unset, .unset, .unset] [(.int (y1 * (4 : Int32))), (.int (0 : Int32)), (.ref b82), (.ref b82)])) (fun t_ k_ => ?_) ?_
    · show Steps p.tables e below (T82.setTop (mkF m 73 #[.val (.int p1), .val (.int p2), .val (.int p3), .val (.int p4), .val (.int p5), .val (.int p6), .val (.int y1), .val (.int (4 : Int32)), .val (.int y3), .val (.int y4), .val (.int y5), .val (.int y6), .val (.ref b7), .val (.int (y1 * (4 : Int32))), .unset, .unset, .unset, .unset, .unset] [(.ref b82)])) t_
      refine XS.dup X82.here hx rfl (hb hby at_73) rfl rfl ?_
      refine XS.iconst X82.here hx rfl (hb hby at_74) ?_
      refine XS.iload X82.here hx rfl (hb hby at_75) rfl ?_
      exact k_
    obtain ⟨cl83, Ar83, q83, S83, M83, H83, G83⟩ := id B82
    have hin83 : ¬ ((0 : Int32) < 0 ∨ cl83.slots.size ≤ ((0 : Int32)).toNatClampNeg) := inb_of S83 ⟨by decide, by decide⟩
    obtain ⟨T84, h84, X84, e84, W84, st84⟩ := stI X82 hx hZ e82 Ar83 (j := (0 : Int32)) hin83 (g := (mkF m 77 #[.val (.int p1), .val (.int p2), .val (.int p3), .val (.int p4), .val (.int p5), .val (.int p6), .val (.int y1), .val (.int (4 : Int32)), .val (.int y3), .val (.int y4), .val (.int y5), .val (.int y6), .val (.ref b7), .val (.int (y1 * (4 : Int32))), .unset, .unset, .unset, .unset, .unset] [(.int (y1 * (4 : Int32))), (.int (0 : Int32)), (.ref b82), (.ref b82)])) rfl rfl (hb hby at_77)
    have B84 : Arv Z h84 b82 k82 .int (4 : Int32) [(.int (y1 * (4 : Int32))), (.int (0 : Int32)), (.int (0 : Int32)), (.int (0 : Int32))] (.int (0 : Int32)) := Arv.set Ar83 q83 S83 M83 H83 G83 rfl W84 0 rfl (Nat.le_of_ble_eq_true rfl)
    refine own_go st84 ?_
    have K84 : Keep h0 h84 [] := K82.wr W84 (Or.inr (Nat.le_trans K81.1 (Nat.le_of_eq g82.symm)))
    have O84 := O82.wr W84 (Nat.le_trans Z0 (Nat.le_trans K81.1 (Nat.le_of_eq g82.symm)))
    have N84 := Fr.snoc X84 N81 (Nat.le_trans Z0 (Nat.le_trans K81.1 (Nat.le_of_eq g82.symm)))
    refine own_go (A := T84.setTop (mkF m 84 #[.val (.int p1), .val (.int p2), .val (.int p3), .val (.int p4), .val (.int p5), .val (.int p6), .val (.int y1), .val (.int (4 : Int32)), .val (.int y3), .val (.int y4), .val (.int y5), .val (.int y6), .val (.ref b7), .val (.int (y1 * (4 : Int32))), .unset, .unset, .unset, .unset, .unset] [(.int ((y1 * (4 : Int32)) + (1 : Int32))), (.int (1 : Int32)), (.ref b82), (.ref b82)])) (fun t_ k_ => ?_) ?_
    · show Steps p.tables e below (T84.setTop (mkF m 78 #[.val (.int p1), .val (.int p2), .val (.int p3), .val (.int p4), .val (.int p5), .val (.int p6), .val (.int y1), .val (.int (4 : Int32)), .val (.int y3), .val (.int y4), .val (.int y5), .val (.int y6), .val (.ref b7), .val (.int (y1 * (4 : Int32))), .unset, .unset, .unset, .unset, .unset] [(.ref b82)])) t_
      refine XS.dup X84.here hx rfl (hb hby at_78) rfl rfl ?_
      refine XS.iconst X84.here hx rfl (hb hby at_79) ?_
      refine XS.iload X84.here hx rfl (hb hby at_80) rfl ?_
      refine XS.iconst X84.here hx rfl (hb hby at_82) ?_
      show Steps p.tables e below (T84.setTop (mkF m 83 #[.val (.int p1), .val (.int p2), .val (.int p3), .val (.int p4), .val (.int p5), .val (.int p6), .val (.int y1), .val (.int (4 : Int32)), .val (.int y3), .val (.int y4), .val (.int y5), .val (.int y6), .val (.ref b7), .val (.int (y1 * (4 : Int32))), .unset, .unset, .unset, .unset, .unset] [(.int (1 : Int32)), (.int (y1 * (4 : Int32))), (.int (1 : Int32)), (.ref b82), (.ref b82)])) t_
      refine XS.iadd X84.here hx rfl (hb hby at_83) rfl ?_
      exact k_
    obtain ⟨cl85, Ar85, q85, S85, M85, H85, G85⟩ := id B84
    have hin85 : ¬ ((1 : Int32) < 0 ∨ cl85.slots.size ≤ ((1 : Int32)).toNatClampNeg) := inb_of S85 ⟨by decide, by decide⟩
    obtain ⟨T86, h86, X86, e86, W86, st86⟩ := stI X84 hx hZ e84 Ar85 (j := (1 : Int32)) hin85 (g := (mkF m 84 #[.val (.int p1), .val (.int p2), .val (.int p3), .val (.int p4), .val (.int p5), .val (.int p6), .val (.int y1), .val (.int (4 : Int32)), .val (.int y3), .val (.int y4), .val (.int y5), .val (.int y6), .val (.ref b7), .val (.int (y1 * (4 : Int32))), .unset, .unset, .unset, .unset, .unset] [(.int ((y1 * (4 : Int32)) + (1 : Int32))), (.int (1 : Int32)), (.ref b82), (.ref b82)])) rfl rfl (hb hby at_84)
    have B86 : Arv Z h86 b82 k82 .int (4 : Int32) [(.int (y1 * (4 : Int32))), (.int ((y1 * (4 : Int32)) + (1 : Int32))), (.int (0 : Int32)), (.int (0 : Int32))] (.int (0 : Int32)) := Arv.set Ar85 q85 S85 M85 H85 G85 rfl W86 1 rfl (Nat.le_of_ble_eq_true rfl)
    refine own_go st86 ?_
    have K86 : Keep h0 h86 [] := K84.wr W86 (Or.inr (Nat.le_trans K81.1 (Nat.le_of_eq g82.symm)))
    have O86 := O84.wr W86 (Nat.le_trans Z0 (Nat.le_trans K81.1 (Nat.le_of_eq g82.symm)))
    have N86 := Fr.snoc X86 N84 (Nat.le_trans Z0 (Nat.le_trans K81.1 (Nat.le_of_eq g82.symm)))
    refine own_go (A := T86.setTop (mkF m 91 #[.val (.int p1), .val (.int p2), .val (.int p3), .val (.int p4), .val (.int p5), .val (.int p6), .val (.int y1), .val (.int (4 : Int32)), .val (.int y3), .val (.int y4), .val (.int y5), .val (.int y6), .val (.ref b7), .val (.int (y1 * (4 : Int32))), .unset, .unset, .unset, .unset, .unset] [(.int ((y1 * (4 : Int32)) + (2 : Int32))), (.int (2 : Int32)), (.ref b82), (.ref b82)])) (fun t_ k_ => ?_) ?_
    · show Steps p.tables e below (T86.setTop (mkF m 85 #[.val (.int p1), .val (.int p2), .val (.int p3), .val (.int p4), .val (.int p5), .val (.int p6), .val (.int y1), .val (.int (4 : Int32)), .val (.int y3), .val (.int y4), .val (.int y5), .val (.int y6), .val (.ref b7), .val (.int (y1 * (4 : Int32))), .unset, .unset, .unset, .unset, .unset] [(.ref b82)])) t_
      refine XS.dup X86.here hx rfl (hb hby at_85) rfl rfl ?_
      refine XS.iconst X86.here hx rfl (hb hby at_86) ?_
      refine XS.iload X86.here hx rfl (hb hby at_87) rfl ?_
      refine XS.iconst X86.here hx rfl (hb hby at_89) ?_
      show Steps p.tables e below (T86.setTop (mkF m 90 #[.val (.int p1), .val (.int p2), .val (.int p3), .val (.int p4), .val (.int p5), .val (.int p6), .val (.int y1), .val (.int (4 : Int32)), .val (.int y3), .val (.int y4), .val (.int y5), .val (.int y6), .val (.ref b7), .val (.int (y1 * (4 : Int32))), .unset, .unset, .unset, .unset, .unset] [(.int (2 : Int32)), (.int (y1 * (4 : Int32))), (.int (2 : Int32)), (.ref b82), (.ref b82)])) t_
      refine XS.iadd X86.here hx rfl (hb hby at_90) rfl ?_
      exact k_
    obtain ⟨cl87, Ar87, q87, S87, M87, H87, G87⟩ := id B86
    have hin87 : ¬ ((2 : Int32) < 0 ∨ cl87.slots.size ≤ ((2 : Int32)).toNatClampNeg) := inb_of S87 ⟨by decide, by decide⟩
    obtain ⟨T88, h88, X88, e88, W88, st88⟩ := stI X86 hx hZ e86 Ar87 (j := (2 : Int32)) hin87 (g := (mkF m 91 #[.val (.int p1), .val (.int p2), .val (.int p3), .val (.int p4), .val (.int p5), .val (.int p6), .val (.int y1), .val (.int (4 : Int32)), .val (.int y3), .val (.int y4), .val (.int y5), .val (.int y6), .val (.ref b7), .val (.int (y1 * (4 : Int32))), .unset, .unset, .unset, .unset, .unset] [(.int ((y1 * (4 : Int32)) + (2 : Int32))), (.int (2 : Int32)), (.ref b82), (.ref b82)])) rfl rfl (hb hby at_91)
    have B88 : Arv Z h88 b82 k82 .int (4 : Int32) [(.int (y1 * (4 : Int32))), (.int ((y1 * (4 : Int32)) + (1 : Int32))), (.int ((y1 * (4 : Int32)) + (2 : Int32))), (.int (0 : Int32))] (.int (0 : Int32)) := Arv.set Ar87 q87 S87 M87 H87 G87 rfl W88 2 rfl (Nat.le_of_ble_eq_true rfl)
    refine own_go st88 ?_
    have K88 : Keep h0 h88 [] := K86.wr W88 (Or.inr (Nat.le_trans K81.1 (Nat.le_of_eq g82.symm)))
    have O88 := O86.wr W88 (Nat.le_trans Z0 (Nat.le_trans K81.1 (Nat.le_of_eq g82.symm)))
    have N88 := Fr.snoc X88 N86 (Nat.le_trans Z0 (Nat.le_trans K81.1 (Nat.le_of_eq g82.symm)))
    refine own_go (A := T88.setTop (mkF m 98 #[.val (.int p1), .val (.int p2), .val (.int p3), .val (.int p4), .val (.int p5), .val (.int p6), .val (.int y1), .val (.int (4 : Int32)), .val (.int y3), .val (.int y4), .val (.int y5), .val (.int y6), .val (.ref b7), .val (.int (y1 * (4 : Int32))), .unset, .unset, .unset, .unset, .unset] [(.int ((y1 * (4 : Int32)) + (3 : Int32))), (.int (3 : Int32)), (.ref b82), (.ref b82)])) (fun t_ k_ => ?_) ?_
    · show Steps p.tables e below (T88.setTop (mkF m 92 #[.val (.int p1), .val (.int p2), .val (.int p3), .val (.int p4), .val (.int p5), .val (.int p6), .val (.int y1), .val (.int (4 : Int32)), .val (.int y3), .val (.int y4), .val (.int y5), .val (.int y6), .val (.ref b7), .val (.int (y1 * (4 : Int32))), .unset, .unset, .unset, .unset, .unset] [(.ref b82)])) t_
      refine XS.dup X88.here hx rfl (hb hby at_92) rfl rfl ?_
      refine XS.iconst X88.here hx rfl (hb hby at_93) ?_
      refine XS.iload X88.here hx rfl (hb hby at_94) rfl ?_
      refine XS.iconst X88.here hx rfl (hb hby at_96) ?_
      show Steps p.tables e below (T88.setTop (mkF m 97 #[.val (.int p1), .val (.int p2), .val (.int p3), .val (.int p4), .val (.int p5), .val (.int p6), .val (.int y1), .val (.int (4 : Int32)), .val (.int y3), .val (.int y4), .val (.int y5), .val (.int y6), .val (.ref b7), .val (.int (y1 * (4 : Int32))), .unset, .unset, .unset, .unset, .unset] [(.int (3 : Int32)), (.int (y1 * (4 : Int32))), (.int (3 : Int32)), (.ref b82), (.ref b82)])) t_
      refine XS.iadd X88.here hx rfl (hb hby at_97) rfl ?_
      exact k_
    obtain ⟨cl89, Ar89, q89, S89, M89, H89, G89⟩ := id B88
    have hin89 : ¬ ((3 : Int32) < 0 ∨ cl89.slots.size ≤ ((3 : Int32)).toNatClampNeg) := inb_of S89 ⟨by decide, by decide⟩
    obtain ⟨T90, h90, X90, e90, W90, st90⟩ := stI X88 hx hZ e88 Ar89 (j := (3 : Int32)) hin89 (g := (mkF m 98 #[.val (.int p1), .val (.int p2), .val (.int p3), .val (.int p4), .val (.int p5), .val (.int p6), .val (.int y1), .val (.int (4 : Int32)), .val (.int y3), .val (.int y4), .val (.int y5), .val (.int y6), .val (.ref b7), .val (.int (y1 * (4 : Int32))), .unset, .unset, .unset, .unset, .unset] [(.int ((y1 * (4 : Int32)) + (3 : Int32))), (.int (3 : Int32)), (.ref b82), (.ref b82)])) rfl rfl (hb hby at_98)
    have B90 : Arv Z h90 b82 k82 .int (4 : Int32) [(.int (y1 * (4 : Int32))), (.int ((y1 * (4 : Int32)) + (1 : Int32))), (.int ((y1 * (4 : Int32)) + (2 : Int32))), (.int ((y1 * (4 : Int32)) + (3 : Int32)))] (.int (0 : Int32)) := Arv.set Ar89 q89 S89 M89 H89 G89 rfl W90 3 rfl (Nat.le_of_ble_eq_true rfl)
    refine own_go st90 ?_
    have K90 : Keep h0 h90 [] := K88.wr W90 (Or.inr (Nat.le_trans K81.1 (Nat.le_of_eq g82.symm)))
    have O90 := O88.wr W90 (Nat.le_trans Z0 (Nat.le_trans K81.1 (Nat.le_of_eq g82.symm)))
    have N90 := Fr.snoc X90 N88 (Nat.le_trans Z0 (Nat.le_trans K81.1 (Nat.le_of_eq g82.symm)))
    refine own_go (A := T90.setTop (mkF m 107 #[.val (.int p1), .val (.int p2), .val (.int p3), .val (.int p4), .val (.int p5), .val (.int p6), .val (.int y1), .val (.int (4 : Int32)), .val (.int y3), .val (.int y4), .val (.int y5), .val (.int y6), .val (.ref b7), .val (.int (y1 * (4 : Int32))), .val (.ref b82), .val (.int (0 : Int32)), .val (.int (0 : Int32)), .unset, .unset] [])) (fun t_ k_ => ?_) ?_
    · show Steps p.tables e below (T90.setTop (mkF m 99 #[.val (.int p1), .val (.int p2), .val (.int p3), .val (.int p4), .val (.int p5), .val (.int p6), .val (.int y1), .val (.int (4 : Int32)), .val (.int y3), .val (.int y4), .val (.int y5), .val (.int y6), .val (.ref b7), .val (.int (y1 * (4 : Int32))), .unset, .unset, .unset, .unset, .unset] [(.ref b82)])) t_
      refine XS.astore X90.here hx rfl (hb hby at_99) rfl rfl (l' := #[.val (.int p1), .val (.int p2), .val (.int p3), .val (.int p4), .val (.int p5), .val (.int p6), .val (.int y1), .val (.int (4 : Int32)), .val (.int y3), .val (.int y4), .val (.int y5), .val (.int y6), .val (.ref b7), .val (.int (y1 * (4 : Int32))), .val (.ref b82), .unset, .unset, .unset, .unset]) rfl ?_
      refine XS.iconst X90.here hx rfl (hb hby at_101) ?_
      refine XS.istore X90.here hx rfl (hb hby at_102) rfl (l' := #[.val (.int p1), .val (.int p2), .val (.int p3), .val (.int p4), .val (.int p5), .val (.int p6), .val (.int y1), .val (.int (4 : Int32)), .val (.int y3), .val (.int y4), .val (.int y5), .val (.int y6), .val (.ref b7), .val (.int (y1 * (4 : Int32))), .val (.ref b82), .val (.int (0 : Int32)), .unset, .unset, .unset]) rfl ?_
      refine XS.iconst X90.here hx rfl (hb hby at_104) ?_
      show Steps p.tables e below (T90.setTop (mkF m 105 #[.val (.int p1), .val (.int p2), .val (.int p3), .val (.int p4), .val (.int p5), .val (.int p6), .val (.int y1), .val (.int (4 : Int32)), .val (.int y3), .val (.int y4), .val (.int y5), .val (.int y6), .val (.ref b7), .val (.int (y1 * (4 : Int32))), .val (.ref b82), .val (.int (0 : Int32)), .unset, .unset, .unset] [(.int (0 : Int32))])) t_
      refine XS.istore X90.here hx rfl (hb hby at_105) rfl (l' := #[.val (.int p1), .val (.int p2), .val (.int p3), .val (.int p4), .val (.int p5), .val (.int p6), .val (.int y1), .val (.int (4 : Int32)), .val (.int y3), .val (.int y4), .val (.int y5), .val (.int y6), .val (.ref b7), .val (.int (y1 * (4 : Int32))), .val (.ref b82), .val (.int (0 : Int32)), .val (.int (0 : Int32)), .unset, .unset]) rfl ?_
      exact k_
    exact own_c107 l Z a0 hw p1 p2 p3 p4 p5 p6 dc kd ca bxc el y1 y3 y4 y5 y6 b7 b82 wk_81 sl_81 al_81 kw_81 vw_81 ks_81 vu_81 ed_81 kk_81 k82 (4 : Int32) (y1 * (4 : Int32)) ((y1 * (4 : Int32)) + (4 : Int32)) (4 : Int32) mc_81 [(.ref x0__81), (.ref x1__81), (.ref x2__81), (.ref x3__81), .null, .null, .null, .null, .null, .null] [(.int (y1 * (4 : Int32))), (.int ((y1 * (4 : Int32)) + (1 : Int32))), (.int ((y1 * (4 : Int32)) + (2 : Int32))), (.int ((y1 * (4 : Int32)) + (3 : Int32)))] h0 n0 Z0 X90 hx hZ hby hml hown Bd.returns (BodyLoose.notSynchronized Bd) hh e90 N90 K90 O90 u3 u4 ((((((A7.keep Kc81).ext E82).wr W84).wr W86).wr W88).wr W90) (((((r81_4.ext E82).other W84 (Or.inl (Nat.ne_of_lt (Nat.lt_of_lt_of_le r81_4.lt (Nat.le_of_eq g82.symm))))).other W86 (Or.inl (Nat.ne_of_lt (Nat.lt_of_lt_of_le r81_4.lt (Nat.le_of_eq g82.symm))))).other W88 (Or.inl (Nat.ne_of_lt (Nat.lt_of_lt_of_le r81_4.lt (Nat.le_of_eq g82.symm))))).other W90 (Or.inl (Nat.ne_of_lt (Nat.lt_of_lt_of_le r81_4.lt (Nat.le_of_eq g82.symm))))) (((((r81_5.ext E82).other W84 (Or.inl (Nat.ne_of_lt (Nat.lt_of_lt_of_le r81_4.lt (Nat.le_of_eq g82.symm))))).other W86 (Or.inl (Nat.ne_of_lt (Nat.lt_of_lt_of_le r81_4.lt (Nat.le_of_eq g82.symm))))).other W88 (Or.inl (Nat.ne_of_lt (Nat.lt_of_lt_of_le r81_4.lt (Nat.le_of_eq g82.symm))))).other W90 (Or.inl (Nat.ne_of_lt (Nat.lt_of_lt_of_le r81_4.lt (Nat.le_of_eq g82.symm))))) (((((r81_6.ext E82).other W84 (Or.inl (Nat.ne_of_lt (Nat.lt_of_lt_of_le r81_4.lt (Nat.le_of_eq g82.symm))))).other W86 (Or.inl (Nat.ne_of_lt (Nat.lt_of_lt_of_le r81_4.lt (Nat.le_of_eq g82.symm))))).other W88 (Or.inl (Nat.ne_of_lt (Nat.lt_of_lt_of_le r81_4.lt (Nat.le_of_eq g82.symm))))).other W90 (Or.inl (Nat.ne_of_lt (Nat.lt_of_lt_of_le r81_4.lt (Nat.le_of_eq g82.symm))))) (((((r81_7.ext E82).other W84 (Or.inl (Nat.ne_of_lt (Nat.lt_of_lt_of_le r81_4.lt (Nat.le_of_eq g82.symm))))).other W86 (Or.inl (Nat.ne_of_lt (Nat.lt_of_lt_of_le r81_4.lt (Nat.le_of_eq g82.symm))))).other W88 (Or.inl (Nat.ne_of_lt (Nat.lt_of_lt_of_le r81_4.lt (Nat.le_of_eq g82.symm))))).other W90 (Or.inl (Nat.ne_of_lt (Nat.lt_of_lt_of_le r81_4.lt (Nat.le_of_eq g82.symm))))) (((((r81_8.ext E82).other W84 (Nat.ne_of_lt (Nat.lt_of_lt_of_le r81_8.lt (Nat.le_of_eq g82.symm)))).other W86 (Nat.ne_of_lt (Nat.lt_of_lt_of_le r81_8.lt (Nat.le_of_eq g82.symm)))).other W88 (Nat.ne_of_lt (Nat.lt_of_lt_of_le r81_8.lt (Nat.le_of_eq g82.symm)))).other W90 (Nat.ne_of_lt (Nat.lt_of_lt_of_le r81_8.lt (Nat.le_of_eq g82.symm)))) (((((r81_9.ext E82).other W84 (Nat.ne_of_lt (Nat.lt_of_lt_of_le r81_9.lt (Nat.le_of_eq g82.symm)))).other W86 (Nat.ne_of_lt (Nat.lt_of_lt_of_le r81_9.lt (Nat.le_of_eq g82.symm)))).other W88 (Nat.ne_of_lt (Nat.lt_of_lt_of_le r81_9.lt (Nat.le_of_eq g82.symm)))).other W90 (Nat.ne_of_lt (Nat.lt_of_lt_of_le r81_9.lt (Nat.le_of_eq g82.symm)))) (((((r81_10.ext E82).wr W84).wr W86).wr W88).wr W90) (((((r81_11.ext E82).other W84 (Or.inl (Nat.ne_of_lt (Nat.lt_of_lt_of_le r81_10.lt (Nat.le_of_eq g82.symm))))).other W86 (Or.inl (Nat.ne_of_lt (Nat.lt_of_lt_of_le r81_10.lt (Nat.le_of_eq g82.symm))))).other W88 (Or.inl (Nat.ne_of_lt (Nat.lt_of_lt_of_le r81_10.lt (Nat.le_of_eq g82.symm))))).other W90 (Or.inl (Nat.ne_of_lt (Nat.lt_of_lt_of_le r81_10.lt (Nat.le_of_eq g82.symm))))) (((((r81_12.ext E82).other W84 (Or.inl (Nat.ne_of_lt (Nat.lt_of_lt_of_le r81_10.lt (Nat.le_of_eq g82.symm))))).other W86 (Or.inl (Nat.ne_of_lt (Nat.lt_of_lt_of_le r81_10.lt (Nat.le_of_eq g82.symm))))).other W88 (Or.inl (Nat.ne_of_lt (Nat.lt_of_lt_of_le r81_10.lt (Nat.le_of_eq g82.symm))))).other W90 (Or.inl (Nat.ne_of_lt (Nat.lt_of_lt_of_le r81_10.lt (Nat.le_of_eq g82.symm))))) (((((r81_13.ext E82).other W84 (Or.inl (Nat.ne_of_lt (Nat.lt_of_lt_of_le r81_10.lt (Nat.le_of_eq g82.symm))))).other W86 (Or.inl (Nat.ne_of_lt (Nat.lt_of_lt_of_le r81_10.lt (Nat.le_of_eq g82.symm))))).other W88 (Or.inl (Nat.ne_of_lt (Nat.lt_of_lt_of_le r81_10.lt (Nat.le_of_eq g82.symm))))).other W90 (Or.inl (Nat.ne_of_lt (Nat.lt_of_lt_of_le r81_10.lt (Nat.le_of_eq g82.symm))))) (((((r81_14.ext E82).other W84 (Nat.ne_of_lt (Nat.lt_of_lt_of_le r81_14.lt (Nat.le_of_eq g82.symm)))).other W86 (Nat.ne_of_lt (Nat.lt_of_lt_of_le r81_14.lt (Nat.le_of_eq g82.symm)))).other W88 (Nat.ne_of_lt (Nat.lt_of_lt_of_le r81_14.lt (Nat.le_of_eq g82.symm)))).other W90 (Nat.ne_of_lt (Nat.lt_of_lt_of_le r81_14.lt (Nat.le_of_eq g82.symm)))) B90 (Nat.le_trans Z0 (Nat.le_of_eq g7.symm)) (Nat.le_of_eq g7.symm) (Nat.le_trans Z0 (Nat.le_trans K7.1 r81_0)) (Nat.le_trans K7.1 r81_0) (Nat.le_trans Z0 (Nat.le_trans K7.1 r81_1)) (Nat.le_trans K7.1 r81_1) (Nat.le_trans Z0 (Nat.le_trans K7.1 r81_2)) (Nat.le_trans K7.1 r81_2) (Nat.le_trans Z0 (Nat.le_trans K7.1 r81_3)) (Nat.le_trans K7.1 r81_3) (Nat.le_trans Z0 (Nat.le_trans K81.1 (Nat.le_of_eq g82.symm))) (Nat.le_trans K81.1 (Nat.le_of_eq g82.symm)) r81_16 (Nat.ne_of_lt (Nat.lt_of_lt_of_le A7.lt r81_0)) (Nat.ne_of_lt (Nat.lt_of_lt_of_le A7.lt r81_1)) r81_21 (Ne.symm r81_17) (Ne.symm r81_19) (Ne.symm r81_18) (Ne.symm r81_20) (Nat.ne_of_lt (Nat.lt_of_lt_of_le A7.lt r81_2)) (Nat.ne_of_lt (Nat.lt_of_lt_of_le A7.lt r81_3)) (Ne.symm (Nat.ne_of_lt (Nat.lt_of_lt_of_le r81_8.lt (Nat.le_of_eq g82.symm)))) (Ne.symm (Nat.ne_of_lt (Nat.lt_of_lt_of_le r81_9.lt (Nat.le_of_eq g82.symm)))) (Ne.symm (Nat.ne_of_lt (Nat.lt_of_lt_of_le r81_10.lt (Nat.le_of_eq g82.symm)))) (Ne.symm (Nat.ne_of_lt (Nat.lt_of_lt_of_le r81_14.lt (Nat.le_of_eq g82.symm)))) r81_15 hbx hbn (by decide) (by rw [show ((4 : Int32).toInt) = 4 from rfl]; exact own_nr4 hbn) (by rw [show ((4 : Int32).toInt) = 4 from rfl]; exact own_ns4 hbn) hbp hbq hbp2 w81_0 w81_1 w81_2 w81_3 (own_ls (by rw [own_nr4 hbn]; omega)) rfl rfl (own_sp4 hbn r81_22 r81_23 r81_24 r81_25 r81_26 r81_27 r81_28 r81_29)
theorem own_len {args : Array Value} {s : State} {t : Term} {a : Addr} {cl : Cell} {z : Int32} (ev : t.eval args s none [] s = some (.ref a)) (hA : s.arrayAt? a = some cl) (h2 : (Term.length t).eval args s none [] s = some (.int z)) : cl.slots.size < 2 ^ 31 ∧ cl.slots.size.toInt32 = z := by
  have h3 := h2
  simp only [Term.eval, ev, hA, Option.bind_eq_bind, Option.bind_some] at h3
  by_cases q : cl.slots.size < 2 ^ 31
  · simp [q] at h3; exact ⟨q, h3⟩
  · simp [q] at h3
theorem own_arr0 {args : Array Value} {s : State} (hf : Fit s) {t : Term} {a : Addr} {ty : FieldType} {dv : Value} (ev : t.eval args s none [] s = some (.ref a)) (h1 : (Jvm.Cond.arrayOf t ty).value args s none s [] = some true) (h2 : (Term.length t).eval args s none [] s = some (.int 0)) : ∃ k, Arv s s.heap a k ty 0 [] dv := by
  obtain ⟨cl, A⟩ := Arr.start ev h1
  have hs := own_len ev (A.fin (State.Warmed39.refl s).alike) h2
  exact ⟨cl.cls, Arv.start hf A hs.1 hs.2 (by decide) rfl trivial⟩
theorem own_bxs {args : Array Value} {s : State} {C f d : String} {a : Addr} (ev : (Term.static C f d).eval args s none [] s = some (.ref a)) (h1 : (Jvm.Cond.arrayOf (.static C f d) (.object "java/lang/Integer")).value args s none s [] = some true) (h2 : (Term.length (.static C f d)).eval args s none [] s = some (.int 256))
    (h : (Jvm.Cond.all (.static C f d) (.and (.exactly (.elem (.static C f d) (.index 0)) "java/lang/Integer") (.eq (.field (.elem (.static C f d) (.index 0)) "java/lang/Integer" "value" "I") (.sub (.index 0) (.int 128))))).value args s none s [] = some true) : ∃ c, Bxs s a c "java/lang/Integer" "I" (256 : Int32) own_bval := by
  obtain ⟨cl, A⟩ := Arr.start ev h1
  have hs := own_len ev (A.fin (State.Warmed39.refl s).alike) h2
  refine ⟨cl, Bxs.start (t := .static C f d) (F := .sub (.index 0) (.int 128)) (fun idx => ev) A hs.1 hs.2 (by decide) h (fun X j hj q => ?_)⟩
  refine eqv_i ?_ q
  have e : (Term.index 0).eval args s none [j.toNatClampNeg] s = some (.int j) := idx_at hj
  generalize hT : Term.index 0 = T at e
  simp [Term.eval, e]
set_option maxRecDepth 65536 in
set_option maxHeartbeats 40000000 in
theorem comes_1 {Post : Tables → Env → Array Value → State → Outcome → State → Prop} (hpost : ∀ tb e args s v u, (limb_1_1.after args s (.returned v) u = true ∧ limb_1_2.after args s (.returned v) u = true ∧ True) → FrameEnd s (.returned v) u (Jvm.fieldLocs frame_1_writes args s ++ Jvm.arrayLocs frame_1_arrays args s ++ Jvm.staticLocs frame_1_statics s) 32 256 → Post tb e args s (.returned v) u) :
    ArmFor flags0 classFile x code maxLocals ret World_1 tables_1 room_1 Calls_1 rest_1 Pre_1 Post := by
  intro l hfl _ _ p e ha hc hk s m args below hf hA hF happ hP
  obtain ⟨hcalls, hrest, hpre⟩ := hP
  obtain ⟨-, -, -, hnamed, -, -, -, hat⟩ := (Spec.applies_iff hf).mp happ
  obtain ⟨hg, hn⟩ := and_e (Cond.before_iff.mp (show (Jvm.Cond.and given_1 narrow_1).before args s = true from hpre))
  obtain ⟨hg_0, hg_1⟩ := and_e hg
  obtain ⟨hg_2, hg_3⟩ := and_e hg_1
  obtain ⟨hg_4, hg_5⟩ := and_e hg_3
  obtain ⟨hg_6, hg_7⟩ := and_e hg_5
  obtain ⟨hg_8, hg_9⟩ := and_e hg_7
  obtain ⟨hg_10, hg_11⟩ := and_e hg_9
  obtain ⟨w0, w1, w2, w3, w4, w5, rfl⟩ : ∃ w0 w1 w2 w3 w4 w5 : Value, args = #[w0, w1, w2, w3, w4, w5] := by
    have hs : args.size = 6 := by simpa [Cond.value, given_1] using hg_0
    obtain ⟨L⟩ := args
    match L, hs with
    | [w0, w1, w2, w3, w4, w5], _ => exact ⟨w0, w1, w2, w3, w4, w5, rfl⟩
  have hw := fun d (hd : d ∈ tables_1) => atoms_spec (ws := Jvm.Cond.code x code maxLocals ret :: tables_1) hat d (List.mem_cons_of_mem _ hd)
  have hfit : Fit s := fun {y c} hc i hi => by
    obtain ⟨ha, rfl⟩ := Array.getElem?_eq_some_iff.mp hc
    have q := List.all_eq_true.mp ((Array.all_eq_true_iff_forall_mem.mp hF) _ (Array.getElem_mem ha)) i (List.mem_range.mpr hi)
    simpa [Array.getElem?_eq_getElem hi] using q
  obtain ⟨i0, ei0⟩ := is_v hg_2
  obtain rfl : w0 = (.int i0) := Option.some.inj ei0
  obtain ⟨i1, ei1⟩ := is_v hg_4
  obtain rfl : w1 = (.int i1) := Option.some.inj ei1
  obtain ⟨i2, ei2⟩ := is_v hg_6
  obtain rfl : w2 = (.int i2) := Option.some.inj ei2
  obtain ⟨i3, ei3⟩ := is_v hg_8
  obtain rfl : w3 = (.int i3) := Option.some.inj ei3
  obtain ⟨i4, ei4⟩ := is_v hg_10
  obtain rfl : w4 = (.int i4) := Option.some.inj ei4
  obtain ⟨i5, ei5⟩ := is_v hg_11
  obtain rfl : w5 = (.int i5) := Option.some.inj ei5
  obtain ⟨hsets, hown0⟩ := atoms_of _ (rest_1_c_eq ▸ (show rest_1_c.before _ s = true from hrest))
  have hdc := Cond.before_iff.mp (hsets _ (List.mem_of_getElem? (i := 6) rfl))
  obtain ⟨dc, evdc⟩ := arr_v hdc
  have Sdc : Sta s s.heap "java/util/ArrayList" "DEFAULTCAPACITY_EMPTY_ELEMENTDATA" "[Ljava/lang/Object;" (.ref dc) := Sta.start evdc (Or.inr ⟨(own_w hw 12 rfl), (hsets _ (List.mem_of_getElem? (i := 2) rfl))⟩)
  obtain ⟨kd, Adc⟩ := own_arr0 (dv := .null) hfit evdc hdc (own_eqInt (Cond.before_iff.mp (hsets _ (List.mem_of_getElem? (i := 8) rfl))))
  have Shi : Sta s s.heap "java/lang/Integer$IntegerCache" "high" "I" (.int (127 : Int32)) := Sta.start (own_eqInt (Cond.before_iff.mp (hsets _ (List.mem_of_getElem? (i := 12) rfl)))) (Or.inl (hsets _ (List.mem_of_getElem? (i := 10) rfl)))
  have hca := Cond.before_iff.mp (hsets _ (List.mem_of_getElem? (i := 13) rfl))
  obtain ⟨ca, evca⟩ := arr_v hca
  have Sca : Sta s s.heap "java/lang/Integer$IntegerCache" "cache" "[Ljava/lang/Integer;" (.ref ca) := Sta.start evca (Or.inr ⟨(own_w hw 54 rfl), (hsets _ (List.mem_of_getElem? (i := 11) rfl))⟩)
  obtain ⟨bxc, hbx⟩ := own_bxs evca hca (own_eqInt (Cond.before_iff.mp (hsets _ (List.mem_of_getElem? (i := 15) rfl)))) (Cond.before_iff.mp (hsets _ (List.mem_of_getElem? (i := 16) rfl)))
  obtain ⟨el, evel⟩ := exa_v (Cond.before_iff.mp (hsets _ (List.mem_of_getElem? (i := 19) rfl)))
  have Sel : Sta s s.heap "java/util/ImmutableCollections" "EMPTY_LIST" "Ljava/util/ImmutableCollections$ListN;" (.ref el) := Sta.start evel (Or.inl (hsets _ (List.mem_of_getElem? (i := 18) rfl)))
  obtain ⟨n, o, h1, h2, h3, _, L, rfl, ⟨rfl, N, -⟩, hq⟩ := rm0 l s _ hw tables_1 i0 i1 i2 i3 i4 i5 dc kd ca bxc el s.heap s.heap.size (Nat.le_refl _) (Old.start s) Sdc Adc Shi Sca hbx Sel p e ha hc hk s m _ below hf ((Spec.applies_iff_loose hf).mp happ).1 ⟨rfl, State.Warmed39.refl s, rfl⟩ trivial
  refine ⟨n, _, h1, h2, h3, hpost _ _ _ _ _ _ ⟨Cond.after_iff.mpr rfl, Cond.after_iff.mpr (eq_i res_at (Term.int_eval (1)) rfl), trivial⟩ ⟨hq.1, hq.2.1, (hq.2.2.sift fun y hy => Or.inr (N y hy)).mono (by decide) (by decide)⟩⟩
theorem main_1_1 : Claimed_1_1 := comes_1 fun _ _ _ _ _ _ h hF => ⟨h.1, hF⟩
theorem main_1_2 : Claimed_1_2 := comes_1 fun _ _ _ _ _ _ h hF => ⟨h.2.1, hF⟩
end Jvm.Pilot.@@N@@
namespace Jvm.Pilot.@@N@@
open Jvm Jvm.ClassFile Sem Op Lib Jvm.Free Jvm.Stand Jvm.Pilot.@@N@@.Jvm.D
/-! MADE BY PROGRAM (witnessworld.py) out of the Statement's table words and the real class files: 33 classes; the members and pool entries that the words name. The judged class is class 1, her method 1. -/
namespace start1
open Jvm.ClassFile
def u (s : String) : CpInfo := .utf8 (stringToUtf16 s)
/-- a pool by its gaps: so many unusable entries, then the entry; so many at the end -/
def gap : Nat → List CpInfo → List CpInfo
  | 0, r => r
  | n + 1, r => .unusable :: gap n r
def poolList (es : List (Nat × CpInfo)) (last : Nat) : List CpInfo := es.foldr (fun e r => gap e.1 (e.2 :: r)) (gap last [])
def pool (es : List (Nat × CpInfo)) (last : Nat) : Array CpInfo := ⟨poolList es last⟩
def fileOf (pool : Array CpInfo) (this : Nat) (attrs : Array Attribute := #[]) (ms : Array MethodInfo := #[]) (fl : Nat := 33) (sup : Nat := 0) (ifs : Array Nat := #[]) (fds : Array FieldInfo := #[]) : ClassFile where
  minorVersion := 0
  majorVersion := 65
  constantPool := pool
  accessFlags := fl
  thisClass := this
  superClass := sup
  interfaces := ifs
  fields := fds
  methods := ms
  attributes := attrs
def plain (name : String) (sup : Option ClassId) : Class where
  name := name
  kind := .ordinary
  loader := none
  accessFlags := 33
  super := sup
  interfaces := #[]
  cf := none
  fields := #[]
  methods := #[]
  instanceTypes := #[]
  staticTypes := #[]
  resolved := #[]
  callSites := []
  init := .initialized
  statics := none
  mirror := none

def pool0 : Array CpInfo := pool [(5, u "<init>"), (0, u "()V"), (1, .class_ 10), (1, u "java/lang/Object"), (81, u "equals"), (0, u "(Ljava/lang/Object;)Z"), (2, u "clone"), (0, u "()Ljava/lang/Object;")] 26

def k0c0 : Code := { maxStack := 0, maxLocals := 1, code := object_method_1_code, exceptionTable := #[], attributes := #[] }
def k0m0 : Method := { name := "<init>", desc := "()V", sig := { parameters := [], returnType := none }, accessFlags := 1, code := some k0c0 }
def k0c1 : Code := { maxStack := 2, maxLocals := 2, code := ⟨#[0x2a, 0x2b, 0xa6, 0x00, 0x07, 0x04, 0xa7, 0x00, 0x04, 0x03, 0xac]⟩, exceptionTable := #[], attributes := #[] }
def k0m1 : Method := { name := "equals", desc := "(Ljava/lang/Object;)Z", sig := { parameters := [(.object "java/lang/Object")], returnType := some .boolean }, accessFlags := 1, code := some k0c1 }
def k0m2 : Method := { name := "clone", desc := "()Ljava/lang/Object;", sig := { parameters := [], returnType := some (.object "java/lang/Object") }, accessFlags := 260, code := none }
/-- java/lang/Object -/
def k0 : Class := { plain "java/lang/Object" none with
  accessFlags := 33
  interfaces := #[]
  cf := some (fileOf pool0 8 #[] #[{ accessFlags := 1, nameIndex := 5, descriptorIndex := 6, attributes := #[] }, { accessFlags := 1, nameIndex := 92, descriptorIndex := 93, attributes := #[] }, { accessFlags := 260, nameIndex := 96, descriptorIndex := 97, attributes := #[] }] 33 0 #[] #[])
  fields := #[]
  methods := #[k0m0, k0m1, k0m2]
  instanceTypes := #[]
  staticTypes := #[]
  resolved := Array.replicate 124 none
  statics := none }

def pool1 : Array CpInfo := pool [(2, .class_ 4), (1, u "java/lang/Object"), (0, u "<init>"), (0, u "()V"), (0, .integer 2147483647), (0, .class_ 9), (0, u "com/example/kneiphof/kneiphof/Assignment"), (0, .methodref 8 11), (0, .nameAndType 5 12), (0, u "(III)V"), (0, .methodref 8 14), (0, .nameAndType 15 16), (0, u "remove"), (0, u "(I)[I"), (0, .methodref 8 18), (0, .nameAndType 19 20), (0, u "replace"), (0, u "(I[I)V"), (0, .methodref 8 22), (0, .nameAndType 23 24), (0, u "runs"), (0, u "(I)Z"), (0, .class_ 26), (0, u "com/example/kneiphof/kneiphof/AssignmentRunsPinLaw"), (2, u "law"), (0, u "(IIIIII)Z")] 5

def k1m0 : Method := { name := "<init>", desc := "()V", sig := { parameters := [], returnType := none }, accessFlags := 1, code := none }
def k1c1 : Code := { maxStack := 5, maxLocals := 19, code := code, exceptionTable := #[], attributes := #[] }
def k1m1 : Method := { name := "law", desc := "(IIIIII)Z", sig := { parameters := [.int, .int, .int, .int, .int, .int], returnType := some .boolean }, accessFlags := 9, code := some k1c1 }
/-- com/example/kneiphof/kneiphof/AssignmentRunsPinLaw -/
def k1 : Class := { plain "com/example/kneiphof/kneiphof/AssignmentRunsPinLaw" (some 0) with
  accessFlags := 49
  interfaces := #[]
  cf := some (fileOf pool1 25 #[] #[{ accessFlags := 1, nameIndex := 5, descriptorIndex := 6, attributes := #[] }, { accessFlags := 9, nameIndex := 29, descriptorIndex := 30, attributes := #[] }] 49 2 #[] #[])
  fields := #[]
  methods := #[k1m0, k1m1]
  instanceTypes := #[]
  staticTypes := #[]
  resolved := Array.replicate 36 none
  statics := none }

def pool2 : Array CpInfo := pool [(1, .methodref 2 3), (0, .class_ 4), (0, .nameAndType 5 6), (0, u "java/lang/Object"), (0, u "<init>"), (0, u "()V"), (0, .class_ 8), (0, u "java/util/ArrayList"), (0, .methodref 7 3), (0, .fieldref 11 12), (0, .class_ 13), (0, .nameAndType 14 15), (0, u "com/example/kneiphof/kneiphof/Assignment"), (0, u "spares"), (0, u "Ljava/util/List;"), (0, .fieldref 11 17), (0, .nameAndType 18 19), (0, u "partitions"), (0, u "I"), (0, .fieldref 11 21), (0, .nameAndType 22 19), (0, u "replicas"), (0, .fieldref 11 24), (0, .nameAndType 25 26), (0, u "workers"), (0, u "[I"), (0, .fieldref 11 28), (0, .nameAndType 29 26), (0, u "slots"), (0, .methodref 31 32), (0, .class_ 33), (0, .nameAndType 34 35), (0, u "java/util/Arrays"), (0, u "fill"), (0, u "([II)V"), (0, .methodref 37 38), (0, .class_ 39), (0, .nameAndType 40 41), (0, u "java/lang/Integer"), (0, u "valueOf"), (0, u "(I)Ljava/lang/Integer;"), (0, .interfaceMethodref 43 44), (0, .class_ 45), (0, .nameAndType 46 47), (0, u "java/util/List"), (0, u "add"), (0, u "(Ljava/lang/Object;)Z"), (0, .class_ 49), (0, u "com/example/kneiphof/kneiphof/Partitioning"), (0, .methodref 48 51), (0, .nameAndType 5 52), (0, u "(I)V"), (0, .fieldref 11 54), (0, .nameAndType 55 56), (0, u "partitioning"), (0, u "Lcom/example/kneiphof/kneiphof/Partitioning;"), (0, .methodref 11 58), (0, .nameAndType 59 60), (0, u "slot"), (0, u "(II)I"), (0, .methodref 11 62), (0, .nameAndType 63 64), (0, u "runs"), (0, u "(I)Z"), (0, .methodref 31 66), (0, .nameAndType 67 68), (0, u "copyOfRange"), (0, u "([III)[I"), (53, .methodref 11 123), (0, .nameAndType 124 125), (0, u "set"), (0, u "(I)[I"), (0, .interfaceMethodref 43 127), (0, .nameAndType 128 47), (0, u "remove"), (7, u "NONE"), (4, u "(III)V"), (14, u "replace"), (0, u "(I[I)V")] 35

def k2c0 : Code := { maxStack := 4, maxLocals := 5, code := prog_5_method_1_code, exceptionTable := #[], attributes := #[] }
def k2m0 : Method := { name := "<init>", desc := "(III)V", sig := { parameters := [.int, .int, .int], returnType := none }, accessFlags := 0, code := some k2c0 }
def k2c1 : Code := { maxStack := 2, maxLocals := 3, code := prog_5_method_6_code, exceptionTable := #[], attributes := #[] }
def k2m1 : Method := { name := "slot", desc := "(II)I", sig := { parameters := [.int, .int], returnType := some .int }, accessFlags := 0, code := some k2c1 }
def k2c2 : Code := { maxStack := 4, maxLocals := 2, code := prog_5_method_11_code, exceptionTable := #[], attributes := #[] }
def k2m2 : Method := { name := "runs", desc := "(I)Z", sig := { parameters := [.int], returnType := some .boolean }, accessFlags := 0, code := some k2c2 }
def k2c3 : Code := { maxStack := 5, maxLocals := 2, code := prog_5_method_12_code, exceptionTable := #[], attributes := #[] }
def k2m3 : Method := { name := "set", desc := "(I)[I", sig := { parameters := [.int], returnType := some (.array .int) }, accessFlags := 0, code := some k2c3 }
def k2c4 : Code := { maxStack := 5, maxLocals := 4, code := prog_5_method_18_code, exceptionTable := #[], attributes := #[] }
def k2m4 : Method := { name := "remove", desc := "(I)[I", sig := { parameters := [.int], returnType := some (.array .int) }, accessFlags := 0, code := some k2c4 }
def k2c5 : Code := { maxStack := 5, maxLocals := 4, code := prog_5_method_19_code, exceptionTable := #[], attributes := #[] }
def k2m5 : Method := { name := "replace", desc := "(I[I)V", sig := { parameters := [.int, (.array .int)], returnType := none }, accessFlags := 0, code := some k2c5 }
/-- com/example/kneiphof/kneiphof/Assignment -/
def k2 : Class := { plain "com/example/kneiphof/kneiphof/Assignment" (some 0) with
  accessFlags := 48
  interfaces := #[]
  cf := some (fileOf pool2 11 #[] #[{ accessFlags := 0, nameIndex := 5, descriptorIndex := 141, attributes := #[] }, { accessFlags := 0, nameIndex := 59, descriptorIndex := 60, attributes := #[] }, { accessFlags := 0, nameIndex := 63, descriptorIndex := 64, attributes := #[] }, { accessFlags := 0, nameIndex := 124, descriptorIndex := 125, attributes := #[] }, { accessFlags := 0, nameIndex := 128, descriptorIndex := 125, attributes := #[] }, { accessFlags := 0, nameIndex := 156, descriptorIndex := 157, attributes := #[] }] 48 2 #[] #[{ accessFlags := 24, nameIndex := 136, descriptorIndex := 19, attributes := #[] }, { accessFlags := 18, nameIndex := 18, descriptorIndex := 19, attributes := #[] }, { accessFlags := 18, nameIndex := 22, descriptorIndex := 19, attributes := #[] }, { accessFlags := 18, nameIndex := 25, descriptorIndex := 26, attributes := #[] }, { accessFlags := 18, nameIndex := 29, descriptorIndex := 26, attributes := #[] }, { accessFlags := 18, nameIndex := 14, descriptorIndex := 15, attributes := #[] }, { accessFlags := 2, nameIndex := 55, descriptorIndex := 56, attributes := #[] }])
  fields := #[{ name := "NONE", type := .int, accessFlags := 24, slot := 0, constantValue := 0 }, { name := "partitions", type := .int, accessFlags := 18, slot := 0, constantValue := 0 }, { name := "replicas", type := .int, accessFlags := 18, slot := 1, constantValue := 0 }, { name := "workers", type := (.array .int), accessFlags := 18, slot := 2, constantValue := 0 }, { name := "slots", type := (.array .int), accessFlags := 18, slot := 3, constantValue := 0 }, { name := "spares", type := (.object "java/util/List"), accessFlags := 18, slot := 4, constantValue := 0 }, { name := "partitioning", type := (.object "com/example/kneiphof/kneiphof/Partitioning"), accessFlags := 2, slot := 5, constantValue := 0 }]
  methods := #[k2m0, k2m1, k2m2, k2m3, k2m4, k2m5]
  instanceTypes := #[.int, .int, (.array .int), (.array .int), (.object "java/util/List"), (.object "com/example/kneiphof/kneiphof/Partitioning")]
  staticTypes := #[.int]
  resolved := Array.replicate 193 none
  statics := none }

def pool3 : Array CpInfo := pool [(8, .class_ 10), (1, u "java/lang/Iterable"), (24, .class_ 36), (0, u "java/lang/Object")] 25

/-- java/lang/Iterable -/
def k3 : Class := { plain "java/lang/Iterable" (some 0) with
  accessFlags := 1537
  interfaces := #[]
  cf := some (fileOf pool3 8 #[] #[] 1537 35 #[] #[])
  fields := #[]
  methods := #[]
  instanceTypes := #[]
  staticTypes := #[]
  resolved := Array.replicate 62 none
  statics := none }

def pool4 : Array CpInfo := pool [(10, .class_ 12), (1, u "java/util/Collection"), (47, .class_ 61), (0, u "java/lang/Object"), (0, .class_ 63), (0, u "java/lang/Iterable")] 51

/-- java/util/Collection -/
def k4 : Class := { plain "java/util/Collection" (some 0) with
  accessFlags := 1537
  interfaces := #[3]
  cf := some (fileOf pool4 10 #[] #[] 1537 60 #[62] #[])
  fields := #[]
  methods := #[]
  instanceTypes := #[]
  staticTypes := #[]
  resolved := Array.replicate 115 none
  statics := none }

def pool5 : Array CpInfo := pool [(1, .methodref 2 3), (0, .class_ 4), (0, .nameAndType 5 6), (0, u "java/lang/Object"), (0, u "<init>"), (0, u "()V"), (1, .class_ 10), (1, u "java/util/AbstractCollection"), (66, .class_ 78), (0, u "java/util/Collection")] 81

def k5c0 : Code := { maxStack := 1, maxLocals := 1, code := jdk_22_method_1_code, exceptionTable := #[], attributes := #[] }
def k5m0 : Method := { name := "<init>", desc := "()V", sig := { parameters := [], returnType := none }, accessFlags := 4, code := some k5c0 }
/-- java/util/AbstractCollection -/
def k5 : Class := { plain "java/util/AbstractCollection" (some 0) with
  accessFlags := 1057
  interfaces := #[4]
  cf := some (fileOf pool5 8 #[] #[{ accessFlags := 4, nameIndex := 5, descriptorIndex := 6, attributes := #[] }] 1057 2 #[77] #[])
  fields := #[]
  methods := #[k5m0]
  instanceTypes := #[]
  staticTypes := #[]
  resolved := Array.replicate 160 none
  statics := none }

def pool6 : Array CpInfo := pool [(8, .class_ 10), (1, u "java/util/SequencedCollection"), (15, .class_ 27), (0, u "java/lang/Object"), (0, .class_ 29), (0, u "java/util/Collection")] 27

/-- java/util/SequencedCollection -/
def k6 : Class := { plain "java/util/SequencedCollection" (some 0) with
  accessFlags := 1537
  interfaces := #[4]
  cf := some (fileOf pool6 8 #[] #[] 1537 26 #[28] #[])
  fields := #[]
  methods := #[]
  instanceTypes := #[]
  staticTypes := #[]
  resolved := Array.replicate 57 none
  statics := none }

def pool7 : Array CpInfo := pool [(8, .class_ 10), (1, u "java/util/List"), (49, u "add"), (3, u "(Ljava/lang/Object;)Z"), (18, u "remove"), (4, u "of"), (1, .fieldref 91 92), (0, .class_ 93), (0, .nameAndType 94 95), (0, u "java/util/ImmutableCollections"), (0, u "EMPTY_LIST"), (0, u "Ljava/util/ImmutableCollections$ListN;"), (7, .class_ 104), (0, u "java/lang/Object"), (14, u "()Ljava/util/List;"), (0, .class_ 121), (0, u "java/util/SequencedCollection")] 129

def k7m0 : Method := { name := "add", desc := "(Ljava/lang/Object;)Z", sig := { parameters := [(.object "java/lang/Object")], returnType := some .boolean }, accessFlags := 1025, code := none }
def k7m1 : Method := { name := "remove", desc := "(Ljava/lang/Object;)Z", sig := { parameters := [(.object "java/lang/Object")], returnType := some .boolean }, accessFlags := 1025, code := none }
def k7c2 : Code := { maxStack := 1, maxLocals := 0, code := jdk_40_method_36_code, exceptionTable := #[], attributes := #[] }
def k7m2 : Method := { name := "of", desc := "()Ljava/util/List;", sig := { parameters := [], returnType := some (.object "java/util/List") }, accessFlags := 9, code := some k7c2 }
/-- java/util/List -/
def k7 : Class := { plain "java/util/List" (some 0) with
  accessFlags := 1537
  interfaces := #[6]
  cf := some (fileOf pool7 8 #[] #[{ accessFlags := 1025, nameIndex := 60, descriptorIndex := 64, attributes := #[] }, { accessFlags := 1025, nameIndex := 83, descriptorIndex := 64, attributes := #[] }, { accessFlags := 9, nameIndex := 88, descriptorIndex := 119, attributes := #[] }] 1537 103 #[120] #[])
  fields := #[]
  methods := #[k7m0, k7m1, k7m2]
  instanceTypes := #[]
  staticTypes := #[]
  resolved := Array.replicate 251 none
  statics := none }

def pool8 : Array CpInfo := pool [(1, .methodref 2 3), (0, .class_ 4), (0, .nameAndType 5 6), (0, u "java/util/AbstractCollection"), (0, u "<init>"), (0, u "()V"), (0, .fieldref 8 9), (0, .class_ 10), (0, .nameAndType 11 12), (0, u "java/util/AbstractList"), (0, u "modCount"), (0, u "I"), (64, .class_ 78), (0, u "java/util/AbstractList$Itr"), (3, .class_ 83), (0, u "java/util/AbstractList$ListItr"), (9, .class_ 94), (0, u "java/util/AbstractList$RandomAccessSubList"), (3, .class_ 99), (0, u "java/util/AbstractList$SubList"), (33, .class_ 134), (0, u "java/util/List"), (73, .class_ 209), (0, u "java/util/AbstractList$SubList$1"), (0, .class_ 211), (0, u "java/util/AbstractList$RandomAccessSpliterator")] 6

def k8c0 : Code := { maxStack := 2, maxLocals := 1, code := jdk_39_method_1_code, exceptionTable := #[], attributes := #[] }
def k8m0 : Method := { name := "<init>", desc := "()V", sig := { parameters := [], returnType := none }, accessFlags := 4, code := some k8c0 }
/-- java/util/AbstractList -/
def k8 : Class := { plain "java/util/AbstractList" (some 5) with
  accessFlags := 1057
  interfaces := #[7]
  cf := some (fileOf pool8 8 #[.nestMembers #[93, 98, 208, 210, 82, 77]] #[{ accessFlags := 4, nameIndex := 5, descriptorIndex := 6, attributes := #[] }] 1057 2 #[133] #[{ accessFlags := 132, nameIndex := 11, descriptorIndex := 12, attributes := #[] }])
  fields := #[{ name := "modCount", type := .int, accessFlags := 132, slot := 0, constantValue := 0 }]
  methods := #[k8m0]
  instanceTypes := #[.int]
  staticTypes := #[]
  resolved := Array.replicate 218 none
  statics := none }

def pool9 : Array CpInfo := pool [(1, .class_ 2), (0, u "java/util/RandomAccess"), (0, .class_ 4), (0, u "java/lang/Object")] 2

/-- java/util/RandomAccess -/
def k9 : Class := { plain "java/util/RandomAccess" (some 0) with
  accessFlags := 1537
  interfaces := #[]
  cf := some (fileOf pool9 1 #[] #[] 1537 3 #[] #[])
  fields := #[]
  methods := #[]
  instanceTypes := #[]
  staticTypes := #[]
  resolved := Array.replicate 7 none
  statics := none }

def pool10 : Array CpInfo := pool [(1, .class_ 2), (0, u "java/lang/Cloneable"), (0, .class_ 4), (0, u "java/lang/Object")] 2

/-- java/lang/Cloneable -/
def k10 : Class := { plain "java/lang/Cloneable" (some 0) with
  accessFlags := 1537
  interfaces := #[]
  cf := some (fileOf pool10 1 #[] #[] 1537 3 #[] #[])
  fields := #[]
  methods := #[]
  instanceTypes := #[]
  staticTypes := #[]
  resolved := Array.replicate 7 none
  statics := none }

def pool11 : Array CpInfo := pool [(1, .class_ 2), (0, u "java/io/Serializable"), (0, .class_ 4), (0, u "java/lang/Object")] 2

/-- java/io/Serializable -/
def k11 : Class := { plain "java/io/Serializable" (some 0) with
  accessFlags := 1537
  interfaces := #[]
  cf := some (fileOf pool11 1 #[] #[] 1537 3 #[] #[])
  fields := #[]
  methods := #[]
  instanceTypes := #[]
  staticTypes := #[]
  resolved := Array.replicate 7 none
  statics := none }

def pool12 : Array CpInfo := pool [(1, .methodref 2 3), (0, .class_ 4), (0, .nameAndType 5 6), (0, u "java/util/AbstractList"), (0, u "<init>"), (0, u "()V"), (0, .class_ 8), (0, u "java/lang/Object"), (0, .fieldref 10 11), (0, .class_ 12), (0, .nameAndType 13 14), (0, u "java/util/ArrayList"), (0, u "elementData"), (0, u "[Ljava/lang/Object;"), (2, u "EMPTY_ELEMENTDATA"), (21, .fieldref 10 40), (0, .nameAndType 41 14), (0, u "DEFAULTCAPACITY_EMPTY_ELEMENTDATA"), (5, u "()[Ljava/lang/Object;"), (0, .fieldref 10 49), (0, .nameAndType 50 51), (0, u "size"), (0, u "I"), (11, .fieldref 10 64), (0, .nameAndType 65 51), (0, u "modCount"), (3, .methodref 10 70), (0, .nameAndType 71 72), (0, u "grow"), (0, u "(I)[Ljava/lang/Object;"), (6, .methodref 80 81), (0, .class_ 82), (0, .nameAndType 83 84), (0, u "java/lang/Math"), (0, u "max"), (0, u "(II)I"), (8, .methodref 7 94), (0, .nameAndType 95 96), (0, u "equals"), (0, u "(Ljava/lang/Object;)Z"), (15, .methodref 113 114), (0, .class_ 115), (0, .nameAndType 116 117), (0, u "java/lang/System"), (0, u "arraycopy"), (0, u "(Ljava/lang/Object;ILjava/lang/Object;II)V"), (11, .methodref 10 130), (0, .nameAndType 71 47), (0, .methodref 10 132), (0, .nameAndType 133 134), (0, u "add"), (0, u "(Ljava/lang/Object;[Ljava/lang/Object;I)V"), (9, .methodref 10 145), (0, .nameAndType 146 147), (0, u "fastRemove"), (0, u "([Ljava/lang/Object;I)V"), (0, .class_ 149), (0, u "java/util/List"), (112, .class_ 263), (0, u "java/util/ArrayList$ListItr"), (3, .class_ 268), (0, u "java/util/ArrayList$Itr"), (7, .class_ 277), (0, u "java/util/ArrayList$SubList"), (12, .class_ 291), (0, u "java/util/ArrayList$ArrayListSpliterator"), (37, .class_ 330), (0, u "java/util/RandomAccess"), (0, .class_ 332), (0, u "java/lang/Cloneable"), (0, .class_ 334), (0, u "java/io/Serializable"), (0, u "serialVersionUID"), (0, u "J"), (3, u "DEFAULT_CAPACITY"), (58, u "remove"), (100, .class_ 501), (0, u "java/util/ArrayList$SubList$2"), (0, .class_ 503), (0, u "java/util/ArrayList$SubList$1")] 5

def k12c0 : Code := { maxStack := 2, maxLocals := 1, code := jdk_38_method_2_code, exceptionTable := #[], attributes := #[] }
def k12m0 : Method := { name := "<init>", desc := "()V", sig := { parameters := [], returnType := none }, accessFlags := 1, code := some k12c0 }
def k12c1 : Code := { maxStack := 4, maxLocals := 4, code := jdk_38_method_6_code, exceptionTable := #[], attributes := #[] }
def k12m1 : Method := { name := "grow", desc := "(I)[Ljava/lang/Object;", sig := { parameters := [.int], returnType := some (.array (.object "java/lang/Object")) }, accessFlags := 2, code := some k12c1 }
def k12c2 : Code := { maxStack := 3, maxLocals := 1, code := jdk_38_method_7_code, exceptionTable := #[], attributes := #[] }
def k12m2 : Method := { name := "grow", desc := "()[Ljava/lang/Object;", sig := { parameters := [], returnType := some (.array (.object "java/lang/Object")) }, accessFlags := 2, code := some k12c2 }
def k12c3 : Code := { maxStack := 3, maxLocals := 4, code := jdk_38_method_24_code, exceptionTable := #[], attributes := #[] }
def k12m3 : Method := { name := "add", desc := "(Ljava/lang/Object;[Ljava/lang/Object;I)V", sig := { parameters := [(.object "java/lang/Object"), (.array (.object "java/lang/Object")), .int], returnType := none }, accessFlags := 2, code := some k12c3 }
def k12c4 : Code := { maxStack := 4, maxLocals := 2, code := jdk_38_method_25_code, exceptionTable := #[], attributes := #[] }
def k12m4 : Method := { name := "add", desc := "(Ljava/lang/Object;)Z", sig := { parameters := [(.object "java/lang/Object")], returnType := some .boolean }, accessFlags := 1, code := some k12c4 }
def k12c5 : Code := { maxStack := 3, maxLocals := 5, code := jdk_38_method_38_code, exceptionTable := #[], attributes := #[] }
def k12m5 : Method := { name := "remove", desc := "(Ljava/lang/Object;)Z", sig := { parameters := [(.object "java/lang/Object")], returnType := some .boolean }, accessFlags := 1, code := some k12c5 }
def k12c6 : Code := { maxStack := 6, maxLocals := 4, code := jdk_38_method_39_code, exceptionTable := #[], attributes := #[] }
def k12m6 : Method := { name := "fastRemove", desc := "([Ljava/lang/Object;I)V", sig := { parameters := [(.array (.object "java/lang/Object")), .int], returnType := none }, accessFlags := 2, code := some k12c6 }
/-- java/util/ArrayList -/
def k12 : Class := { plain "java/util/ArrayList" (some 8) with
  accessFlags := 33
  interfaces := #[7, 9, 10, 11]
  cf := some (fileOf pool12 10 #[.nestMembers #[290, 276, 500, 502, 262, 267]] #[{ accessFlags := 1, nameIndex := 5, descriptorIndex := 6, attributes := #[] }, { accessFlags := 2, nameIndex := 71, descriptorIndex := 72, attributes := #[] }, { accessFlags := 2, nameIndex := 71, descriptorIndex := 47, attributes := #[] }, { accessFlags := 2, nameIndex := 133, descriptorIndex := 134, attributes := #[] }, { accessFlags := 1, nameIndex := 133, descriptorIndex := 96, attributes := #[] }, { accessFlags := 1, nameIndex := 399, descriptorIndex := 96, attributes := #[] }, { accessFlags := 2, nameIndex := 146, descriptorIndex := 147, attributes := #[] }] 33 2 #[148, 329, 331, 333] #[{ accessFlags := 26, nameIndex := 335, descriptorIndex := 336, attributes := #[] }, { accessFlags := 26, nameIndex := 340, descriptorIndex := 51, attributes := #[] }, { accessFlags := 26, nameIndex := 17, descriptorIndex := 14, attributes := #[] }, { accessFlags := 26, nameIndex := 41, descriptorIndex := 14, attributes := #[] }, { accessFlags := 128, nameIndex := 13, descriptorIndex := 14, attributes := #[] }, { accessFlags := 2, nameIndex := 50, descriptorIndex := 51, attributes := #[] }])
  fields := #[{ name := "serialVersionUID", type := .long, accessFlags := 26, slot := 0, constantValue := 0 }, { name := "DEFAULT_CAPACITY", type := .int, accessFlags := 26, slot := 1, constantValue := 0 }, { name := "EMPTY_ELEMENTDATA", type := (.array (.object "java/lang/Object")), accessFlags := 26, slot := 2, constantValue := 0 }, { name := "DEFAULTCAPACITY_EMPTY_ELEMENTDATA", type := (.array (.object "java/lang/Object")), accessFlags := 26, slot := 3, constantValue := 0 }, { name := "elementData", type := (.array (.object "java/lang/Object")), accessFlags := 128, slot := 1, constantValue := 0 }, { name := "size", type := .int, accessFlags := 2, slot := 2, constantValue := 0 }]
  methods := #[k12m0, k12m1, k12m2, k12m3, k12m4, k12m5, k12m6]
  instanceTypes := #[.int, (.array (.object "java/lang/Object")), .int]
  staticTypes := #[.long, .int, (.array (.object "java/lang/Object")), (.array (.object "java/lang/Object"))]
  resolved := Array.replicate 509 none
  statics := some 0 }

def pool13 : Array CpInfo := pool [(2, .class_ 4), (1, u "java/lang/Object"), (0, u "<init>"), (0, u "()V"), (7, .class_ 16), (1, u "java/util/Arrays"), (57, .class_ 76), (1, u "java/util/Arrays$NaturalOrder"), (32, u "()Ljava/lang/Object;"), (3, .class_ 115), (1, u "java/util/Arrays$LegacyMergeSort"), (1, u "Z"), (10, .nameAndType 129 109), (0, u "clone"), (9, u "copyOfRange"), (10, .methodref 151 152), (0, .class_ 153), (0, .nameAndType 154 155), (0, u "java/lang/System"), (0, u "arraycopy"), (0, u "(Ljava/lang/Object;ILjava/lang/Object;II)V"), (148, .methodref 305 306), (0, .class_ 307), (0, .nameAndType 308 309), (0, u "java/lang/Math"), (0, u "min"), (0, u "(II)I"), (6, .methodref 317 128), (0, .class_ 318), (0, u "[I"), (24, .methodref 14 344), (0, .nameAndType 345 346), (0, u "checkLength"), (0, u "(II)V"), (4, .methodref 14 352), (0, .nameAndType 353 354), (0, u "copyOfRangeInt"), (0, u "([III)[I"), (20, .class_ 376), (0, u "java/util/Arrays$ArrayList"), (68, u "$assertionsDisabled"), (269, u "MIN_ARRAY_SORT_GRAN"), (0, u "I"), (2, u "INSERTIONSORT_THRESHOLD"), (120, u "fill"), (4, u "([II)V"), (129, .class_ 976), (0, u "java/util/Arrays$ArrayItr")] 52

def k13m0 : Method := { name := "<init>", desc := "()V", sig := { parameters := [], returnType := none }, accessFlags := 2, code := none }
def k13c1 : Code := { maxStack := 3, maxLocals := 4, code := jdk_65_method_103_code, exceptionTable := #[], attributes := #[] }
def k13m1 : Method := { name := "fill", desc := "([II)V", sig := { parameters := [(.array .int), .int], returnType := none }, accessFlags := 9, code := some k13c1 }
def k13c2 : Code := { maxStack := 4, maxLocals := 2, code := jdk_65_method_131_code, exceptionTable := #[], attributes := #[] }
def k13m2 : Method := { name := "checkLength", desc := "(II)V", sig := { parameters := [.int, .int], returnType := none }, accessFlags := 10, code := some k13c2 }
def k13c3 : Code := { maxStack := 3, maxLocals := 3, code := jdk_65_method_136_code, exceptionTable := #[], attributes := #[] }
def k13m3 : Method := { name := "copyOfRange", desc := "([III)[I", sig := { parameters := [(.array .int), .int, .int], returnType := some (.array .int) }, accessFlags := 9, code := some k13c3 }
def k13c4 : Code := { maxStack := 6, maxLocals := 5, code := jdk_65_method_137_code, exceptionTable := #[], attributes := #[] }
def k13m4 : Method := { name := "copyOfRangeInt", desc := "([III)[I", sig := { parameters := [(.array .int), .int, .int], returnType := some (.array .int) }, accessFlags := 10, code := some k13c4 }
/-- java/util/Arrays -/
def k13 : Class := { plain "java/util/Arrays" (some 0) with
  accessFlags := 49
  interfaces := #[]
  cf := some (fileOf pool13 14 #[.nestMembers #[975, 375, 113, 74]] #[{ accessFlags := 2, nameIndex := 5, descriptorIndex := 6, attributes := #[] }, { accessFlags := 9, nameIndex := 840, descriptorIndex := 845, attributes := #[] }, { accessFlags := 10, nameIndex := 345, descriptorIndex := 346, attributes := #[] }, { accessFlags := 9, nameIndex := 139, descriptorIndex := 354, attributes := #[] }, { accessFlags := 10, nameIndex := 353, descriptorIndex := 354, attributes := #[] }] 49 2 #[] #[{ accessFlags := 26, nameIndex := 715, descriptorIndex := 716, attributes := #[] }, { accessFlags := 26, nameIndex := 719, descriptorIndex := 716, attributes := #[] }, { accessFlags := 4120, nameIndex := 445, descriptorIndex := 117, attributes := #[] }])
  fields := #[{ name := "MIN_ARRAY_SORT_GRAN", type := .int, accessFlags := 26, slot := 0, constantValue := 0 }, { name := "INSERTIONSORT_THRESHOLD", type := .int, accessFlags := 26, slot := 1, constantValue := 0 }, { name := "$assertionsDisabled", type := .boolean, accessFlags := 4120, slot := 2, constantValue := 0 }]
  methods := #[k13m0, k13m1, k13m2, k13m3, k13m4]
  instanceTypes := #[]
  staticTypes := #[.int, .int, .boolean]
  resolved := Array.replicate 1029 none
  statics := none }

def pool14 : Array CpInfo := pool [(2, .class_ 4), (1, u "java/lang/Object"), (0, u "<init>"), (0, u "()V"), (1, .class_ 10), (1, u "java/lang/Number"), (2, .class_ 14), (0, u "java/io/Serializable"), (0, u "serialVersionUID"), (0, u "J")] 20

def k14m0 : Method := { name := "<init>", desc := "()V", sig := { parameters := [], returnType := none }, accessFlags := 1, code := none }
/-- java/lang/Number -/
def k14 : Class := { plain "java/lang/Number" (some 0) with
  accessFlags := 1057
  interfaces := #[11]
  cf := some (fileOf pool14 8 #[] #[{ accessFlags := 1, nameIndex := 5, descriptorIndex := 6, attributes := #[] }] 1057 2 #[13] #[{ accessFlags := 26, nameIndex := 15, descriptorIndex := 16, attributes := #[] }])
  fields := #[{ name := "serialVersionUID", type := .long, accessFlags := 26, slot := 0, constantValue := 0 }]
  methods := #[k14m0]
  instanceTypes := #[]
  staticTypes := #[.long]
  resolved := Array.replicate 37 none
  statics := none }

def pool15 : Array CpInfo := pool [(1, .class_ 2), (0, u "java/lang/Comparable"), (0, .class_ 4), (0, u "java/lang/Object")] 7

/-- java/lang/Comparable -/
def k15 : Class := { plain "java/lang/Comparable" (some 0) with
  accessFlags := 1537
  interfaces := #[]
  cf := some (fileOf pool15 1 #[] #[] 1537 3 #[] #[])
  fields := #[]
  methods := #[]
  instanceTypes := #[]
  staticTypes := #[]
  resolved := Array.replicate 12 none
  statics := none }

def pool16 : Array CpInfo := pool [(1, .class_ 2), (0, u "java/lang/constant/Constable"), (0, .class_ 4), (0, u "java/lang/Object")] 6

/-- java/lang/constant/Constable -/
def k16 : Class := { plain "java/lang/constant/Constable" (some 0) with
  accessFlags := 1537
  interfaces := #[]
  cf := some (fileOf pool16 1 #[] #[] 1537 3 #[] #[])
  fields := #[]
  methods := #[]
  instanceTypes := #[]
  staticTypes := #[]
  resolved := Array.replicate 11 none
  statics := none }

def pool17 : Array CpInfo := pool [(1, .class_ 2), (0, u "java/lang/constant/ConstantDesc"), (0, .class_ 4), (0, u "java/lang/Object")] 32

/-- java/lang/constant/ConstantDesc -/
def k17 : Class := { plain "java/lang/constant/ConstantDesc" (some 0) with
  accessFlags := 1537
  interfaces := #[]
  cf := some (fileOf pool17 1 #[] #[] 1537 3 #[] #[])
  fields := #[]
  methods := #[]
  instanceTypes := #[]
  staticTypes := #[]
  resolved := Array.replicate 37 none
  statics := none }

def pool18 : Array CpInfo := pool [(1, .class_ 2), (0, u "java/lang/Integer"), (16, u "digits"), (0, u "[C"), (64, u "DigitOnes"), (0, u "[B"), (2, u "DigitTens"), (31, u "()I"), (65, u "valueOf"), (0, u "(I)Ljava/lang/Integer;"), (0, .class_ 190), (0, u "java/lang/Integer$IntegerCache"), (0, .fieldref 189 192), (0, .nameAndType 193 194), (0, u "high"), (0, u "I"), (0, .fieldref 189 196), (0, .nameAndType 197 198), (0, u "cache"), (0, u "[Ljava/lang/Integer;"), (4, .class_ 204), (0, u "java/lang/Number"), (0, .fieldref 1 206), (0, .nameAndType 207 194), (0, u "value"), (3, .methodref 1 212), (0, .nameAndType 213 121), (0, u "intValue"), (88, u "TYPE"), (0, u "Ljava/lang/Class;"), (0, .class_ 305), (0, u "java/lang/Comparable"), (0, .class_ 307), (0, u "java/lang/constant/Constable"), (0, .class_ 309), (0, u "java/lang/constant/ConstantDesc"), (0, u "MIN_VALUE"), (1, u "MAX_VALUE"), (3, u "SIZE"), (1, u "BYTES"), (1, u "serialVersionUID"), (0, u "J"), (63, u "equals"), (0, u "(Ljava/lang/Object;)Z")] 66

def k18c0 : Code := { maxStack := 3, maxLocals := 1, code := jdk_33_method_22_code, exceptionTable := #[], attributes := #[] }
def k18m0 : Method := { name := "valueOf", desc := "(I)Ljava/lang/Integer;", sig := { parameters := [.int], returnType := some (.object "java/lang/Integer") }, accessFlags := 9, code := some k18c0 }
def k18c1 : Code := { maxStack := 1, maxLocals := 1, code := jdk_33_method_27_code, exceptionTable := #[], attributes := #[] }
def k18m1 : Method := { name := "intValue", desc := "()I", sig := { parameters := [], returnType := some .int }, accessFlags := 1, code := some k18c1 }
def k18c2 : Code := { maxStack := 2, maxLocals := 2, code := jdk_33_method_34_code, exceptionTable := #[], attributes := #[] }
def k18m2 : Method := { name := "equals", desc := "(Ljava/lang/Object;)Z", sig := { parameters := [(.object "java/lang/Object")], returnType := some .boolean }, accessFlags := 1, code := some k18c2 }
/-- java/lang/Integer -/
def k18 : Class := { plain "java/lang/Integer" (some 14) with
  accessFlags := 49
  interfaces := #[15, 16, 17]
  cf := some (fileOf pool18 1 #[.nestMembers #[189]] #[{ accessFlags := 9, nameIndex := 187, descriptorIndex := 188, attributes := #[] }, { accessFlags := 1, nameIndex := 213, descriptorIndex := 121, attributes := #[] }, { accessFlags := 1, nameIndex := 385, descriptorIndex := 386, attributes := #[] }] 49 203 #[304, 306, 308] #[{ accessFlags := 25, nameIndex := 310, descriptorIndex := 194, attributes := #[] }, { accessFlags := 25, nameIndex := 312, descriptorIndex := 194, attributes := #[] }, { accessFlags := 25, nameIndex := 302, descriptorIndex := 303, attributes := #[] }, { accessFlags := 24, nameIndex := 19, descriptorIndex := 20, attributes := #[] }, { accessFlags := 24, nameIndex := 89, descriptorIndex := 86, attributes := #[] }, { accessFlags := 24, nameIndex := 85, descriptorIndex := 86, attributes := #[] }, { accessFlags := 18, nameIndex := 207, descriptorIndex := 194, attributes := #[] }, { accessFlags := 25, nameIndex := 316, descriptorIndex := 194, attributes := #[] }, { accessFlags := 25, nameIndex := 318, descriptorIndex := 194, attributes := #[] }, { accessFlags := 26, nameIndex := 320, descriptorIndex := 321, attributes := #[] }])
  fields := #[{ name := "MIN_VALUE", type := .int, accessFlags := 25, slot := 0, constantValue := 0 }, { name := "MAX_VALUE", type := .int, accessFlags := 25, slot := 1, constantValue := 0 }, { name := "TYPE", type := (.object "java/lang/Class"), accessFlags := 25, slot := 2, constantValue := 0 }, { name := "digits", type := (.array .char), accessFlags := 24, slot := 3, constantValue := 0 }, { name := "DigitTens", type := (.array .byte), accessFlags := 24, slot := 4, constantValue := 0 }, { name := "DigitOnes", type := (.array .byte), accessFlags := 24, slot := 5, constantValue := 0 }, { name := "value", type := .int, accessFlags := 18, slot := 0, constantValue := 0 }, { name := "SIZE", type := .int, accessFlags := 25, slot := 6, constantValue := 0 }, { name := "BYTES", type := .int, accessFlags := 25, slot := 7, constantValue := 0 }, { name := "serialVersionUID", type := .long, accessFlags := 26, slot := 8, constantValue := 0 }]
  methods := #[k18m0, k18m1, k18m2]
  instanceTypes := #[.int]
  staticTypes := #[.int, .int, (.object "java/lang/Class"), (.array .char), (.array .byte), (.array .byte), .int, .int, .long]
  resolved := Array.replicate 453 none
  statics := none }

def pool19 : Array CpInfo := pool [(2, .class_ 4), (1, u "java/lang/Object"), (0, u "<init>"), (0, u "()V"), (0, .class_ 8), (0, u "java/lang/Integer"), (7, .class_ 18), (1, u "java/lang/Integer$IntegerCache"), (0, u "$assertionsDisabled"), (0, u "Z"), (26, u "high"), (0, u "I"), (8, u "archivedCache"), (0, u "[Ljava/lang/Integer;"), (12, u "cache"), (0, u "low")] 27

def k19m0 : Method := { name := "<init>", desc := "()V", sig := { parameters := [], returnType := none }, accessFlags := 2, code := none }
/-- java/lang/Integer$IntegerCache -/
def k19 : Class := { plain "java/lang/Integer$IntegerCache" (some 0) with
  accessFlags := 48
  interfaces := #[]
  cf := some (fileOf pool19 16 #[.nestHost 7] #[{ accessFlags := 2, nameIndex := 5, descriptorIndex := 6, attributes := #[] }] 48 2 #[] #[{ accessFlags := 24, nameIndex := 72, descriptorIndex := 48, attributes := #[] }, { accessFlags := 24, nameIndex := 47, descriptorIndex := 48, attributes := #[] }, { accessFlags := 24, nameIndex := 71, descriptorIndex := 58, attributes := #[] }, { accessFlags := 8, nameIndex := 57, descriptorIndex := 58, attributes := #[] }, { accessFlags := 4120, nameIndex := 19, descriptorIndex := 20, attributes := #[] }])
  fields := #[{ name := "low", type := .int, accessFlags := 24, slot := 0, constantValue := 0 }, { name := "high", type := .int, accessFlags := 24, slot := 1, constantValue := 0 }, { name := "cache", type := (.array (.object "java/lang/Integer")), accessFlags := 24, slot := 2, constantValue := 0 }, { name := "archivedCache", type := (.array (.object "java/lang/Integer")), accessFlags := 8, slot := 3, constantValue := 0 }, { name := "$assertionsDisabled", type := .boolean, accessFlags := 4120, slot := 4, constantValue := 0 }]
  methods := #[k19m0]
  instanceTypes := #[]
  staticTypes := #[.int, .int, (.array (.object "java/lang/Integer")), (.array (.object "java/lang/Integer")), .boolean]
  resolved := Array.replicate 100 none
  statics := some 1 }

def pool20 : Array CpInfo := pool [(1, .class_ 2), (0, u "java/lang/Math"), (1, .class_ 6), (1, u "java/lang/Object"), (0, u "<init>"), (0, u "()V"), (89, .class_ 100), (1, u "java/lang/Math$RandomNumberGeneratorHolder"), (71, u "negativeZeroFloatBits"), (0, u "J"), (2, u "negativeZeroDoubleBits"), (21, u "max"), (2, u "min"), (43, u "$assertionsDisabled"), (0, u "Z"), (88, u "(II)I"), (2, u "twoToTheDoubleScaleDown"), (0, u "D"), (4, u "twoToTheDoubleScaleUp"), (9, u "E"), (3, u "PI"), (2, u "TAU"), (2, u "DEGREES_TO_RADIANS"), (0, u "RADIANS_TO_DEGREES")] 94

def k20m0 : Method := { name := "<init>", desc := "()V", sig := { parameters := [], returnType := none }, accessFlags := 2, code := none }
def k20c1 : Code := { maxStack := 2, maxLocals := 2, code := jdk_29_method_65_code, exceptionTable := #[], attributes := #[] }
def k20m1 : Method := { name := "max", desc := "(II)I", sig := { parameters := [.int, .int], returnType := some .int }, accessFlags := 9, code := some k20c1 }
def k20c2 : Code := { maxStack := 2, maxLocals := 2, code := jdk_29_method_69_code, exceptionTable := #[], attributes := #[] }
def k20m2 : Method := { name := "min", desc := "(II)I", sig := { parameters := [.int, .int], returnType := some .int }, accessFlags := 9, code := some k20c2 }
/-- java/lang/Math -/
def k20 : Class := { plain "java/lang/Math" (some 0) with
  accessFlags := 49
  interfaces := #[]
  cf := some (fileOf pool20 1 #[.nestMembers #[98]] #[{ accessFlags := 2, nameIndex := 7, descriptorIndex := 8, attributes := #[] }, { accessFlags := 9, nameIndex := 198, descriptorIndex := 335, attributes := #[] }, { accessFlags := 9, nameIndex := 201, descriptorIndex := 335, attributes := #[] }] 49 4 #[] #[{ accessFlags := 25, nameIndex := 354, descriptorIndex := 339, attributes := #[] }, { accessFlags := 25, nameIndex := 358, descriptorIndex := 339, attributes := #[] }, { accessFlags := 25, nameIndex := 361, descriptorIndex := 339, attributes := #[] }, { accessFlags := 26, nameIndex := 364, descriptorIndex := 339, attributes := #[] }, { accessFlags := 26, nameIndex := 365, descriptorIndex := 339, attributes := #[] }, { accessFlags := 26, nameIndex := 172, descriptorIndex := 173, attributes := #[] }, { accessFlags := 26, nameIndex := 176, descriptorIndex := 173, attributes := #[] }, { accessFlags := 8, nameIndex := 344, descriptorIndex := 339, attributes := #[] }, { accessFlags := 8, nameIndex := 338, descriptorIndex := 339, attributes := #[] }, { accessFlags := 4120, nameIndex := 245, descriptorIndex := 246, attributes := #[] }])
  fields := #[{ name := "E", type := .double, accessFlags := 25, slot := 0, constantValue := 0 }, { name := "PI", type := .double, accessFlags := 25, slot := 1, constantValue := 0 }, { name := "TAU", type := .double, accessFlags := 25, slot := 2, constantValue := 0 }, { name := "DEGREES_TO_RADIANS", type := .double, accessFlags := 26, slot := 3, constantValue := 0 }, { name := "RADIANS_TO_DEGREES", type := .double, accessFlags := 26, slot := 4, constantValue := 0 }, { name := "negativeZeroFloatBits", type := .long, accessFlags := 26, slot := 5, constantValue := 0 }, { name := "negativeZeroDoubleBits", type := .long, accessFlags := 26, slot := 6, constantValue := 0 }, { name := "twoToTheDoubleScaleUp", type := .double, accessFlags := 8, slot := 7, constantValue := 0 }, { name := "twoToTheDoubleScaleDown", type := .double, accessFlags := 8, slot := 8, constantValue := 0 }, { name := "$assertionsDisabled", type := .boolean, accessFlags := 4120, slot := 9, constantValue := 0 }]
  methods := #[k20m0, k20m1, k20m2]
  instanceTypes := #[]
  staticTypes := #[.double, .double, .double, .double, .double, .long, .long, .double, .double, .boolean]
  resolved := Array.replicate 460 none
  statics := none }

def pool21 : Array CpInfo := pool [(1, .interfaceMethodref 2 3), (0, .class_ 4), (0, .nameAndType 5 6), (0, u "java/util/List"), (0, u "of"), (0, u "()Ljava/util/List;"), (0, .methodref 8 9), (0, .class_ 10), (0, .nameAndType 11 12), (0, u "com/example/kneiphof/kneiphof/Partitioning"), (0, u "<init>"), (0, u "(ILjava/util/List;)V"), (0, .methodref 14 15), (0, .class_ 16), (0, .nameAndType 11 17), (0, u "java/lang/Object"), (0, u "()V"), (0, .fieldref 8 19), (0, .nameAndType 20 21), (0, u "partitions"), (0, u "I"), (0, .fieldref 8 23), (0, .nameAndType 24 25), (0, u "spreads"), (0, u "Ljava/util/List;"), (14, .class_ 41), (0, u "com/example/kneiphof/kneiphof/Partitioning$Spread"), (60, u "(I)V")] 77

def k21c0 : Code := { maxStack := 3, maxLocals := 2, code := prog_57_method_1_code, exceptionTable := #[], attributes := #[] }
def k21m0 : Method := { name := "<init>", desc := "(I)V", sig := { parameters := [.int], returnType := none }, accessFlags := 0, code := some k21c0 }
def k21c1 : Code := { maxStack := 2, maxLocals := 3, code := prog_57_method_2_code, exceptionTable := #[], attributes := #[] }
def k21m1 : Method := { name := "<init>", desc := "(ILjava/util/List;)V", sig := { parameters := [.int, (.object "java/util/List")], returnType := none }, accessFlags := 2, code := some k21c1 }
/-- com/example/kneiphof/kneiphof/Partitioning -/
def k21 : Class := { plain "com/example/kneiphof/kneiphof/Partitioning" (some 0) with
  accessFlags := 48
  interfaces := #[]
  cf := some (fileOf pool21 8 #[.nestMembers #[40]] #[{ accessFlags := 0, nameIndex := 11, descriptorIndex := 102, attributes := #[] }, { accessFlags := 2, nameIndex := 11, descriptorIndex := 12, attributes := #[] }] 48 14 #[] #[{ accessFlags := 18, nameIndex := 20, descriptorIndex := 21, attributes := #[] }, { accessFlags := 18, nameIndex := 24, descriptorIndex := 25, attributes := #[] }])
  fields := #[{ name := "partitions", type := .int, accessFlags := 18, slot := 0, constantValue := 0 }, { name := "spreads", type := (.object "java/util/List"), accessFlags := 18, slot := 1, constantValue := 0 }]
  methods := #[k21m0, k21m1]
  instanceTypes := #[.int, (.object "java/util/List")]
  staticTypes := #[]
  resolved := Array.replicate 180 none
  statics := none }

def pool22 : Array CpInfo := pool [(2, .class_ 4), (1, u "java/lang/Object"), (0, u "<init>"), (0, u "()V"), (3, .class_ 11), (0, u "java/util/ImmutableCollections$List12"), (0, .class_ 13), (0, u "java/util/ImmutableCollections$ListN"), (3, u "Z"), (29, .class_ 49), (1, u "java/util/ImmutableCollections"), (0, u "$assertionsDisabled"), (5, u "[Ljava/lang/Object;"), (5, u "EMPTY_LIST"), (0, u "Ljava/util/ImmutableCollections$ListN;"), (8, u "EMPTY_LIST_NULLS"), (22, u "SALT32L"), (0, u "J"), (2, u "REVERSE"), (6, u "archivedObjects"), (2, u "EMPTY"), (0, u "Ljava/lang/Object;"), (0, .class_ 112), (0, u "java/util/ImmutableCollections$SetN"), (5, u "EMPTY_SET"), (0, u "Ljava/util/ImmutableCollections$SetN;"), (0, .class_ 121), (0, u "java/util/ImmutableCollections$MapN"), (3, u "EMPTY_MAP"), (0, u "Ljava/util/ImmutableCollections$MapN;"), (4, u "EXPAND_FACTOR"), (0, u "I"), (36, .class_ 170), (0, u "java/util/ImmutableCollections$MapN$MapNIterator"), (0, .class_ 172), (0, u "java/util/ImmutableCollections$MapN$1"), (0, .class_ 174), (0, u "java/util/ImmutableCollections$Map1"), (0, .class_ 176), (0, u "java/util/ImmutableCollections$AbstractImmutableMap"), (0, .class_ 178), (0, u "java/util/ImmutableCollections$SetN$SetNIterator"), (0, .class_ 180), (0, u "java/util/ImmutableCollections$Set12"), (0, .class_ 182), (0, u "java/util/ImmutableCollections$Set12$1"), (0, .class_ 184), (0, u "java/util/ImmutableCollections$AbstractImmutableSet"), (0, .class_ 186), (0, u "java/util/ImmutableCollections$SubList"), (0, .class_ 188), (0, u "java/util/ImmutableCollections$ListItr"), (0, .class_ 190), (0, u "java/util/ImmutableCollections$AbstractImmutableList"), (0, .class_ 192), (0, u "java/util/ImmutableCollections$AbstractImmutableCollection"), (0, .class_ 194), (0, u "java/util/ImmutableCollections$Access"), (0, .class_ 196), (0, u "java/util/ImmutableCollections$Access$1")] 16

def k22m0 : Method := { name := "<init>", desc := "()V", sig := { parameters := [], returnType := none }, accessFlags := 2, code := none }
/-- java/util/ImmutableCollections -/
def k22 : Class := { plain "java/util/ImmutableCollections" (some 0) with
  accessFlags := 32
  interfaces := #[]
  cf := some (fileOf pool22 47 #[.nestMembers #[120, 169, 171, 173, 175, 111, 177, 179, 181, 183, 12, 10, 185, 187, 189, 191, 193, 195]] #[{ accessFlags := 2, nameIndex := 5, descriptorIndex := 6, attributes := #[] }] 32 2 #[] #[{ accessFlags := 26, nameIndex := 95, descriptorIndex := 96, attributes := #[] }, { accessFlags := 26, nameIndex := 99, descriptorIndex := 17, attributes := #[] }, { accessFlags := 10, nameIndex := 106, descriptorIndex := 56, attributes := #[] }, { accessFlags := 26, nameIndex := 109, descriptorIndex := 110, attributes := #[] }, { accessFlags := 24, nameIndex := 62, descriptorIndex := 63, attributes := #[] }, { accessFlags := 24, nameIndex := 72, descriptorIndex := 63, attributes := #[] }, { accessFlags := 24, nameIndex := 118, descriptorIndex := 119, attributes := #[] }, { accessFlags := 24, nameIndex := 125, descriptorIndex := 126, attributes := #[] }, { accessFlags := 24, nameIndex := 131, descriptorIndex := 132, attributes := #[] }, { accessFlags := 4120, nameIndex := 50, descriptorIndex := 17, attributes := #[] }])
  fields := #[{ name := "SALT32L", type := .long, accessFlags := 26, slot := 0, constantValue := 0 }, { name := "REVERSE", type := .boolean, accessFlags := 26, slot := 1, constantValue := 0 }, { name := "archivedObjects", type := (.array (.object "java/lang/Object")), accessFlags := 10, slot := 2, constantValue := 0 }, { name := "EMPTY", type := (.object "java/lang/Object"), accessFlags := 26, slot := 3, constantValue := 0 }, { name := "EMPTY_LIST", type := (.object "java/util/ImmutableCollections$ListN"), accessFlags := 24, slot := 4, constantValue := 0 }, { name := "EMPTY_LIST_NULLS", type := (.object "java/util/ImmutableCollections$ListN"), accessFlags := 24, slot := 5, constantValue := 0 }, { name := "EMPTY_SET", type := (.object "java/util/ImmutableCollections$SetN"), accessFlags := 24, slot := 6, constantValue := 0 }, { name := "EMPTY_MAP", type := (.object "java/util/ImmutableCollections$MapN"), accessFlags := 24, slot := 7, constantValue := 0 }, { name := "EXPAND_FACTOR", type := .int, accessFlags := 24, slot := 8, constantValue := 0 }, { name := "$assertionsDisabled", type := .boolean, accessFlags := 4120, slot := 9, constantValue := 0 }]
  methods := #[k22m0]
  instanceTypes := #[]
  staticTypes := #[.long, .boolean, (.array (.object "java/lang/Object")), (.object "java/lang/Object"), (.object "java/util/ImmutableCollections$ListN"), (.object "java/util/ImmutableCollections$ListN"), (.object "java/util/ImmutableCollections$SetN"), (.object "java/util/ImmutableCollections$MapN"), .int, .boolean]
  resolved := Array.replicate 213 none
  statics := some 2 }

def pool23 : Array CpInfo := pool [(2, .class_ 4), (1, u "java/lang/Object"), (0, u "<init>"), (0, u "()V"), (1, .class_ 10), (1, u "java/lang/System"), (0, u "allowSecurityManager"), (0, u "I"), (16, u "cons"), (0, u "Ljava/io/Console;"), (77, .class_ 110), (1, u "java/lang/System$CallersHolder"), (43, u "initialErrStream"), (0, u "Ljava/io/PrintStream;"), (19, u "security"), (0, u "Ljava/lang/SecurityManager;"), (31, .class_ 209), (0, u "java/lang/System$1"), (7, u "props"), (0, u "Ljava/util/Properties;"), (2, u "lineSeparator"), (0, u "Ljava/lang/String;"), (96, .class_ 321), (1, u "java/lang/System$LoggerFinder"), (5, .class_ 328), (0, u "java/lang/System$Logger"), (67, u "err"), (2, u "out"), (91, u "notSupportedJnuEncoding"), (15, u "in"), (17, u "initialIn"), (0, u "Ljava/io/InputStream;"), (35, u "bootLayer"), (0, u "Ljava/lang/ModuleLayer;"), (99, .class_ 664), (0, u "java/lang/System$2"), (9, u "NEVER"), (2, u "MAYBE"), (49, u "arraycopy"), (0, u "(Ljava/lang/Object;ILjava/lang/Object;II)V"), (72, .class_ 802), (0, u "java/lang/System$Logger$Level")] 31

def k23m0 : Method := { name := "<init>", desc := "()V", sig := { parameters := [], returnType := none }, accessFlags := 2, code := none }
def k23m1 : Method := { name := "arraycopy", desc := "(Ljava/lang/Object;ILjava/lang/Object;II)V", sig := { parameters := [(.object "java/lang/Object"), .int, (.object "java/lang/Object"), .int, .int], returnType := none }, accessFlags := 265, code := none }
/-- java/lang/System -/
def k23 : Class := { plain "java/lang/System" (some 0) with
  accessFlags := 49
  interfaces := #[]
  cf := some (fileOf pool23 8 #[.nestMembers #[319, 327, 801, 108, 663, 208]] #[{ accessFlags := 2, nameIndex := 5, descriptorIndex := 6, attributes := #[] }, { accessFlags := 265, nameIndex := 727, descriptorIndex := 728, attributes := #[] }] 49 2 #[] #[{ accessFlags := 25, nameIndex := 507, descriptorIndex := 526, attributes := #[] }, { accessFlags := 25, nameIndex := 399, descriptorIndex := 155, attributes := #[] }, { accessFlags := 25, nameIndex := 396, descriptorIndex := 155, attributes := #[] }, { accessFlags := 10, nameIndex := 525, descriptorIndex := 526, attributes := #[] }, { accessFlags := 26, nameIndex := 674, descriptorIndex := 12, attributes := #[] }, { accessFlags := 26, nameIndex := 677, descriptorIndex := 12, attributes := #[] }, { accessFlags := 10, nameIndex := 11, descriptorIndex := 12, attributes := #[] }, { accessFlags := 74, nameIndex := 175, descriptorIndex := 176, attributes := #[] }, { accessFlags := 10, nameIndex := 491, descriptorIndex := 222, attributes := #[] }, { accessFlags := 74, nameIndex := 29, descriptorIndex := 30, attributes := #[] }, { accessFlags := 74, nameIndex := 154, descriptorIndex := 155, attributes := #[] }, { accessFlags := 10, nameIndex := 217, descriptorIndex := 218, attributes := #[] }, { accessFlags := 10, nameIndex := 221, descriptorIndex := 222, attributes := #[] }, { accessFlags := 8, nameIndex := 562, descriptorIndex := 563, attributes := #[] }])
  fields := #[{ name := "in", type := (.object "java/io/InputStream"), accessFlags := 25, slot := 0, constantValue := 0 }, { name := "out", type := (.object "java/io/PrintStream"), accessFlags := 25, slot := 1, constantValue := 0 }, { name := "err", type := (.object "java/io/PrintStream"), accessFlags := 25, slot := 2, constantValue := 0 }, { name := "initialIn", type := (.object "java/io/InputStream"), accessFlags := 10, slot := 3, constantValue := 0 }, { name := "NEVER", type := .int, accessFlags := 26, slot := 4, constantValue := 0 }, { name := "MAYBE", type := .int, accessFlags := 26, slot := 5, constantValue := 0 }, { name := "allowSecurityManager", type := .int, accessFlags := 10, slot := 6, constantValue := 0 }, { name := "security", type := (.object "java/lang/SecurityManager"), accessFlags := 74, slot := 7, constantValue := 0 }, { name := "notSupportedJnuEncoding", type := (.object "java/lang/String"), accessFlags := 10, slot := 8, constantValue := 0 }, { name := "cons", type := (.object "java/io/Console"), accessFlags := 74, slot := 9, constantValue := 0 }, { name := "initialErrStream", type := (.object "java/io/PrintStream"), accessFlags := 74, slot := 10, constantValue := 0 }, { name := "props", type := (.object "java/util/Properties"), accessFlags := 10, slot := 11, constantValue := 0 }, { name := "lineSeparator", type := (.object "java/lang/String"), accessFlags := 10, slot := 12, constantValue := 0 }, { name := "bootLayer", type := (.object "java/lang/ModuleLayer"), accessFlags := 8, slot := 13, constantValue := 0 }]
  methods := #[k23m0, k23m1]
  instanceTypes := #[]
  staticTypes := #[(.object "java/io/InputStream"), (.object "java/io/PrintStream"), (.object "java/io/PrintStream"), (.object "java/io/InputStream"), .int, .int, .int, (.object "java/lang/SecurityManager"), (.object "java/lang/String"), (.object "java/io/Console"), (.object "java/io/PrintStream"), (.object "java/util/Properties"), (.object "java/lang/String"), (.object "java/lang/ModuleLayer")]
  resolved := Array.replicate 834 none
  statics := none }

def pool24 : Array CpInfo := pool [(2, .class_ 4), (1, u "java/util/AbstractCollection"), (0, u "<init>"), (0, u "()V"), (1, .class_ 10), (1, u "java/util/ImmutableCollections"), (2, .class_ 14), (0, u "java/util/ImmutableCollections$AbstractImmutableCollection")] 41

def k24m0 : Method := { name := "<init>", desc := "()V", sig := { parameters := [], returnType := none }, accessFlags := 0, code := none }
/-- java/util/ImmutableCollections$AbstractImmutableCollection -/
def k24 : Class := { plain "java/util/ImmutableCollections$AbstractImmutableCollection" (some 5) with
  accessFlags := 1056
  interfaces := #[]
  cf := some (fileOf pool24 13 #[.nestHost 8] #[{ accessFlags := 0, nameIndex := 5, descriptorIndex := 6, attributes := #[] }] 1056 2 #[] #[])
  fields := #[]
  methods := #[k24m0]
  instanceTypes := #[]
  staticTypes := #[]
  resolved := Array.replicate 56 none
  statics := none }

def pool25 : Array CpInfo := pool [(2, .class_ 4), (1, u "java/util/ImmutableCollections$AbstractImmutableCollection"), (0, u "<init>"), (0, u "()V"), (1, .class_ 10), (1, u "java/util/ImmutableCollections"), (3, .class_ 16), (1, u "java/util/ImmutableCollections$AbstractImmutableList"), (60, .class_ 78), (0, u "java/util/List"), (45, .class_ 125), (0, u "java/util/RandomAccess")] 70

def k25m0 : Method := { name := "<init>", desc := "()V", sig := { parameters := [], returnType := none }, accessFlags := 0, code := none }
/-- java/util/ImmutableCollections$AbstractImmutableList -/
def k25 : Class := { plain "java/util/ImmutableCollections$AbstractImmutableList" (some 24) with
  accessFlags := 1056
  interfaces := #[7, 9]
  cf := some (fileOf pool25 14 #[.nestHost 8] #[{ accessFlags := 0, nameIndex := 5, descriptorIndex := 6, attributes := #[] }] 1056 2 #[77, 124] #[])
  fields := #[]
  methods := #[k25m0]
  instanceTypes := #[]
  staticTypes := #[]
  resolved := Array.replicate 196 none
  statics := none }

def pool26 : Array CpInfo := pool [(2, .class_ 4), (1, u "java/util/ImmutableCollections$AbstractImmutableList"), (3, .class_ 10), (1, u "java/util/ImmutableCollections$ListN"), (0, u "elements"), (0, u "[Ljava/lang/Object;"), (2, u "allowNulls"), (0, u "Z"), (42, .class_ 60), (0, u "java/io/Serializable"), (53, .class_ 115), (0, u "java/util/ImmutableCollections")] 3

/-- java/util/ImmutableCollections$ListN -/
def k26 : Class := { plain "java/util/ImmutableCollections$ListN" (some 25) with
  accessFlags := 48
  interfaces := #[11]
  cf := some (fileOf pool26 8 #[.nestHost 114] #[] 48 2 #[59] #[{ accessFlags := 18, nameIndex := 11, descriptorIndex := 12, attributes := #[] }, { accessFlags := 18, nameIndex := 15, descriptorIndex := 16, attributes := #[] }])
  fields := #[{ name := "elements", type := (.array (.object "java/lang/Object")), accessFlags := 18, slot := 0, constantValue := 0 }, { name := "allowNulls", type := .boolean, accessFlags := 18, slot := 1, constantValue := 0 }]
  methods := #[]
  instanceTypes := #[(.array (.object "java/lang/Object")), .boolean]
  staticTypes := #[]
  resolved := Array.replicate 119 none
  statics := none }

/-- the primitive byte -/
def k27 : Class := { plain "byte" none with kind := .primitive 'B', accessFlags := 0x411 }
/-- [B -/
def k28 : Class := { plain "[B" (some 0) with kind := .array 27 .byte, interfaces := #[10, 11], accessFlags := 1041 }

/-- the primitive int -/
def k29 : Class := { plain "int" none with kind := .primitive 'I', accessFlags := 0x411 }
/-- [I -/
def k30 : Class := { plain "[I" (some 0) with kind := .array 29 .int, interfaces := #[10, 11], accessFlags := 1041 }

/-- [Ljava/lang/Integer; -/
def k31 : Class := { plain "[Ljava/lang/Integer;" (some 0) with kind := .array 18 (.object "java/lang/Integer"), interfaces := #[10, 11], accessFlags := 1041 }

/-- [Ljava/lang/Object; -/
def k32 : Class := { plain "[Ljava/lang/Object;" (some 0) with kind := .array 0 (.object "java/lang/Object"), interfaces := #[10, 11], accessFlags := 1041 }

def heap : Heap := #[{ cls := 12, slots := #[.long 0, .int 0, .ref 262, .ref 263], vm := .statics 12 },
  { cls := 19, slots := #[.int 0, .int 127, .ref 3, .null, .int 0], vm := .statics 19 },
  { cls := 22, slots := #[.long 0, .int 0, .null, .null, .ref 261, .null, .null, .null, .int 0, .int 0], vm := .statics 22 },
  { cls := 31, slots := #[.ref 5, .ref 6, .ref 7, .ref 8, .ref 9, .ref 10, .ref 11, .ref 12, .ref 13, .ref 14, .ref 15, .ref 16, .ref 17, .ref 18, .ref 19, .ref 20, .ref 21, .ref 22, .ref 23, .ref 24, .ref 25, .ref 26, .ref 27, .ref 28, .ref 29, .ref 30, .ref 31, .ref 32, .ref 33, .ref 34, .ref 35, .ref 36, .ref 37, .ref 38, .ref 39, .ref 40, .ref 41, .ref 42, .ref 43, .ref 44, .ref 45, .ref 46, .ref 47, .ref 48, .ref 49, .ref 50, .ref 51, .ref 52, .ref 53, .ref 54, .ref 55, .ref 56, .ref 57, .ref 58, .ref 59, .ref 60, .ref 61, .ref 62, .ref 63, .ref 64, .ref 65, .ref 66, .ref 67, .ref 68, .ref 69, .ref 70, .ref 71, .ref 72, .ref 73, .ref 74, .ref 75, .ref 76, .ref 77, .ref 78, .ref 79, .ref 80, .ref 81, .ref 82, .ref 83, .ref 84, .ref 85, .ref 86, .ref 87, .ref 88, .ref 89, .ref 90, .ref 91, .ref 92, .ref 93, .ref 94, .ref 95, .ref 96, .ref 97, .ref 98, .ref 99, .ref 100, .ref 101, .ref 102, .ref 103, .ref 104, .ref 105, .ref 106, .ref 107, .ref 108, .ref 109, .ref 110, .ref 111, .ref 112, .ref 113, .ref 114, .ref 115, .ref 116, .ref 117, .ref 118, .ref 119, .ref 120, .ref 121, .ref 122, .ref 123, .ref 124, .ref 125, .ref 126, .ref 127, .ref 128, .ref 129, .ref 130, .ref 131, .ref 132, .ref 133, .ref 134, .ref 135, .ref 136, .ref 137, .ref 138, .ref 139, .ref 140, .ref 141, .ref 142, .ref 143, .ref 144, .ref 145, .ref 146, .ref 147, .ref 148, .ref 149, .ref 150, .ref 151, .ref 152, .ref 153, .ref 154, .ref 155, .ref 156, .ref 157, .ref 158, .ref 159, .ref 160, .ref 161, .ref 162, .ref 163, .ref 164, .ref 165, .ref 166, .ref 167, .ref 168, .ref 169, .ref 170, .ref 171, .ref 172, .ref 173, .ref 174, .ref 175, .ref 176, .ref 177, .ref 178, .ref 179, .ref 180, .ref 181, .ref 182, .ref 183, .ref 184, .ref 185, .ref 186, .ref 187, .ref 188, .ref 189, .ref 190, .ref 191, .ref 192, .ref 193, .ref 194, .ref 195, .ref 196, .ref 197, .ref 198, .ref 199, .ref 200, .ref 201, .ref 202, .ref 203, .ref 204, .ref 205, .ref 206, .ref 207, .ref 208, .ref 209, .ref 210, .ref 211, .ref 212, .ref 213, .ref 214, .ref 215, .ref 216, .ref 217, .ref 218, .ref 219, .ref 220, .ref 221, .ref 222, .ref 223, .ref 224, .ref 225, .ref 226, .ref 227, .ref 228, .ref 229, .ref 230, .ref 231, .ref 232, .ref 233, .ref 234, .ref 235, .ref 236, .ref 237, .ref 238, .ref 239, .ref 240, .ref 241, .ref 242, .ref 243, .ref 244, .ref 245, .ref 246, .ref 247, .ref 248, .ref 249, .ref 250, .ref 251, .ref 252, .ref 253, .ref 254, .ref 255, .ref 256, .ref 257, .ref 258, .ref 259, .ref 260], vm := .none },
  { cls := 32, slots := #[], vm := .none },
  { cls := 18, slots := #[.int (-128)], vm := .none },
  { cls := 18, slots := #[.int (-127)], vm := .none },
  { cls := 18, slots := #[.int (-126)], vm := .none },
  { cls := 18, slots := #[.int (-125)], vm := .none },
  { cls := 18, slots := #[.int (-124)], vm := .none },
  { cls := 18, slots := #[.int (-123)], vm := .none },
  { cls := 18, slots := #[.int (-122)], vm := .none },
  { cls := 18, slots := #[.int (-121)], vm := .none },
  { cls := 18, slots := #[.int (-120)], vm := .none },
  { cls := 18, slots := #[.int (-119)], vm := .none },
  { cls := 18, slots := #[.int (-118)], vm := .none },
  { cls := 18, slots := #[.int (-117)], vm := .none },
  { cls := 18, slots := #[.int (-116)], vm := .none },
  { cls := 18, slots := #[.int (-115)], vm := .none },
  { cls := 18, slots := #[.int (-114)], vm := .none },
  { cls := 18, slots := #[.int (-113)], vm := .none },
  { cls := 18, slots := #[.int (-112)], vm := .none },
  { cls := 18, slots := #[.int (-111)], vm := .none },
  { cls := 18, slots := #[.int (-110)], vm := .none },
  { cls := 18, slots := #[.int (-109)], vm := .none },
  { cls := 18, slots := #[.int (-108)], vm := .none },
  { cls := 18, slots := #[.int (-107)], vm := .none },
  { cls := 18, slots := #[.int (-106)], vm := .none },
  { cls := 18, slots := #[.int (-105)], vm := .none },
  { cls := 18, slots := #[.int (-104)], vm := .none },
  { cls := 18, slots := #[.int (-103)], vm := .none },
  { cls := 18, slots := #[.int (-102)], vm := .none },
  { cls := 18, slots := #[.int (-101)], vm := .none },
  { cls := 18, slots := #[.int (-100)], vm := .none },
  { cls := 18, slots := #[.int (-99)], vm := .none },
  { cls := 18, slots := #[.int (-98)], vm := .none },
  { cls := 18, slots := #[.int (-97)], vm := .none },
  { cls := 18, slots := #[.int (-96)], vm := .none },
  { cls := 18, slots := #[.int (-95)], vm := .none },
  { cls := 18, slots := #[.int (-94)], vm := .none },
  { cls := 18, slots := #[.int (-93)], vm := .none },
  { cls := 18, slots := #[.int (-92)], vm := .none },
  { cls := 18, slots := #[.int (-91)], vm := .none },
  { cls := 18, slots := #[.int (-90)], vm := .none },
  { cls := 18, slots := #[.int (-89)], vm := .none },
  { cls := 18, slots := #[.int (-88)], vm := .none },
  { cls := 18, slots := #[.int (-87)], vm := .none },
  { cls := 18, slots := #[.int (-86)], vm := .none },
  { cls := 18, slots := #[.int (-85)], vm := .none },
  { cls := 18, slots := #[.int (-84)], vm := .none },
  { cls := 18, slots := #[.int (-83)], vm := .none },
  { cls := 18, slots := #[.int (-82)], vm := .none },
  { cls := 18, slots := #[.int (-81)], vm := .none },
  { cls := 18, slots := #[.int (-80)], vm := .none },
  { cls := 18, slots := #[.int (-79)], vm := .none },
  { cls := 18, slots := #[.int (-78)], vm := .none },
  { cls := 18, slots := #[.int (-77)], vm := .none },
  { cls := 18, slots := #[.int (-76)], vm := .none },
  { cls := 18, slots := #[.int (-75)], vm := .none },
  { cls := 18, slots := #[.int (-74)], vm := .none },
  { cls := 18, slots := #[.int (-73)], vm := .none },
  { cls := 18, slots := #[.int (-72)], vm := .none },
  { cls := 18, slots := #[.int (-71)], vm := .none },
  { cls := 18, slots := #[.int (-70)], vm := .none },
  { cls := 18, slots := #[.int (-69)], vm := .none },
  { cls := 18, slots := #[.int (-68)], vm := .none },
  { cls := 18, slots := #[.int (-67)], vm := .none },
  { cls := 18, slots := #[.int (-66)], vm := .none },
  { cls := 18, slots := #[.int (-65)], vm := .none },
  { cls := 18, slots := #[.int (-64)], vm := .none },
  { cls := 18, slots := #[.int (-63)], vm := .none },
  { cls := 18, slots := #[.int (-62)], vm := .none },
  { cls := 18, slots := #[.int (-61)], vm := .none },
  { cls := 18, slots := #[.int (-60)], vm := .none },
  { cls := 18, slots := #[.int (-59)], vm := .none },
  { cls := 18, slots := #[.int (-58)], vm := .none },
  { cls := 18, slots := #[.int (-57)], vm := .none },
  { cls := 18, slots := #[.int (-56)], vm := .none },
  { cls := 18, slots := #[.int (-55)], vm := .none },
  { cls := 18, slots := #[.int (-54)], vm := .none },
  { cls := 18, slots := #[.int (-53)], vm := .none },
  { cls := 18, slots := #[.int (-52)], vm := .none },
  { cls := 18, slots := #[.int (-51)], vm := .none },
  { cls := 18, slots := #[.int (-50)], vm := .none },
  { cls := 18, slots := #[.int (-49)], vm := .none },
  { cls := 18, slots := #[.int (-48)], vm := .none },
  { cls := 18, slots := #[.int (-47)], vm := .none },
  { cls := 18, slots := #[.int (-46)], vm := .none },
  { cls := 18, slots := #[.int (-45)], vm := .none },
  { cls := 18, slots := #[.int (-44)], vm := .none },
  { cls := 18, slots := #[.int (-43)], vm := .none },
  { cls := 18, slots := #[.int (-42)], vm := .none },
  { cls := 18, slots := #[.int (-41)], vm := .none },
  { cls := 18, slots := #[.int (-40)], vm := .none },
  { cls := 18, slots := #[.int (-39)], vm := .none },
  { cls := 18, slots := #[.int (-38)], vm := .none },
  { cls := 18, slots := #[.int (-37)], vm := .none },
  { cls := 18, slots := #[.int (-36)], vm := .none },
  { cls := 18, slots := #[.int (-35)], vm := .none },
  { cls := 18, slots := #[.int (-34)], vm := .none },
  { cls := 18, slots := #[.int (-33)], vm := .none },
  { cls := 18, slots := #[.int (-32)], vm := .none },
  { cls := 18, slots := #[.int (-31)], vm := .none },
  { cls := 18, slots := #[.int (-30)], vm := .none },
  { cls := 18, slots := #[.int (-29)], vm := .none },
  { cls := 18, slots := #[.int (-28)], vm := .none },
  { cls := 18, slots := #[.int (-27)], vm := .none },
  { cls := 18, slots := #[.int (-26)], vm := .none },
  { cls := 18, slots := #[.int (-25)], vm := .none },
  { cls := 18, slots := #[.int (-24)], vm := .none },
  { cls := 18, slots := #[.int (-23)], vm := .none },
  { cls := 18, slots := #[.int (-22)], vm := .none },
  { cls := 18, slots := #[.int (-21)], vm := .none },
  { cls := 18, slots := #[.int (-20)], vm := .none },
  { cls := 18, slots := #[.int (-19)], vm := .none },
  { cls := 18, slots := #[.int (-18)], vm := .none },
  { cls := 18, slots := #[.int (-17)], vm := .none },
  { cls := 18, slots := #[.int (-16)], vm := .none },
  { cls := 18, slots := #[.int (-15)], vm := .none },
  { cls := 18, slots := #[.int (-14)], vm := .none },
  { cls := 18, slots := #[.int (-13)], vm := .none },
  { cls := 18, slots := #[.int (-12)], vm := .none },
  { cls := 18, slots := #[.int (-11)], vm := .none },
  { cls := 18, slots := #[.int (-10)], vm := .none },
  { cls := 18, slots := #[.int (-9)], vm := .none },
  { cls := 18, slots := #[.int (-8)], vm := .none },
  { cls := 18, slots := #[.int (-7)], vm := .none },
  { cls := 18, slots := #[.int (-6)], vm := .none },
  { cls := 18, slots := #[.int (-5)], vm := .none },
  { cls := 18, slots := #[.int (-4)], vm := .none },
  { cls := 18, slots := #[.int (-3)], vm := .none },
  { cls := 18, slots := #[.int (-2)], vm := .none },
  { cls := 18, slots := #[.int (-1)], vm := .none },
  { cls := 18, slots := #[.int 0], vm := .none },
  { cls := 18, slots := #[.int 1], vm := .none },
  { cls := 18, slots := #[.int 2], vm := .none },
  { cls := 18, slots := #[.int 3], vm := .none },
  { cls := 18, slots := #[.int 4], vm := .none },
  { cls := 18, slots := #[.int 5], vm := .none },
  { cls := 18, slots := #[.int 6], vm := .none },
  { cls := 18, slots := #[.int 7], vm := .none },
  { cls := 18, slots := #[.int 8], vm := .none },
  { cls := 18, slots := #[.int 9], vm := .none },
  { cls := 18, slots := #[.int 10], vm := .none },
  { cls := 18, slots := #[.int 11], vm := .none },
  { cls := 18, slots := #[.int 12], vm := .none },
  { cls := 18, slots := #[.int 13], vm := .none },
  { cls := 18, slots := #[.int 14], vm := .none },
  { cls := 18, slots := #[.int 15], vm := .none },
  { cls := 18, slots := #[.int 16], vm := .none },
  { cls := 18, slots := #[.int 17], vm := .none },
  { cls := 18, slots := #[.int 18], vm := .none },
  { cls := 18, slots := #[.int 19], vm := .none },
  { cls := 18, slots := #[.int 20], vm := .none },
  { cls := 18, slots := #[.int 21], vm := .none },
  { cls := 18, slots := #[.int 22], vm := .none },
  { cls := 18, slots := #[.int 23], vm := .none },
  { cls := 18, slots := #[.int 24], vm := .none },
  { cls := 18, slots := #[.int 25], vm := .none },
  { cls := 18, slots := #[.int 26], vm := .none },
  { cls := 18, slots := #[.int 27], vm := .none },
  { cls := 18, slots := #[.int 28], vm := .none },
  { cls := 18, slots := #[.int 29], vm := .none },
  { cls := 18, slots := #[.int 30], vm := .none },
  { cls := 18, slots := #[.int 31], vm := .none },
  { cls := 18, slots := #[.int 32], vm := .none },
  { cls := 18, slots := #[.int 33], vm := .none },
  { cls := 18, slots := #[.int 34], vm := .none },
  { cls := 18, slots := #[.int 35], vm := .none },
  { cls := 18, slots := #[.int 36], vm := .none },
  { cls := 18, slots := #[.int 37], vm := .none },
  { cls := 18, slots := #[.int 38], vm := .none },
  { cls := 18, slots := #[.int 39], vm := .none },
  { cls := 18, slots := #[.int 40], vm := .none },
  { cls := 18, slots := #[.int 41], vm := .none },
  { cls := 18, slots := #[.int 42], vm := .none },
  { cls := 18, slots := #[.int 43], vm := .none },
  { cls := 18, slots := #[.int 44], vm := .none },
  { cls := 18, slots := #[.int 45], vm := .none },
  { cls := 18, slots := #[.int 46], vm := .none },
  { cls := 18, slots := #[.int 47], vm := .none },
  { cls := 18, slots := #[.int 48], vm := .none },
  { cls := 18, slots := #[.int 49], vm := .none },
  { cls := 18, slots := #[.int 50], vm := .none },
  { cls := 18, slots := #[.int 51], vm := .none },
  { cls := 18, slots := #[.int 52], vm := .none },
  { cls := 18, slots := #[.int 53], vm := .none },
  { cls := 18, slots := #[.int 54], vm := .none },
  { cls := 18, slots := #[.int 55], vm := .none },
  { cls := 18, slots := #[.int 56], vm := .none },
  { cls := 18, slots := #[.int 57], vm := .none },
  { cls := 18, slots := #[.int 58], vm := .none },
  { cls := 18, slots := #[.int 59], vm := .none },
  { cls := 18, slots := #[.int 60], vm := .none },
  { cls := 18, slots := #[.int 61], vm := .none },
  { cls := 18, slots := #[.int 62], vm := .none },
  { cls := 18, slots := #[.int 63], vm := .none },
  { cls := 18, slots := #[.int 64], vm := .none },
  { cls := 18, slots := #[.int 65], vm := .none },
  { cls := 18, slots := #[.int 66], vm := .none },
  { cls := 18, slots := #[.int 67], vm := .none },
  { cls := 18, slots := #[.int 68], vm := .none },
  { cls := 18, slots := #[.int 69], vm := .none },
  { cls := 18, slots := #[.int 70], vm := .none },
  { cls := 18, slots := #[.int 71], vm := .none },
  { cls := 18, slots := #[.int 72], vm := .none },
  { cls := 18, slots := #[.int 73], vm := .none },
  { cls := 18, slots := #[.int 74], vm := .none },
  { cls := 18, slots := #[.int 75], vm := .none },
  { cls := 18, slots := #[.int 76], vm := .none },
  { cls := 18, slots := #[.int 77], vm := .none },
  { cls := 18, slots := #[.int 78], vm := .none },
  { cls := 18, slots := #[.int 79], vm := .none },
  { cls := 18, slots := #[.int 80], vm := .none },
  { cls := 18, slots := #[.int 81], vm := .none },
  { cls := 18, slots := #[.int 82], vm := .none },
  { cls := 18, slots := #[.int 83], vm := .none },
  { cls := 18, slots := #[.int 84], vm := .none },
  { cls := 18, slots := #[.int 85], vm := .none },
  { cls := 18, slots := #[.int 86], vm := .none },
  { cls := 18, slots := #[.int 87], vm := .none },
  { cls := 18, slots := #[.int 88], vm := .none },
  { cls := 18, slots := #[.int 89], vm := .none },
  { cls := 18, slots := #[.int 90], vm := .none },
  { cls := 18, slots := #[.int 91], vm := .none },
  { cls := 18, slots := #[.int 92], vm := .none },
  { cls := 18, slots := #[.int 93], vm := .none },
  { cls := 18, slots := #[.int 94], vm := .none },
  { cls := 18, slots := #[.int 95], vm := .none },
  { cls := 18, slots := #[.int 96], vm := .none },
  { cls := 18, slots := #[.int 97], vm := .none },
  { cls := 18, slots := #[.int 98], vm := .none },
  { cls := 18, slots := #[.int 99], vm := .none },
  { cls := 18, slots := #[.int 100], vm := .none },
  { cls := 18, slots := #[.int 101], vm := .none },
  { cls := 18, slots := #[.int 102], vm := .none },
  { cls := 18, slots := #[.int 103], vm := .none },
  { cls := 18, slots := #[.int 104], vm := .none },
  { cls := 18, slots := #[.int 105], vm := .none },
  { cls := 18, slots := #[.int 106], vm := .none },
  { cls := 18, slots := #[.int 107], vm := .none },
  { cls := 18, slots := #[.int 108], vm := .none },
  { cls := 18, slots := #[.int 109], vm := .none },
  { cls := 18, slots := #[.int 110], vm := .none },
  { cls := 18, slots := #[.int 111], vm := .none },
  { cls := 18, slots := #[.int 112], vm := .none },
  { cls := 18, slots := #[.int 113], vm := .none },
  { cls := 18, slots := #[.int 114], vm := .none },
  { cls := 18, slots := #[.int 115], vm := .none },
  { cls := 18, slots := #[.int 116], vm := .none },
  { cls := 18, slots := #[.int 117], vm := .none },
  { cls := 18, slots := #[.int 118], vm := .none },
  { cls := 18, slots := #[.int 119], vm := .none },
  { cls := 18, slots := #[.int 120], vm := .none },
  { cls := 18, slots := #[.int 121], vm := .none },
  { cls := 18, slots := #[.int 122], vm := .none },
  { cls := 18, slots := #[.int 123], vm := .none },
  { cls := 18, slots := #[.int 124], vm := .none },
  { cls := 18, slots := #[.int 125], vm := .none },
  { cls := 18, slots := #[.int 126], vm := .none },
  { cls := 18, slots := #[.int 127], vm := .none },
  { cls := 26, slots := #[.ref 4, .int 0], vm := .none },
  { cls := 32, slots := #[], vm := .none },
  { cls := 32, slots := #[], vm := .none }]
def classes : Array Class := #[k0, k1, k2, k3, k4, k5, k6, k7, k8, k9, k10, k11, k12, k13, k14, k15, k16, k17, k18, k19, k20, k21, k22, k23, k24, k25, k26, k27, k28, k29, k30, k31, k32]
def interned : List (Array UInt16 × Addr) := []
def slotsUsed : Nat := 533
def theMethod : MethodId := ⟨1, 1⟩
def args0 : Array Value := #[.int 5, .int 6, .int 7, .int 8, .int 9, .int 10]
def aboutOver (below : List Frame) : State where
  vm := { classes := classes, interned := interned.toArray }
  heap := heap
  slotsUsed := slotsUsed
  threads := #[{ frames := .invoking theMethod args0 :: below }]
def below0 : List Frame := [.native { method := ⟨0, 0⟩, args := #[] }]
def about1 : State := aboutOver below0
def p0 : Program := .bare "" "" ""
def e0 : Env := launch0.env 0 0 0
theorem w_frames : about1.frames = Frame.invoking theMethod args0 :: below0 := rfl
set_option maxRecDepth 65536 in
theorem w_args : argsFit about1.vm theMethod args0 = true := by decide +kernel
set_option maxRecDepth 65536 in
theorem w_heap : heapFits about1 = true := by decide +kernel
set_option maxRecDepth 65536 in
theorem w_runnable : about1.curStatus? = some .runnable := by decide +kernel
set_option maxRecDepth 65536 in
theorem w_alone : about1.alone = true := by decide +kernel
set_option maxRecDepth 65536 in
theorem w_named : about1.methodNamed? x = some theMethod := by decide +kernel
set_option maxRecDepth 65536 in
theorem w_hears : about1.hears theMethod below0 = true := by decide +kernel
set_option maxRecDepth 65536 in
theorem w_ripe : about1.ripe theMethod args0 below0 = true := by decide +kernel
theorem w_running : about1.status = .running := rfl
set_option maxRecDepth 65536 in
theorem w_room : about1.hasRoom e0.platform room_1 = true :=
  launch0.hasRoom_least _ room_1 (by decide +kernel) (by decide +kernel) (by decide +kernel) (by decide +kernel) (by decide +kernel) (by decide +kernel)
theorem allAtoms_all (ts : List Jvm.Cond) (a : Array Jvm.Value) (st : Jvm.State) : (allAtoms ts).before a st = ts.all (fun c => c.before a st) := by
  induction ts with
  | nil => rfl
  | cons c t ih =>
    show (Jvm.Cond.and c (allAtoms t)).before a st = _
    rw [Jvm.Cond.before_and, ih, List.all_cons]
def words1 : List Jvm.Cond := Jvm.Cond.code x code maxLocals ret :: tables_1
/-- a 'code' word, met by the world's own term for the bytes: nothing is compared byte by byte -/
theorem code_word {y : MethodName} {bytes : ByteArray} {mx : Nat} {rt : Option FieldType} {a : Array Value} {s : State} {m : MethodId} {meth : Method} {c : Code} (h1 : s.methodNamed? y = some m) (h2 : s.vm.method? m = some meth) (h3 : meth.code = some c) (h4 : c.code = bytes)
    (h5 : (c.maxLocals == mx && c.exceptionTable.isEmpty && decide (c.maxStack ≤ mostOperands) && decide (meth.sig.returnType = rt) && !meth.locks && decide (parseMethodDescriptor y.desc = some meth.sig)) = true) : (Jvm.Cond.code y bytes mx rt).before a s = true := by
  simp only [Bool.and_eq_true, beq_iff_eq, Bool.not_eq_true', decide_eq_true_eq] at h5
  obtain ⟨⟨⟨⟨⟨g1, g2⟩, g3⟩, g4⟩, g5⟩, g6⟩ := h5
  simp [Cond.before, Cond.holds, Cond.value, h1, h2, h3, h4, g1, g2, g3, g4, g5, g6]
def isCode : Jvm.Cond → Bool
  | .code _ _ _ _ => true
  | _ => false
theorem all_split {L : List Jvm.Cond} {P : Jvm.Cond → Bool} (h1 : L.all (fun c => isCode c || P c) = true) (h2 : ∀ c ∈ L.filter isCode, P c = true) : L.all P = true := by
  refine List.all_eq_true.mpr fun c hc => ?_
  have h := List.all_eq_true.mp h1 c hc
  rcases Bool.eq_false_or_eq_true (isCode c) with hi | hi
  · exact h2 c (List.mem_filter.mpr ⟨hc, hi⟩)
  · simpa [hi] using h
set_option maxRecDepth 65536 in
theorem w_c0 : (Jvm.Cond.code x code maxLocals ret).before args0 about1 = true := code_word (m := ⟨1, 1⟩) (meth := k1m1) (c := k1c1) (by decide +kernel) rfl rfl rfl (by decide +kernel)
set_option maxRecDepth 65536 in
theorem w_c1 : (Jvm.Cond.code ({ cls := "com/example/kneiphof/kneiphof/Assignment", name := "<init>", desc := "(III)V" } : Jvm.MethodName) prog_5_method_1_code (5 : Nat) (Option.none : Option Jvm.ClassFile.FieldType)).before args0 about1 = true := code_word (m := ⟨2, 0⟩) (meth := k2m0) (c := k2c0) (by decide +kernel) rfl rfl rfl (by decide +kernel)
set_option maxRecDepth 65536 in
theorem w_c2 : (Jvm.Cond.code ({ cls := "java/lang/Object", name := "<init>", desc := "()V" } : Jvm.MethodName) object_method_1_code (1 : Nat) (Option.none : Option Jvm.ClassFile.FieldType)).before args0 about1 = true := code_word (m := ⟨0, 0⟩) (meth := k0m0) (c := k0c0) (by decide +kernel) rfl rfl rfl (by decide +kernel)
set_option maxRecDepth 65536 in
theorem w_c3 : (Jvm.Cond.code ({ cls := "java/util/ArrayList", name := "<init>", desc := "()V" } : Jvm.MethodName) jdk_38_method_2_code (1 : Nat) (Option.none : Option Jvm.ClassFile.FieldType)).before args0 about1 = true := code_word (m := ⟨12, 0⟩) (meth := k12m0) (c := k12c0) (by decide +kernel) rfl rfl rfl (by decide +kernel)
set_option maxRecDepth 65536 in
theorem w_c4 : (Jvm.Cond.code ({ cls := "java/util/AbstractList", name := "<init>", desc := "()V" } : Jvm.MethodName) jdk_39_method_1_code (1 : Nat) (Option.none : Option Jvm.ClassFile.FieldType)).before args0 about1 = true := code_word (m := ⟨8, 0⟩) (meth := k8m0) (c := k8c0) (by decide +kernel) rfl rfl rfl (by decide +kernel)
set_option maxRecDepth 65536 in
theorem w_c5 : (Jvm.Cond.code ({ cls := "java/util/AbstractCollection", name := "<init>", desc := "()V" } : Jvm.MethodName) jdk_22_method_1_code (1 : Nat) (Option.none : Option Jvm.ClassFile.FieldType)).before args0 about1 = true := code_word (m := ⟨5, 0⟩) (meth := k5m0) (c := k5c0) (by decide +kernel) rfl rfl rfl (by decide +kernel)
set_option maxRecDepth 65536 in
theorem w_c6 : (Jvm.Cond.code ({ cls := "java/util/Arrays", name := "fill", desc := "([II)V" } : Jvm.MethodName) jdk_65_method_103_code (4 : Nat) (Option.none : Option Jvm.ClassFile.FieldType)).before args0 about1 = true := code_word (m := ⟨13, 1⟩) (meth := k13m1) (c := k13c1) (by decide +kernel) rfl rfl rfl (by decide +kernel)
set_option maxRecDepth 65536 in
theorem w_c7 : (Jvm.Cond.code ({ cls := "java/lang/Integer", name := "valueOf", desc := "(I)Ljava/lang/Integer;" } : Jvm.MethodName) jdk_33_method_22_code (1 : Nat) (Option.some (Jvm.ClassFile.FieldType.object "java/lang/Integer"))).before args0 about1 = true := code_word (m := ⟨18, 0⟩) (meth := k18m0) (c := k18c0) (by decide +kernel) rfl rfl rfl (by decide +kernel)
set_option maxRecDepth 65536 in
theorem w_c8 : (Jvm.Cond.code ({ cls := "java/util/ArrayList", name := "add", desc := "(Ljava/lang/Object;)Z" } : Jvm.MethodName) jdk_38_method_25_code (2 : Nat) (Option.some Jvm.ClassFile.FieldType.boolean)).before args0 about1 = true := code_word (m := ⟨12, 4⟩) (meth := k12m4) (c := k12c4) (by decide +kernel) rfl rfl rfl (by decide +kernel)
set_option maxRecDepth 65536 in
theorem w_c9 : (Jvm.Cond.code ({ cls := "java/util/ArrayList", name := "add", desc := "(Ljava/lang/Object;[Ljava/lang/Object;I)V" } : Jvm.MethodName) jdk_38_method_24_code (4 : Nat) (Option.none : Option Jvm.ClassFile.FieldType)).before args0 about1 = true := code_word (m := ⟨12, 3⟩) (meth := k12m3) (c := k12c3) (by decide +kernel) rfl rfl rfl (by decide +kernel)
set_option maxRecDepth 65536 in
theorem w_c10 : (Jvm.Cond.code ({ cls := "java/util/ArrayList", name := "grow", desc := "()[Ljava/lang/Object;" } : Jvm.MethodName) jdk_38_method_7_code (1 : Nat) (Option.some (Jvm.ClassFile.FieldType.array (Jvm.ClassFile.FieldType.object "java/lang/Object")))).before args0 about1 = true := code_word (m := ⟨12, 2⟩) (meth := k12m2) (c := k12c2) (by decide +kernel) rfl rfl rfl (by decide +kernel)
set_option maxRecDepth 65536 in
theorem w_c11 : (Jvm.Cond.code ({ cls := "java/util/ArrayList", name := "grow", desc := "(I)[Ljava/lang/Object;" } : Jvm.MethodName) jdk_38_method_6_code (4 : Nat) (Option.some (Jvm.ClassFile.FieldType.array (Jvm.ClassFile.FieldType.object "java/lang/Object")))).before args0 about1 = true := code_word (m := ⟨12, 1⟩) (meth := k12m1) (c := k12c1) (by decide +kernel) rfl rfl rfl (by decide +kernel)
set_option maxRecDepth 65536 in
theorem w_c12 : (Jvm.Cond.code ({ cls := "java/lang/Math", name := "max", desc := "(II)I" } : Jvm.MethodName) jdk_29_method_65_code (2 : Nat) (Option.some Jvm.ClassFile.FieldType.int)).before args0 about1 = true := code_word (m := ⟨20, 1⟩) (meth := k20m1) (c := k20c1) (by decide +kernel) rfl rfl rfl (by decide +kernel)
set_option maxRecDepth 65536 in
theorem w_c13 : (Jvm.Cond.code ({ cls := "com/example/kneiphof/kneiphof/Partitioning", name := "<init>", desc := "(I)V" } : Jvm.MethodName) prog_57_method_1_code (2 : Nat) (Option.none : Option Jvm.ClassFile.FieldType)).before args0 about1 = true := code_word (m := ⟨21, 0⟩) (meth := k21m0) (c := k21c0) (by decide +kernel) rfl rfl rfl (by decide +kernel)
set_option maxRecDepth 65536 in
theorem w_c14 : (Jvm.Cond.code ({ cls := "java/util/List", name := "of", desc := "()Ljava/util/List;" } : Jvm.MethodName) jdk_40_method_36_code (0 : Nat) (Option.some (Jvm.ClassFile.FieldType.object "java/util/List"))).before args0 about1 = true := code_word (m := ⟨7, 2⟩) (meth := k7m2) (c := k7c2) (by decide +kernel) rfl rfl rfl (by decide +kernel)
set_option maxRecDepth 65536 in
theorem w_c15 : (Jvm.Cond.code ({ cls := "com/example/kneiphof/kneiphof/Partitioning", name := "<init>", desc := "(ILjava/util/List;)V" } : Jvm.MethodName) prog_57_method_2_code (3 : Nat) (Option.none : Option Jvm.ClassFile.FieldType)).before args0 about1 = true := code_word (m := ⟨21, 1⟩) (meth := k21m1) (c := k21c1) (by decide +kernel) rfl rfl rfl (by decide +kernel)
set_option maxRecDepth 65536 in
theorem w_c16 : (Jvm.Cond.code ({ cls := "com/example/kneiphof/kneiphof/Assignment", name := "runs", desc := "(I)Z" } : Jvm.MethodName) prog_5_method_11_code (2 : Nat) (Option.some Jvm.ClassFile.FieldType.boolean)).before args0 about1 = true := code_word (m := ⟨2, 2⟩) (meth := k2m2) (c := k2c2) (by decide +kernel) rfl rfl rfl (by decide +kernel)
set_option maxRecDepth 65536 in
theorem w_c17 : (Jvm.Cond.code ({ cls := "com/example/kneiphof/kneiphof/Assignment", name := "slot", desc := "(II)I" } : Jvm.MethodName) prog_5_method_6_code (3 : Nat) (Option.some Jvm.ClassFile.FieldType.int)).before args0 about1 = true := code_word (m := ⟨2, 1⟩) (meth := k2m1) (c := k2c1) (by decide +kernel) rfl rfl rfl (by decide +kernel)
set_option maxRecDepth 65536 in
theorem w_c18 : (Jvm.Cond.code ({ cls := "com/example/kneiphof/kneiphof/Assignment", name := "remove", desc := "(I)[I" } : Jvm.MethodName) prog_5_method_18_code (4 : Nat) (Option.some (Jvm.ClassFile.FieldType.array Jvm.ClassFile.FieldType.int))).before args0 about1 = true := code_word (m := ⟨2, 4⟩) (meth := k2m4) (c := k2c4) (by decide +kernel) rfl rfl rfl (by decide +kernel)
set_option maxRecDepth 65536 in
theorem w_c19 : (Jvm.Cond.code ({ cls := "com/example/kneiphof/kneiphof/Assignment", name := "set", desc := "(I)[I" } : Jvm.MethodName) prog_5_method_12_code (2 : Nat) (Option.some (Jvm.ClassFile.FieldType.array Jvm.ClassFile.FieldType.int))).before args0 about1 = true := code_word (m := ⟨2, 3⟩) (meth := k2m3) (c := k2c3) (by decide +kernel) rfl rfl rfl (by decide +kernel)
set_option maxRecDepth 65536 in
theorem w_c20 : (Jvm.Cond.code ({ cls := "java/util/Arrays", name := "copyOfRange", desc := "([III)[I" } : Jvm.MethodName) jdk_65_method_136_code (3 : Nat) (Option.some (Jvm.ClassFile.FieldType.array Jvm.ClassFile.FieldType.int))).before args0 about1 = true := code_word (m := ⟨13, 3⟩) (meth := k13m3) (c := k13c3) (by decide +kernel) rfl rfl rfl (by decide +kernel)
set_option maxRecDepth 65536 in
theorem w_c21 : (Jvm.Cond.code ({ cls := "java/util/Arrays", name := "copyOfRangeInt", desc := "([III)[I" } : Jvm.MethodName) jdk_65_method_137_code (5 : Nat) (Option.some (Jvm.ClassFile.FieldType.array Jvm.ClassFile.FieldType.int))).before args0 about1 = true := code_word (m := ⟨13, 4⟩) (meth := k13m4) (c := k13c4) (by decide +kernel) rfl rfl rfl (by decide +kernel)
set_option maxRecDepth 65536 in
theorem w_c22 : (Jvm.Cond.code ({ cls := "java/util/Arrays", name := "checkLength", desc := "(II)V" } : Jvm.MethodName) jdk_65_method_131_code (2 : Nat) (Option.none : Option Jvm.ClassFile.FieldType)).before args0 about1 = true := code_word (m := ⟨13, 2⟩) (meth := k13m2) (c := k13c2) (by decide +kernel) rfl rfl rfl (by decide +kernel)
set_option maxRecDepth 65536 in
theorem w_c23 : (Jvm.Cond.code ({ cls := "java/lang/Math", name := "min", desc := "(II)I" } : Jvm.MethodName) jdk_29_method_69_code (2 : Nat) (Option.some Jvm.ClassFile.FieldType.int)).before args0 about1 = true := code_word (m := ⟨20, 2⟩) (meth := k20m2) (c := k20c2) (by decide +kernel) rfl rfl rfl (by decide +kernel)
set_option maxRecDepth 65536 in
theorem w_c24 : (Jvm.Cond.code ({ cls := "com/example/kneiphof/kneiphof/Assignment", name := "replace", desc := "(I[I)V" } : Jvm.MethodName) prog_5_method_19_code (4 : Nat) (Option.none : Option Jvm.ClassFile.FieldType)).before args0 about1 = true := code_word (m := ⟨2, 5⟩) (meth := k2m5) (c := k2c5) (by decide +kernel) rfl rfl rfl (by decide +kernel)
set_option maxRecDepth 65536 in
theorem w_c25 : (Jvm.Cond.code ({ cls := "java/util/ArrayList", name := "remove", desc := "(Ljava/lang/Object;)Z" } : Jvm.MethodName) jdk_38_method_38_code (5 : Nat) (Option.some Jvm.ClassFile.FieldType.boolean)).before args0 about1 = true := code_word (m := ⟨12, 5⟩) (meth := k12m5) (c := k12c5) (by decide +kernel) rfl rfl rfl (by decide +kernel)
set_option maxRecDepth 65536 in
theorem w_c26 : (Jvm.Cond.code ({ cls := "java/lang/Integer", name := "equals", desc := "(Ljava/lang/Object;)Z" } : Jvm.MethodName) jdk_33_method_34_code (2 : Nat) (Option.some Jvm.ClassFile.FieldType.boolean)).before args0 about1 = true := code_word (m := ⟨18, 2⟩) (meth := k18m2) (c := k18c2) (by decide +kernel) rfl rfl rfl (by decide +kernel)
set_option maxRecDepth 65536 in
theorem w_c27 : (Jvm.Cond.code ({ cls := "java/lang/Integer", name := "intValue", desc := "()I" } : Jvm.MethodName) jdk_33_method_27_code (1 : Nat) (Option.some Jvm.ClassFile.FieldType.int)).before args0 about1 = true := code_word (m := ⟨18, 1⟩) (meth := k18m1) (c := k18c1) (by decide +kernel) rfl rfl rfl (by decide +kernel)
set_option maxRecDepth 65536 in
theorem w_c28 : (Jvm.Cond.code ({ cls := "java/util/ArrayList", name := "fastRemove", desc := "([Ljava/lang/Object;I)V" } : Jvm.MethodName) jdk_38_method_39_code (4 : Nat) (Option.none : Option Jvm.ClassFile.FieldType)).before args0 about1 = true := code_word (m := ⟨12, 6⟩) (meth := k12m6) (c := k12c6) (by decide +kernel) rfl rfl rfl (by decide +kernel)
def codes1 : List Jvm.Cond := [Jvm.Cond.code x code maxLocals ret, Jvm.Cond.code ({ cls := "com/example/kneiphof/kneiphof/Assignment", name := "<init>", desc := "(III)V" } : Jvm.MethodName) prog_5_method_1_code (5 : Nat) (Option.none : Option Jvm.ClassFile.FieldType), Jvm.Cond.code ({ cls := "java/lang/Object", name := "<init>", desc := "()V" } : Jvm.MethodName) object_method_1_code (1 : Nat) (Option.none : Option Jvm.ClassFile.FieldType), Jvm.Cond.code ({ cls := "java/util/ArrayList", name := "<init>", desc := "()V" } : Jvm.MethodName) jdk_38_method_2_code (1 : Nat) (Option.none : Option Jvm.ClassFile.FieldType), Jvm.Cond.code ({ cls := "java/util/AbstractList", name := "<init>", desc := "()V" } : Jvm.MethodName) jdk_39_method_1_code (1 : Nat) (Option.none : Option Jvm.ClassFile.FieldType), Jvm.Cond.code ({ cls := "java/util/AbstractCollection", name := "<init>", desc := "()V" } : Jvm.MethodName) jdk_22_method_1_code (1 : Nat) (Option.none : Option Jvm.ClassFile.FieldType), Jvm.Cond.code ({ cls := "java/util/Arrays", name := "fill", desc := "([II)V" } : Jvm.MethodName) jdk_65_method_103_code (4 : Nat) (Option.none : Option Jvm.ClassFile.FieldType), Jvm.Cond.code ({ cls := "java/lang/Integer", name := "valueOf", desc := "(I)Ljava/lang/Integer;" } : Jvm.MethodName) jdk_33_method_22_code (1 : Nat) (Option.some (Jvm.ClassFile.FieldType.object "java/lang/Integer")), Jvm.Cond.code ({ cls := "java/util/ArrayList", name := "add", desc := "(Ljava/lang/Object;)Z" } : Jvm.MethodName) jdk_38_method_25_code (2 : Nat) (Option.some Jvm.ClassFile.FieldType.boolean), Jvm.Cond.code ({ cls := "java/util/ArrayList", name := "add", desc := "(Ljava/lang/Object;[Ljava/lang/Object;I)V" } : Jvm.MethodName) jdk_38_method_24_code (4 : Nat) (Option.none : Option Jvm.ClassFile.FieldType), Jvm.Cond.code ({ cls := "java/util/ArrayList", name := "grow", desc := "()[Ljava/lang/Object;" } : Jvm.MethodName) jdk_38_method_7_code (1 : Nat) (Option.some (Jvm.ClassFile.FieldType.array (Jvm.ClassFile.FieldType.object "java/lang/Object"))), Jvm.Cond.code ({ cls := "java/util/ArrayList", name := "grow", desc := "(I)[Ljava/lang/Object;" } : Jvm.MethodName) jdk_38_method_6_code (4 : Nat) (Option.some (Jvm.ClassFile.FieldType.array (Jvm.ClassFile.FieldType.object "java/lang/Object"))), Jvm.Cond.code ({ cls := "java/lang/Math", name := "max", desc := "(II)I" } : Jvm.MethodName) jdk_29_method_65_code (2 : Nat) (Option.some Jvm.ClassFile.FieldType.int), Jvm.Cond.code ({ cls := "com/example/kneiphof/kneiphof/Partitioning", name := "<init>", desc := "(I)V" } : Jvm.MethodName) prog_57_method_1_code (2 : Nat) (Option.none : Option Jvm.ClassFile.FieldType), Jvm.Cond.code ({ cls := "java/util/List", name := "of", desc := "()Ljava/util/List;" } : Jvm.MethodName) jdk_40_method_36_code (0 : Nat) (Option.some (Jvm.ClassFile.FieldType.object "java/util/List")), Jvm.Cond.code ({ cls := "com/example/kneiphof/kneiphof/Partitioning", name := "<init>", desc := "(ILjava/util/List;)V" } : Jvm.MethodName) prog_57_method_2_code (3 : Nat) (Option.none : Option Jvm.ClassFile.FieldType), Jvm.Cond.code ({ cls := "com/example/kneiphof/kneiphof/Assignment", name := "runs", desc := "(I)Z" } : Jvm.MethodName) prog_5_method_11_code (2 : Nat) (Option.some Jvm.ClassFile.FieldType.boolean), Jvm.Cond.code ({ cls := "com/example/kneiphof/kneiphof/Assignment", name := "slot", desc := "(II)I" } : Jvm.MethodName) prog_5_method_6_code (3 : Nat) (Option.some Jvm.ClassFile.FieldType.int), Jvm.Cond.code ({ cls := "com/example/kneiphof/kneiphof/Assignment", name := "remove", desc := "(I)[I" } : Jvm.MethodName) prog_5_method_18_code (4 : Nat) (Option.some (Jvm.ClassFile.FieldType.array Jvm.ClassFile.FieldType.int)), Jvm.Cond.code ({ cls := "com/example/kneiphof/kneiphof/Assignment", name := "set", desc := "(I)[I" } : Jvm.MethodName) prog_5_method_12_code (2 : Nat) (Option.some (Jvm.ClassFile.FieldType.array Jvm.ClassFile.FieldType.int)), Jvm.Cond.code ({ cls := "java/util/Arrays", name := "copyOfRange", desc := "([III)[I" } : Jvm.MethodName) jdk_65_method_136_code (3 : Nat) (Option.some (Jvm.ClassFile.FieldType.array Jvm.ClassFile.FieldType.int)), Jvm.Cond.code ({ cls := "java/util/Arrays", name := "copyOfRangeInt", desc := "([III)[I" } : Jvm.MethodName) jdk_65_method_137_code (5 : Nat) (Option.some (Jvm.ClassFile.FieldType.array Jvm.ClassFile.FieldType.int)), Jvm.Cond.code ({ cls := "java/util/Arrays", name := "checkLength", desc := "(II)V" } : Jvm.MethodName) jdk_65_method_131_code (2 : Nat) (Option.none : Option Jvm.ClassFile.FieldType), Jvm.Cond.code ({ cls := "java/lang/Math", name := "min", desc := "(II)I" } : Jvm.MethodName) jdk_29_method_69_code (2 : Nat) (Option.some Jvm.ClassFile.FieldType.int), Jvm.Cond.code ({ cls := "com/example/kneiphof/kneiphof/Assignment", name := "replace", desc := "(I[I)V" } : Jvm.MethodName) prog_5_method_19_code (4 : Nat) (Option.none : Option Jvm.ClassFile.FieldType), Jvm.Cond.code ({ cls := "java/util/ArrayList", name := "remove", desc := "(Ljava/lang/Object;)Z" } : Jvm.MethodName) jdk_38_method_38_code (5 : Nat) (Option.some Jvm.ClassFile.FieldType.boolean), Jvm.Cond.code ({ cls := "java/lang/Integer", name := "equals", desc := "(Ljava/lang/Object;)Z" } : Jvm.MethodName) jdk_33_method_34_code (2 : Nat) (Option.some Jvm.ClassFile.FieldType.boolean), Jvm.Cond.code ({ cls := "java/lang/Integer", name := "intValue", desc := "()I" } : Jvm.MethodName) jdk_33_method_27_code (1 : Nat) (Option.some Jvm.ClassFile.FieldType.int), Jvm.Cond.code ({ cls := "java/util/ArrayList", name := "fastRemove", desc := "([Ljava/lang/Object;I)V" } : Jvm.MethodName) jdk_38_method_39_code (4 : Nat) (Option.none : Option Jvm.ClassFile.FieldType)]
set_option maxRecDepth 65536 in
theorem codes_eq : words1.filter isCode = codes1 := rfl
theorem w_codes : ∀ c ∈ words1.filter isCode, c.before args0 about1 = true := by
  rw [codes_eq]
  intro c hc
  simp only [codes1, List.mem_cons, List.not_mem_nil, or_false] at hc
  rcases hc with rfl | rfl | rfl | rfl | rfl | rfl | rfl | rfl | rfl | rfl | rfl | rfl | rfl | rfl | rfl | rfl | rfl | rfl | rfl | rfl | rfl | rfl | rfl | rfl | rfl | rfl | rfl | rfl | rfl
  · exact w_c0
  · exact w_c1
  · exact w_c2
  · exact w_c3
  · exact w_c4
  · exact w_c5
  · exact w_c6
  · exact w_c7
  · exact w_c8
  · exact w_c9
  · exact w_c10
  · exact w_c11
  · exact w_c12
  · exact w_c13
  · exact w_c14
  · exact w_c15
  · exact w_c16
  · exact w_c17
  · exact w_c18
  · exact w_c19
  · exact w_c20
  · exact w_c21
  · exact w_c22
  · exact w_c23
  · exact w_c24
  · exact w_c25
  · exact w_c26
  · exact w_c27
  · exact w_c28
set_option maxRecDepth 65536 in
theorem w_t1 : (words1.take 24).all (fun c => isCode c || c.before args0 about1) = true := by decide +kernel
set_option maxRecDepth 65536 in
theorem w_t2 : ((words1.drop 24).take 24).all (fun c => isCode c || c.before args0 about1) = true := by decide +kernel
set_option maxRecDepth 65536 in
theorem w_t3 : (((words1.drop 24).drop 24).take 24).all (fun c => isCode c || c.before args0 about1) = true := by decide +kernel
set_option maxRecDepth 65536 in
theorem w_t4 : ((((words1.drop 24).drop 24).drop 24).take 24).all (fun c => isCode c || c.before args0 about1) = true := by decide +kernel
set_option maxRecDepth 65536 in
theorem w_t5 : (((((words1.drop 24).drop 24).drop 24).drop 24).take 24).all (fun c => isCode c || c.before args0 about1) = true := by decide +kernel
set_option maxRecDepth 65536 in
theorem w_t6 : ((((((words1.drop 24).drop 24).drop 24).drop 24).drop 24).take 24).all (fun c => isCode c || c.before args0 about1) = true := by decide +kernel
set_option maxRecDepth 65536 in
theorem w_t7 : (((((((words1.drop 24).drop 24).drop 24).drop 24).drop 24).drop 24).take 24).all (fun c => isCode c || c.before args0 about1) = true := by decide +kernel
set_option maxRecDepth 65536 in
theorem w_t8 : ((((((((words1.drop 24).drop 24).drop 24).drop 24).drop 24).drop 24).drop 24).take 24).all (fun c => isCode c || c.before args0 about1) = true := by decide +kernel
set_option maxRecDepth 65536 in
theorem w_t9 : ((((((((words1.drop 24).drop 24).drop 24).drop 24).drop 24).drop 24).drop 24).drop 24).all (fun c => isCode c || c.before args0 about1) = true := by decide +kernel
theorem w_tables : (allAtoms (Jvm.Cond.code x code maxLocals ret :: tables_1)).before args0 about1 = true := by
  rw [allAtoms_all]
  show words1.all (fun c => c.before args0 about1) = true
  refine all_split ?_ w_codes
  rw [← List.take_append_drop 24 words1, List.all_append, w_t1, ← List.take_append_drop 24 (words1.drop 24), List.all_append, w_t2, ← List.take_append_drop 24 ((words1.drop 24).drop 24), List.all_append, w_t3, ← List.take_append_drop 24 (((words1.drop 24).drop 24).drop 24), List.all_append, w_t4, ← List.take_append_drop 24 ((((words1.drop 24).drop 24).drop 24).drop 24), List.all_append, w_t5, ← List.take_append_drop 24 (((((words1.drop 24).drop 24).drop 24).drop 24).drop 24), List.all_append, w_t6, ← List.take_append_drop 24 ((((((words1.drop 24).drop 24).drop 24).drop 24).drop 24).drop 24), List.all_append, w_t7, ← List.take_append_drop 24 (((((((words1.drop 24).drop 24).drop 24).drop 24).drop 24).drop 24).drop 24), List.all_append, w_t8, w_t9]
  rfl
set_option maxRecDepth 65536 in
theorem w_rest : rest_1_c.before args0 about1 = true := by decide +kernel
set_option maxRecDepth 65536 in
theorem w_case : (Jvm.Cond.and given_1 narrow_1).before args0 about1 = true := by decide +kernel
theorem w_applies : (headSpec (Jvm.Cond.code x code maxLocals ret :: tables_1) room_1).applies x e0.platform about1 = true :=
  (Spec.applies_iff w_frames).mpr ⟨w_running, w_runnable, w_alone, w_named, w_hears, w_ripe, w_room, w_tables⟩
theorem atStart : AtStart classFile x code maxLocals ret World_1 tables_1 room_1 Calls_1 rest_1 Pre_1 launch0 p0 e0 about1 theMethod args0 below0 :=
  ⟨lists_1, trivial, launch0.admits_env _ _ _, launch0.least_env, fairChoices_fair.cas, fairChoices_fair.clock, w_frames, w_args, w_heap, w_applies, trivial, w_rest, w_case⟩
end start1
theorem witness_1 : WitnessClaimed_1 := ⟨start1.p0, start1.e0, start1.about1, start1.theMethod, start1.args0, start1.below0, start1.atStart⟩
end Jvm.Pilot.@@N@@
