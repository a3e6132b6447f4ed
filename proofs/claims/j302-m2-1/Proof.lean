import JvmDerived
import JvmDerived.Pilot.@@N@@Statement
import JvmDerived.Pilot.@@N@@Code
set_option linter.unusedVariables false
set_option linter.unusedSimpArgs false
set_option maxRecDepth 65536
set_option maxHeartbeats 40000000
namespace Jvm.Pilot.@@N@@
open Jvm Jvm.ClassFile Sem Op Lib Jvm.Free Jvm.Stand Jvm.LawKit Jvm.RoadKit Bundle Jvm.Pilot.@@N@@.Jvm.D
/-! ## Helpers over arrays and classes -/
theorem ow {Z : State} {a0 : Array Value} (hw : ∀ d ∈ tables_1, d.before a0 Z = true) (i : Nat) {d : Jvm.Cond} (h : tables_1[i]? = some d) : d.before a0 Z = true := hw _ (List.mem_of_getElem? h)
section OwnPre
variable {p : Program} {l : Launch} {e : Env} {R : Room} {s : State} {m : MethodId} {args : Array Value} {below : List Frame} {meth : Method} {c : Code} {T : State} {locs : List Loc} {cells slots : Nat} {Z : State} {a0 : Array Value} {h h' : Heap} {ws : List Addr}
theorem own_lenC (X : Stand p l e R s m args below meth c T locs cells slots) (hx : p.tables.exec = Jvm.exec) (hZ : Z.Warmed39 s.vm) (eT : T.heap = h) {a : Addr} {cl : Cell} {ty : FieldType} {z : Int32} (A : Arr Z h a cl ty) (S : cl.slots.size.toInt32 = z) {g : JFrame} (hg : g.method = m) {rest : List Value} (hs : g.stack = .ref a :: rest) (hd : decode c.code g.pc = .ok (.arraylength, 1)) :
    ∀ target, Steps p.tables e below (T.setTop { g with pc := g.pc + 1, stack := .int z :: rest }) target → Steps p.tables e below (T.setTop g) target := by
  intro target k
  refine X.arraylength hx (by rw [eT]; exact A.1) (State.isArrayOf_alike hZ.alike A.2.1) hg hs hd _ ?_
  rw [S]; exact k
theorem own_len (X : Stand p l e R s m args below meth c T locs cells slots) (hx : p.tables.exec = Jvm.exec) (hZ : Z.Warmed39 s.vm) (eT : T.heap = h) {a : Addr} {k : ClassId} {ty : FieldType} {z : Int32} {vs : List Value} {dv : Value} (A : Arv Z h a k ty z vs dv) {g : JFrame} (hg : g.method = m) {rest : List Value} (hs : g.stack = .ref a :: rest) (hd : decode c.code g.pc = .ok (.arraylength, 1)) :
    ∀ target, Steps p.tables e below (T.setTop { g with pc := g.pc + 1, stack := .int z :: rest }) target → Steps p.tables e below (T.setTop g) target := by
  obtain ⟨cl, A1, -, S, hz, -⟩ := A
  exact own_lenC X hx hZ eT A1 (len_of S hz) hg hs hd
theorem own_aald (X : Stand p l e R s m args below meth c T locs cells slots) (hx : p.tables.exec = Jvm.exec) (hZ : Z.Warmed39 s.vm) (eT : T.heap = h) {a : Addr} {k : ClassId} {ty : FieldType} {z j : Int32} {vs : List Value} {dv v : Value} (A : Arv Z h a k ty z vs dv) (hty : ty.isReference = true) (hj : ¬ j < 0 ∧ j < z) (hv : vs.getD j.toNatClampNeg dv = v) {g : JFrame} (hg : g.method = m) {rest : List Value} (hs : g.stack = .int j :: .ref a :: rest) (hd : decode c.code g.pc = .ok (.aaload, 1)) :
    ∀ target, Steps p.tables e below (T.setTop { g with pc := g.pc + 1, stack := v :: rest }) target → Steps p.tables e below (T.setTop g) target := by
  obtain ⟨cl, A1, -, S, hz, H, -⟩ := A
  have hin := inb_of S hj
  exact fun target k => X.aaload hx (by rw [eT]; exact A1.1) (State.isArrayOf_alike hZ.alike A1.2.1) hty A1.2.2 hin (H.at hin hv) hg hs hd _ k
theorem own_dald (X : Stand p l e R s m args below meth c T locs cells slots) (hx : p.tables.exec = Jvm.exec) (hZ : Z.Warmed39 s.vm) (eT : T.heap = h) {a : Addr} {k : ClassId} {z j : Int32} {vs : List Value} {dv v : Value} (A : Arv Z h a k .double z vs dv) (hj : ¬ j < 0 ∧ j < z) (hv : vs.getD j.toNatClampNeg dv = v) {g : JFrame} (hg : g.method = m) {rest : List Value} (hs : g.stack = .int j :: .ref a :: rest) (hd : decode c.code g.pc = .ok (.daload, 1)) :
    ∀ target, Steps p.tables e below (T.setTop { g with pc := g.pc + 1, stack := v :: rest }) target → Steps p.tables e below (T.setTop g) target := by
  obtain ⟨cl, A1, -, S, hz, H, -⟩ := A
  have hin := inb_of S hj
  exact fun target k => X.daload hx (by rw [eT]; exact A1.1) (State.isArrayOf_alike hZ.alike A1.2.1) A1.2.2 hin (H.at hin hv) hg hs hd _ k
def own_Oa (Z : State) (h : Heap) (a : Addr) (n : Int32) (vs : List Value) : Prop := ∃ kk, Arv Z h a kk (.object "java/lang/Object") n vs .null ∧ Ovr Z kk "java/lang/Object" ∧ Exa Z h a "[Ljava/lang/Object;"
theorem own_Oa.ext {a : Addr} {n : Int32} {vs : List Value} (E : Ext h h') (F : own_Oa Z h a n vs) : own_Oa Z h' a n vs := by obtain ⟨k, A, O, X⟩ := F; exact ⟨k, A.ext E, O, X.ext E⟩
theorem own_Oa.keep {a : Addr} {n : Int32} {vs : List Value} (F : own_Oa Z h a n vs) (K : Keep h h' ws) (q : a ∉ ws) : own_Oa Z h' a n vs := by obtain ⟨k, A, O, X⟩ := F; exact ⟨k, A.keep K q, O, X.keep K⟩
theorem own_Oa.other {a b : Addr} {n : Int32} {vs : List Value} {sl : Nat} {v : Value} (W : Wr h h' b sl v) (F : own_Oa Z h a n vs) (q : a ≠ b) : own_Oa Z h' a n vs := by obtain ⟨k, A, O, X⟩ := F; exact ⟨k, A.other W q, O, X.wr W⟩
theorem own_Oa.exa {a : Addr} {n : Int32} {vs : List Value} (F : own_Oa Z h a n vs) : Exa Z h a "[Ljava/lang/Object;" := by obtain ⟨k, A, O, X⟩ := F; exact X
theorem own_Oa.lt {a : Addr} {n : Int32} {vs : List Value} (F : own_Oa Z h a n vs) : a < h.size := F.exa.lt
theorem own_Ins_keep {a : Addr} {C : String} {b : Bool} (F : Ins Z h a C b) (K : Keep h h' ws) : Ins Z h' a C b := by
  obtain ⟨cell, cT, h1, h2, h3⟩ := F
  obtain ⟨c', q, r1, r2, -⟩ := K.2.2 a cell h1
  exact ⟨c', cT, q, h2, by rw [r1, r2]; exact h3⟩
theorem own_aast (X : Stand p l e R s m args below meth c T locs cells slots) (hx : p.tables.exec = Jvm.exec) (hZ : Z.Warmed39 s.vm) (eT : T.heap = h) {a y : Addr} {n j : Int32} {vs : List Value} (A : own_Oa Z h a n vs) (i : Nat) (hj : ¬ j < 0 ∧ j < n) (hi : j.toNatClampNeg = i) (hl : i < vs.length) (I : Ins Z h y "java/lang/Object" true)
    {g : JFrame} (hg : g.method = m) {rest : List Value} (hs : g.stack = .ref y :: .int j :: .ref a :: rest) (hd : decode c.code g.pc = .ok (.aastore, 1)) :
    ∃ T' h', Stand p l e R s m args below meth c T' (locs ++ [⟨a, j.toNatClampNeg⟩]) cells slots ∧ T'.heap = h' ∧ Wr h h' a j.toNatClampNeg (.ref y) ∧ own_Oa Z h' a n (vs.set i (.ref y)) ∧ ∀ target, Steps p.tables e below (T'.setTop { g with pc := g.pc + 1, stack := rest }) target → Steps p.tables e below (T.setTop g) target := by
  obtain ⟨kk, ⟨cl, A1, q1, S, q3, H, G⟩, O, E⟩ := A
  obtain ⟨T', h', X', e', W, st⟩ := stR X hx hZ eT A1 (inb_of S hj) rfl (Sto.ofV A1 q1 O I) hg hs hd
  exact ⟨T', h', X', e', W, ⟨kk, Arv.set A1 q1 S q3 H G rfl W i hi hl, O, E.wr W⟩, st⟩
theorem own_newOa (X : Stand p l e R s m args below meth c T locs cells slots) (hx : p.tables.exec = Jvm.exec) (hZ : Z.Warmed39 s.vm) {own : String} {index : Nat} (hown : s.vm.findClass own = some m.cls) (w1 : (Cond.classLink own index "java/lang/Object").before a0 Z = true) (w2 : (Cond.arrayOver (.object "java/lang/Object")).before a0 Z = true)
    (eT : T.heap = h) {g : JFrame} (hg : g.method = m) (hd : decode c.code g.pc = .ok (.anewarray index, 3)) {n : Int32} {rest : List Value} (hs : g.stack = .int n :: rest) (hn : ¬ n < 0) {cap : Nat} (hcap : n.toNatClampNeg = cap) (hb : cap * 8 ≤ 536870912) (hc : cells + 1 ≤ R.cells) (hl : slots + cap ≤ R.slots) :
    ∃ T' h', Stand p l e R s m args below meth c T' locs (cells + 1) (slots + cap) ∧ T'.heap = h' ∧ Ext h h' ∧ own_Oa Z h' h.size n (List.replicate cap .null) ∧ ∀ target, Steps p.tables e below (T'.setTop { g with pc := g.pc + 3, stack := .ref h.size :: rest }) target → Steps p.tables e below (T.setTop g) target := by
  obtain ⟨T', h', cA, X', e', E, A, Ex, O, st⟩ := newRE X hx hZ hown w1 w2 eT hg hd hs hn (Nat.le_of_eq hcap) hb hc hl (ad := "[Ljava/lang/Object;") rfl
  exact ⟨T', h', X', e', E, ⟨cA, (Arv.new A hn).pad (pad_rep [] .null cap), O, Ex⟩, st⟩
theorem own_mirE {C : String} {mr : Addr} (hZ : Z.Warmed39 s.vm) (M : Mir Z C mr) : (Term.mirror C).eval args s none [] s = some (.ref mr) := by
  obtain ⟨cc, kc, m1, m2, m3, -⟩ := M
  obtain ⟨k', q, ek⟩ := hZ.alike.2.2 _ _ m2
  have f : s.vm.findClass C = some cc := by rw [hZ.alike.findClass]; exact m1
  have g : k'.mirror = some mr := by rw [ek]; exact m3
  simp [Term.eval, f, q, g]
theorem own_NSroot {O K : String} {n : Nat} (w : (Cond.noSuperclass O).before a0 Z = true) (wk : (Cond.instantiable K n).before a0 Z = true) (hn : O ≠ K) : NS Z O K := by
  obtain ⟨c, k, h1, h2, h3, -, -⟩ := Cond.noSuperclass_spec w
  obtain ⟨t, kt, g1, -⟩ := Cond.instantiable_spec wk
  have ne := ids_ne h1 g1 hn
  refine ⟨c, t, h1, g1, fun fuel => ?_⟩
  cases fuel with
  | zero => rfl
  | succ f => simp [Vm.isSubclassAux, ne, h2, h3]
theorem own_NSno {C S K : String} {n : Nat} (w : (Cond.superclass C S).before a0 Z = true) (wk : (Cond.instantiable K n).before a0 Z = true) (ns : NS Z C K) (hn : C ≠ K) : ∃ c t, Z.vm.findClass C = some c ∧ Z.vm.findClass K = some t ∧ Z.vm.assignable c t = false := by
  obtain ⟨c, t, h0, g0, n3⟩ := ns
  obtain ⟨p, k, kp, h1, h2, h3, h4, h5, -, h7⟩ := Cond.superclass_spec h0 w
  obtain ⟨t', k', g1, g2, g5, g6, -⟩ := Cond.instantiable_spec wk
  cases g0.symm.trans g1
  have g7 : k'.isInterface = false := by simp only [Bool.or_eq_false_iff] at g6; exact g6.1
  have ne := ids_ne h0 g0 hn
  refine ⟨c, t, h0, g0, ?_⟩
  show Z.vm.assignableAux (255 + 1) c t = false
  simp [Vm.assignableAux, ne, h2, g2, h5, g5, g7, Vm.isSubclass, n3]
end OwnPre
section OwnDefs
variable {p : Program} {l : Launch} {e : Env} {R : Room} {s : State} {m : MethodId} {args : Array Value} {below : List Frame} {meth : Method} {c : Code} {T : State} {locs : List Loc} {cells slots : Nat} {Z : State} {a0 : Array Value} {h h' : Heap} {ws : List Addr}
theorem own_mvNest {own host : String} {y : MethodName} {index : Nat} (hZ : Z.Warmed39 s.vm) (w : (Cond.methodLinkNest own index y host).before a0 Z = true) : (Cond.methodLinkNest own index y host).before args s = true := (Cond.methodLinkNest_wide hZ w :)
theorem own_aaldC (X : Stand p l e R s m args below meth c T locs cells slots) (hx : p.tables.exec = Jvm.exec) (hZ : Z.Warmed39 s.vm) (eT : T.heap = h) {a : Addr} {cl : Cell} {ty : FieldType} {j : Int32} {v : Value} (A : Arr Z h a cl ty) (hty : ty.isReference = true) (hin : ¬ (j < 0 ∨ cl.slots.size ≤ j.toNatClampNeg)) (hv : cl.slots[j.toNatClampNeg]? = some v) {g : JFrame} (hg : g.method = m) {rest : List Value} (hs : g.stack = .int j :: .ref a :: rest) (hd : decode c.code g.pc = .ok (.aaload, 1)) :
    ∀ target, Steps p.tables e below (T.setTop { g with pc := g.pc + 1, stack := v :: rest }) target → Steps p.tables e below (T.setTop g) target :=
  fun target k => X.aaload hx (by rw [eT]; exact A.1) (State.isArrayOf_alike hZ.alike A.2.1) hty A.2.2 hin hv hg hs hd _ k
/-- what the statics of the JDK hold, and the Class object that is asked for -/
def own_G (Z : State) (D IC EL EE EM MO b0 b1 : Addr) (cD cI cE : Cell) : Prop :=
  (Sta Z Z.heap "java/util/ArrayList" "DEFAULTCAPACITY_EMPTY_ELEMENTDATA" "[Ljava/lang/Object;" (.ref D) ∧ Arr Z Z.heap D cD (.object "java/lang/Object") ∧ cD.slots.size = 0) ∧
  (Sta Z Z.heap "java/lang/Integer$IntegerCache" "high" "I" (.int 127) ∧ Sta Z Z.heap "java/lang/Integer$IntegerCache" "cache" "[Ljava/lang/Integer;" (.ref IC) ∧ Arr Z Z.heap IC cI (.object "java/lang/Integer") ∧ cI.slots.size = 256 ∧ cI.slots[128]? = some (.ref b0) ∧ cI.slots[129]? = some (.ref b1)) ∧
  (Exa Z Z.heap b0 "java/lang/Integer" ∧ Exa Z Z.heap b1 "java/lang/Integer") ∧
  (Sta Z Z.heap "java/util/ImmutableCollections" "EMPTY_LIST" "Ljava/util/ImmutableCollections$ListN;" (.ref EL) ∧ Exa Z Z.heap EL "java/util/ImmutableCollections$ListN" ∧ Fld Z Z.heap EL "java/util/ImmutableCollections$ListN" "elements" "[Ljava/lang/Object;" (.ref EE) ∧ Arr Z Z.heap EE cE (.object "java/lang/Object") ∧ cE.slots.size = 0) ∧
  (Sta Z Z.heap "java/util/ImmutableCollections" "EMPTY" "Ljava/lang/Object;" (.ref EM) ∧ Exa Z Z.heap EM "java/lang/Object") ∧ Mir Z "[Ljava/lang/Object;" MO
def own_Al (Z : State) (h : Heap) (a : Addr) (ev : Value) (k n : Int32) : Prop := Exa Z h a "java/util/ArrayList" ∧ Fld Z h a "java/util/AbstractList" "modCount" "I" (.int k) ∧ Fld Z h a "java/util/ArrayList" "elementData" "[Ljava/lang/Object;" ev ∧ Fld Z h a "java/util/ArrayList" "size" "I" (.int n)
def own_QV (w : Value) (h0 : Heap) (n0 : Nat) (v : Option Value) (h : Heap) (L : List Loc) : Prop := v = some w ∧ Fr n0 L ∧ h = h0
def own_QN (h0 : Heap) (n0 : Nat) (v : Option Value) (h : Heap) (L : List Loc) : Prop := v = none ∧ Fr n0 L ∧ h = h0
def own_QAl (Z : State) (a : Addr) (ev : Value) (k n : Int32) (h0 : Heap) (n0 : Nat) (v : Option Value) (h : Heap) (L : List Loc) : Prop := v = none ∧ Fr n0 L ∧ Keep h0 h [a] ∧ own_Al Z h a ev k n
def own_QGr (Z : State) (a : Addr) (k : Int32) (h0 : Heap) (n0 : Nat) (v : Option Value) (h : Heap) (L : List Loc) : Prop := ∃ x, v = some (.ref x) ∧ Fr n0 L ∧ Keep h0 h [a] ∧ h0.size ≤ x ∧ own_Al Z h a (.ref x) k 0 ∧ own_Oa Z h x 10 (List.replicate 10 .null)
def own_QAdd0 (Z : State) (w : Option Value) (a y : Addr) (k : Int32) (h0 : Heap) (n0 : Nat) (v : Option Value) (h : Heap) (L : List Loc) : Prop := ∃ x, v = w ∧ Fr n0 L ∧ Keep h0 h [a] ∧ h0.size ≤ x ∧ own_Al Z h a (.ref x) k (0 + 1) ∧ own_Oa Z h x 10 ((List.replicate 10 .null).set 0 (.ref y))
def own_QAddI (Z : State) (w : Option Value) (a x y : Addr) (k n : Int32) (vs : List Value) (h0 : Heap) (n0 : Nat) (v : Option Value) (h : Heap) (L : List Loc) : Prop := v = w ∧ Fr n0 L ∧ Keep h0 h [a, x] ∧ own_Al Z h a (.ref x) k n ∧ own_Oa Z h x 10 vs
end OwnDefs
/-! ## The contracts of the JDK's bodies, I (printed by gen302_a.py) -/
section OwnA
theorem own_pn0 : plainName "java/util/AbstractCollection" = true := by first | (simp [plainName, overriddenIn]; done) | decide +kernel
theorem d_22_1_0 : decode jdk_22_method_1_code 0 = .ok (.aload_n 0, 1) := by decide +kernel
theorem d_22_1_1 : decode jdk_22_method_1_code 1 = .ok (.invokespecial 1, 3) := by decide +kernel
theorem d_22_1_4 : decode jdk_22_method_1_code 4 = .ok (.return_, 1) := by decide +kernel
theorem own_ef_aci (m : MethodId) (x0 : Addr) : entryFrame m #[(.ref x0)] 1 = mkF m 0 #[.val (.ref x0)] [] := by first | (simp [entryFrame, mkF, argsToLocals, Value.category]; done) | rfl
theorem own_aci (l : Launch) (Z : State) (a0 : Array Value) (hw : ∀ d ∈ tables_1, d.before a0 Z = true) (ws : List Jvm.Cond) (a : Addr) (h0 : Heap) (n0 : Nat) (Z0 : n0 ≤ h0.size)  :
    MetFree l (⟨"java/util/AbstractCollection", "<init>", "()V"⟩ : MethodName) (head1 (Jvm.Cond.code (⟨"java/util/AbstractCollection", "<init>", "()V"⟩ : MethodName) jdk_22_method_1_code 1 none :: ws) ({ frames := 1, cells := 0, slots := 0, locals := 12 } : Room)) (fun av U => av = #[(.ref a)] ∧ Z.Warmed39 U.vm ∧ U.heap = h0) (fun _ _ _ _ _ => True) (fun _ U oc U' => ∃ v L, oc = .returned v ∧ own_QN h0 n0 v U'.heap L ∧ FrameEnd U oc U' L ({ frames := 1, cells := 0, slots := 0, locals := 12 } : Room).cells ({ frames := 1, cells := 0, slots := 0, locals := 12 } : Room).slots) := by
  refine MetFree.of_bodySF (plainFor_of_name own_pn0) hisR ?_
  intro p e s m args below meth c s₁ Bd hml0 hP hK
  obtain ⟨rfl, hZ, hh⟩ := hP
  have hx := Bd.exec
  have hby := Bd.bytes
  have hml : c.maxLocals = 1 := hml0
  have hown : s.vm.findClass "java/util/AbstractCollection" = some m.cls := findClass_of_methodNamed Bd.named
  have hnm := (name_of_methodNamed Bd.named Bd.method).1
  have X0 : Stand p l e ({ frames := 1, cells := 0, slots := 0, locals := 12 } : Room) s m #[(.ref a)] below meth c s₁ [] 0 0 := Stand.of_body Bd
  have e0 : s₁.heap = h0 := by rw [← hh, Bd.state]; rfl
  have N0 := Fr.nil n0
  have pre0 : ∀ tt, Steps p.tables e below (s₁.setTop (mkF m 0 #[.val (.ref a)] [])) tt → Steps p.tables e below (s₁.setTop (entryFrame m #[(.ref a)] 1)) tt := fun tt k' => castTop (own_ef_aci m a) k'
  obtain ⟨T1, X1, e1, st1⟩ := initO X0 hx hZ hown (ow hw 18 rfl) (ow hw 19 rfl) (ow hw 20 rfl) e0 (g := (mkF m 1 #[.val (.ref a)] [(.ref a)])) rfl (by rw [hml]; rfl) rfl (hb hby d_22_1_1) (by decide) (W := 0) (by show 2 * 0 + _ ≤ _; exact Nat.le_of_eq rfl) (by decide)
  obtain ⟨fs, hr, hrun, hended, hW, hsame⟩ := X1.leave (v := none) (fun _ => rfl)
  refine ⟨_, _, pre0 _ ?_, hrun, hended, _, _, rfl, ?_, ⟨_, rfl⟩, hW, hsame.mono (by decide) (by decide)⟩
  · show Steps _ _ _ (s₁.setTop (mkF m 0 #[.val (.ref a)] [])) _
    refine XS.aloadN X0.here hx rfl (hb hby d_22_1_0) rfl rfl ?_
    show Steps _ _ _ (s₁.setTop (mkF m 1 #[.val (.ref a)] [(.ref a)])) _
    refine st1 _ ?_
    show Steps _ _ _ (T1.setTop (mkF m 4 #[.val (.ref a)] [])) _
    exact X1.returnOut hx Bd.returns (hb hby d_22_1_4) hr
  · show own_QN h0 n0 _ T1.heap _
    rw [e1]
    exact ⟨rfl, N0, rfl⟩
theorem own_pd0 : parseMethodDescriptor "()V" = some ⟨[], none⟩ := by decide +kernel
theorem own_pn1 : plainName "java/util/AbstractList" = true := by first | (simp [plainName, overriddenIn]; done) | decide +kernel
theorem d_39_1_0 : decode jdk_39_method_1_code 0 = .ok (.aload_n 0, 1) := by decide +kernel
theorem d_39_1_1 : decode jdk_39_method_1_code 1 = .ok (.invokespecial 1, 3) := by decide +kernel
theorem d_39_1_4 : decode jdk_39_method_1_code 4 = .ok (.aload_n 0, 1) := by decide +kernel
theorem d_39_1_5 : decode jdk_39_method_1_code 5 = .ok (.iconst 0, 1) := by decide +kernel
theorem d_39_1_6 : decode jdk_39_method_1_code 6 = .ok (.putfield 7, 3) := by decide +kernel
theorem d_39_1_9 : decode jdk_39_method_1_code 9 = .ok (.return_, 1) := by decide +kernel
theorem own_ef_ali (m : MethodId) (x0 : Addr) : entryFrame m #[(.ref x0)] 1 = mkF m 0 #[.val (.ref x0)] [] := by first | (simp [entryFrame, mkF, argsToLocals, Value.category]; done) | rfl
theorem own_ali (l : Launch) (Z : State) (a0 : Array Value) (hw : ∀ d ∈ tables_1, d.before a0 Z = true) (ws : List Jvm.Cond) (a : Addr) (ev : Value) (k n : Int32) (h0 : Heap) (n0 : Nat) (Z0 : n0 ≤ h0.size) (A : own_Al Z h0 a ev k n) (ga : n0 ≤ a) :
    MetFree l (⟨"java/util/AbstractList", "<init>", "()V"⟩ : MethodName) (head1 (Jvm.Cond.code (⟨"java/util/AbstractList", "<init>", "()V"⟩ : MethodName) jdk_39_method_1_code 1 none :: ws) ({ frames := 2, cells := 0, slots := 0, locals := 24 } : Room)) (fun av U => av = #[(.ref a)] ∧ Z.Warmed39 U.vm ∧ U.heap = h0) (fun _ _ _ _ _ => True) (fun _ U oc U' => ∃ v L, oc = .returned v ∧ own_QAl Z a ev 0 n h0 n0 v U'.heap L ∧ FrameEnd U oc U' L ({ frames := 2, cells := 0, slots := 0, locals := 24 } : Room).cells ({ frames := 2, cells := 0, slots := 0, locals := 24 } : Room).slots) := by
  refine MetFree.of_bodySF (plainFor_of_name own_pn1) hisR ?_
  intro p e s m args below meth c s₁ Bd hml0 hP hK
  obtain ⟨rfl, hZ, hh⟩ := hP
  have hx := Bd.exec
  have hby := Bd.bytes
  have hml : c.maxLocals = 1 := hml0
  have hown : s.vm.findClass "java/util/AbstractList" = some m.cls := findClass_of_methodNamed Bd.named
  have hnm := (name_of_methodNamed Bd.named Bd.method).1
  have X0 : Stand p l e ({ frames := 2, cells := 0, slots := 0, locals := 24 } : Room) s m #[(.ref a)] below meth c s₁ [] 0 0 := Stand.of_body Bd
  have e0 : s₁.heap = h0 := by rw [← hh, Bd.state]; rfl
  have N0 := Fr.nil n0
  have pre0 : ∀ tt, Steps p.tables e below (s₁.setTop (mkF m 0 #[.val (.ref a)] [])) tt → Steps p.tables e below (s₁.setTop (entryFrame m #[(.ref a)] 1)) tt := fun tt k' => castTop (own_ef_ali m a) k'
  obtain ⟨_, _, ⟨T1, L1, k1, n1⟩, -, X1, ⟨Lc1, hQ1, l1, y1, z1⟩, st1⟩ := X0.specialBack hx (y := (⟨"java/util/AbstractCollection", "<init>", "()V"⟩ : MethodName)) rfl hown (mvT hZ (ow hw 12 rfl)) (mvT hZ (ow hw 13 rfl)) (mvT hZ (ow hw 17 rfl)) (by decide) (backOf (W := 0) (own_aci l Z a0 hw [] a h0 n0 Z0) hZ (ow hw 17 rfl) (ow hw 16 rfl) (by decide) (by decide)) (g := (mkF m 1 #[.val (.ref a)] [(.ref a)])) rfl (by rw [hml]; rfl) (Steps.refl _) (a := a) (argsL := []) (rest := []) (lenOf own_pd0 rfl) rfl (by show 2 * 0 + _ ≤ _; exact Nat.le_of_eq rfl) (hb hby d_39_1_1) (fun _ _ => ⟨rfl, e0, (by decide : 0 + 0 ≤ _), (by decide : 0 + 0 ≤ _)⟩)
  dsimp only [Pt.U, Pt.locs, Pt.cells, Pt.slots] at X1 l1 y1 z1 st1 hQ1
  subst l1 y1 z1
  obtain ⟨rfl, N1, e1⟩ := hQ1
  have N2_ := Fr.app N0 N1
  obtain ⟨T3, h3, X3, e3, W3, st3⟩ := putF X1 hx hZ hown (host := "") (Or.inl (ow hw 21 rfl)) Via.refl e1 A.2.1 A.1 (Or.inl (ow hw 22 rfl)) (ow hw 1 rfl) (ty := .int) (by decide) rfl rfl (g := (mkF m 6 #[.val (.ref a)] [(.int 0), (.ref a)])) rfl rfl (hb hby d_39_1_6)
  have N3 := Fr.snoc X3 N2_ ga
  have K4_ := (Keep.refl h0 [a]).wr W3 (Or.inl (List.mem_of_getElem? (i := 0) rfl))
  have F3 := A.2.1.same W3
  have f5_ := (A.1.wr W3)
  have f6_ := (A.2.2.1.other W3 (Or.inr (slot_ne (Or.inl (ow hw 25 rfl)) (Or.inl (ow hw 22 rfl)) (by decide) (t := (.array (.object "java/lang/Object"))) (by decide) (t' := .int) (by decide))))
  have f7_ := (A.2.2.2.other W3 (Or.inr (slot_ne (Or.inl (ow hw 45 rfl)) (Or.inl (ow hw 22 rfl)) (by decide) (t := .int) (by decide) (t' := .int) (by decide))))
  obtain ⟨fs, hr, hrun, hended, hW, hsame⟩ := X3.leave (v := none) (fun _ => rfl)
  refine ⟨_, _, pre0 _ ?_, hrun, hended, _, _, rfl, ?_, ⟨_, rfl⟩, hW, hsame.mono (by decide) (by decide)⟩
  · show Steps _ _ _ (s₁.setTop (mkF m 0 #[.val (.ref a)] [])) _
    refine XS.aloadN X0.here hx rfl (hb hby d_39_1_0) rfl rfl ?_
    show Steps _ _ _ (s₁.setTop (mkF m 1 #[.val (.ref a)] [(.ref a)])) _
    refine st1.trans ?_
    refine XS.aloadN X1.here hx rfl (hb hby d_39_1_4) rfl rfl ?_
    refine XT.iconstV X1.here hx rfl 0 (hb hby d_39_1_5) rfl ?_
    show Steps _ _ _ (T1.setTop (mkF m 6 #[.val (.ref a)] [(.int 0), (.ref a)])) _
    refine st3 _ ?_
    show Steps _ _ _ (T3.setTop (mkF m 9 #[.val (.ref a)] [])) _
    exact X3.returnOut hx Bd.returns (hb hby d_39_1_9) hr
  · show own_QAl Z a ev 0 n h0 n0 _ T3.heap _
    rw [e3]
    exact ⟨rfl, N3, K4_, ⟨f5_, F3, f6_, f7_⟩⟩
theorem own_pn2 : plainName "java/util/ArrayList" = true := by first | (simp [plainName, overriddenIn]; done) | decide +kernel
theorem d_38_2_0 : decode jdk_38_method_2_code 0 = .ok (.aload_n 0, 1) := by decide +kernel
theorem d_38_2_1 : decode jdk_38_method_2_code 1 = .ok (.invokespecial 1, 3) := by decide +kernel
theorem d_38_2_4 : decode jdk_38_method_2_code 4 = .ok (.aload_n 0, 1) := by decide +kernel
theorem d_38_2_5 : decode jdk_38_method_2_code 5 = .ok (.getstatic 39, 3) := by decide +kernel
theorem d_38_2_8 : decode jdk_38_method_2_code 8 = .ok (.putfield 9, 3) := by decide +kernel
theorem d_38_2_11 : decode jdk_38_method_2_code 11 = .ok (.return_, 1) := by decide +kernel
theorem own_ef_alI (m : MethodId) (x0 : Addr) : entryFrame m #[(.ref x0)] 1 = mkF m 0 #[.val (.ref x0)] [] := by first | (simp [entryFrame, mkF, argsToLocals, Value.category]; done) | rfl
theorem own_alI (l : Launch) (Z : State) (a0 : Array Value) (hw : ∀ d ∈ tables_1, d.before a0 Z = true) (ws : List Jvm.Cond) {D IC EL EE EM MO b0 b1 : Addr} {cD cI cE : Cell} (G : own_G Z D IC EL EE EM MO b0 b1 cD cI cE) (a : Addr) (ev : Value) (k n : Int32) (h0 : Heap) (n0 : Nat) (Z0 : n0 ≤ h0.size) (A : own_Al Z h0 a ev k n) (ga : n0 ≤ a) (O : Old Z n0 h0) :
    MetFree l (⟨"java/util/ArrayList", "<init>", "()V"⟩ : MethodName) (head1 (Jvm.Cond.code (⟨"java/util/ArrayList", "<init>", "()V"⟩ : MethodName) jdk_38_method_2_code 1 none :: ws) ({ frames := 3, cells := 0, slots := 0, locals := 36 } : Room)) (fun av U => av = #[(.ref a)] ∧ Z.Warmed39 U.vm ∧ U.heap = h0) (fun _ _ _ _ _ => True) (fun _ U oc U' => ∃ v L, oc = .returned v ∧ own_QAl Z a (.ref D) 0 n h0 n0 v U'.heap L ∧ FrameEnd U oc U' L ({ frames := 3, cells := 0, slots := 0, locals := 36 } : Room).cells ({ frames := 3, cells := 0, slots := 0, locals := 36 } : Room).slots) := by
  refine MetFree.of_bodySF (plainFor_of_name own_pn2) hisR ?_
  intro p e s m args below meth c s₁ Bd hml0 hP hK
  obtain ⟨rfl, hZ, hh⟩ := hP
  have hx := Bd.exec
  have hby := Bd.bytes
  have hml : c.maxLocals = 1 := hml0
  have hown : s.vm.findClass "java/util/ArrayList" = some m.cls := findClass_of_methodNamed Bd.named
  have hnm := (name_of_methodNamed Bd.named Bd.method).1
  have X0 : Stand p l e ({ frames := 3, cells := 0, slots := 0, locals := 36 } : Room) s m #[(.ref a)] below meth c s₁ [] 0 0 := Stand.of_body Bd
  have e0 : s₁.heap = h0 := by rw [← hh, Bd.state]; rfl
  have N0 := Fr.nil n0
  have pre0 : ∀ tt, Steps p.tables e below (s₁.setTop (mkF m 0 #[.val (.ref a)] [])) tt → Steps p.tables e below (s₁.setTop (entryFrame m #[(.ref a)] 1)) tt := fun tt k' => castTop (own_ef_alI m a) k'
  obtain ⟨_, _, ⟨T1, L1, k1, n1⟩, -, X1, ⟨Lc1, hQ1, l1, y1, z1⟩, st1⟩ := X0.specialBack hx (y := (⟨"java/util/AbstractList", "<init>", "()V"⟩ : MethodName)) rfl hown (mvT hZ (ow hw 6 rfl)) (mvT hZ (ow hw 7 rfl)) (mvT hZ (ow hw 11 rfl)) (by decide) (backOf (W := 0) (own_ali l Z a0 hw [] a ev k n h0 n0 Z0 A ga) hZ (ow hw 11 rfl) (ow hw 10 rfl) (by decide) (by decide)) (g := (mkF m 1 #[.val (.ref a)] [(.ref a)])) rfl (by rw [hml]; rfl) (Steps.refl _) (a := a) (argsL := []) (rest := []) (lenOf own_pd0 rfl) rfl (by show 2 * 0 + _ ≤ _; exact Nat.le_of_eq rfl) (hb hby d_38_2_1) (fun _ _ => ⟨rfl, e0, (by decide : 0 + 0 ≤ _), (by decide : 0 + 0 ≤ _)⟩)
  dsimp only [Pt.U, Pt.locs, Pt.cells, Pt.slots] at X1 l1 y1 z1 st1 hQ1
  subst l1 y1 z1
  obtain ⟨h1, e1⟩ : ∃ z, T1.heap = z := ⟨_, rfl⟩
  rw [e1] at hQ1
  obtain ⟨rfl, N1, K1, A1⟩ := hQ1
  have N2_ := Fr.app N0 N1
  have K3_ := (Keep.refl h0 [a]).trans K1 (allS (Or.inl (List.mem_of_getElem? (i := 0) rfl)) all0)
  have f4_ := (O.keep K1 (allS ga all0))
  obtain ⟨T5, X5, e5, st5⟩ := getS2 X1 hx hZ hown (host := "") (Or.inl (ow hw 23 rfl)) Via.refl e1 (G.1.1.ext f4_.2) (g := (mkF m 5 #[.val (.ref a)] [(.ref a)])) rfl (hb hby d_38_2_5)
  obtain ⟨T6, h6, X6, e6, W6, st6⟩ := putF X5 hx hZ hown (host := "") (Or.inl (ow hw 24 rfl)) Via.refl e5 A1.2.2.1 A1.1 (Or.inl (ow hw 25 rfl)) (ow hw 1 rfl) (ty := (.array (.object "java/lang/Object"))) (by decide) rfl rfl (g := (mkF m 8 #[.val (.ref a)] [(.ref D), (.ref a)])) rfl rfl (hb hby d_38_2_8)
  have N6 := Fr.snoc X6 N2_ ga
  have K7_ := K3_.wr W6 (Or.inl (List.mem_of_getElem? (i := 0) rfl))
  have F6 := A1.2.2.1.same W6
  have f8_ := (A1.1.wr W6)
  have f9_ := (A1.2.1.other W6 (Or.inr (slot_ne (Or.inl (ow hw 22 rfl)) (Or.inl (ow hw 25 rfl)) (by decide) (t := .int) (by decide) (t' := (.array (.object "java/lang/Object"))) (by decide))))
  have f10_ := (A1.2.2.2.other W6 (Or.inr (slot_ne (Or.inl (ow hw 45 rfl)) (Or.inl (ow hw 25 rfl)) (by decide) (t := .int) (by decide) (t' := (.array (.object "java/lang/Object"))) (by decide))))
  obtain ⟨fs, hr, hrun, hended, hW, hsame⟩ := X6.leave (v := none) (fun _ => rfl)
  refine ⟨_, _, pre0 _ ?_, hrun, hended, _, _, rfl, ?_, ⟨_, rfl⟩, hW, hsame.mono (by decide) (by decide)⟩
  · show Steps _ _ _ (s₁.setTop (mkF m 0 #[.val (.ref a)] [])) _
    refine XS.aloadN X0.here hx rfl (hb hby d_38_2_0) rfl rfl ?_
    show Steps _ _ _ (s₁.setTop (mkF m 1 #[.val (.ref a)] [(.ref a)])) _
    refine st1.trans ?_
    refine XS.aloadN X1.here hx rfl (hb hby d_38_2_4) rfl rfl ?_
    show Steps _ _ _ (T1.setTop (mkF m 5 #[.val (.ref a)] [(.ref a)])) _
    refine st5 _ ?_
    show Steps _ _ _ (T5.setTop (mkF m 8 #[.val (.ref a)] [(.ref D), (.ref a)])) _
    refine st6 _ ?_
    show Steps _ _ _ (T6.setTop (mkF m 11 #[.val (.ref a)] [])) _
    exact X6.returnOut hx Bd.returns (hb hby d_38_2_11) hr
  · show own_QAl Z a (.ref D) 0 n h0 n0 _ T6.heap _
    rw [e6]
    exact ⟨rfl, N6, K7_, ⟨f8_, f9_, F6, f10_⟩⟩
theorem own_pn3 : plainName "java/lang/Integer" = true := by first | (simp [plainName, overriddenIn]; done) | decide +kernel
theorem d_33_22_0 : decode jdk_33_method_22_code 0 = .ok (.iload_n 0, 1) := by decide +kernel
theorem d_33_22_1 : decode jdk_33_method_22_code 1 = .ok (.bipush (-128), 2) := by decide +kernel
theorem d_33_22_3 : decode jdk_33_method_22_code 3 = .ok (.if_icmp .lt 20, 3) := by decide +kernel
theorem d_33_22_6 : decode jdk_33_method_22_code 6 = .ok (.iload_n 0, 1) := by decide +kernel
theorem d_33_22_7 : decode jdk_33_method_22_code 7 = .ok (.getstatic 191, 3) := by decide +kernel
theorem d_33_22_10 : decode jdk_33_method_22_code 10 = .ok (.if_icmp .gt 13, 3) := by decide +kernel
theorem d_33_22_13 : decode jdk_33_method_22_code 13 = .ok (.getstatic 195, 3) := by decide +kernel
theorem d_33_22_16 : decode jdk_33_method_22_code 16 = .ok (.iload_n 0, 1) := by decide +kernel
theorem d_33_22_17 : decode jdk_33_method_22_code 17 = .ok (.sipush 128, 3) := by decide +kernel
theorem d_33_22_20 : decode jdk_33_method_22_code 20 = .ok (.iadd, 1) := by decide +kernel
theorem d_33_22_21 : decode jdk_33_method_22_code 21 = .ok (.aaload, 1) := by decide +kernel
theorem d_33_22_22 : decode jdk_33_method_22_code 22 = .ok (.areturn, 1) := by decide +kernel
theorem own_ef_vof0 (m : MethodId) (x0 : Int32) : entryFrame m #[(.int x0)] 1 = mkF m 0 #[.val (.int x0)] [] := by first | (simp [entryFrame, mkF, argsToLocals, Value.category]; done) | rfl
theorem own_vof0 (l : Launch) (Z : State) (a0 : Array Value) (hw : ∀ d ∈ tables_1, d.before a0 Z = true) (ws : List Jvm.Cond) {D IC EL EE EM MO b0 b1 : Addr} {cD cI cE : Cell} (G : own_G Z D IC EL EE EM MO b0 b1 cD cI cE)  (h0 : Heap) (n0 : Nat) (Z0 : n0 ≤ h0.size)  (O : Old Z n0 h0) :
    MetFree l (⟨"java/lang/Integer", "valueOf", "(I)Ljava/lang/Integer;"⟩ : MethodName) (head1 (Jvm.Cond.code (⟨"java/lang/Integer", "valueOf", "(I)Ljava/lang/Integer;"⟩ : MethodName) jdk_33_method_22_code 1 (some (.object "java/lang/Integer")) :: ws) ({ frames := 0, cells := 0, slots := 0, locals := 0 } : Room)) (fun av U => av = #[(.int 0)] ∧ Z.Warmed39 U.vm ∧ U.heap = h0) (fun _ _ _ _ _ => True) (fun _ U oc U' => ∃ v L, oc = .returned v ∧ own_QV (.ref b0) h0 n0 v U'.heap L ∧ FrameEnd U oc U' L ({ frames := 0, cells := 0, slots := 0, locals := 0 } : Room).cells ({ frames := 0, cells := 0, slots := 0, locals := 0 } : Room).slots) := by
  refine MetFree.of_bodySF (plainFor_of_name own_pn3) hisR ?_
  intro p e s m args below meth c s₁ Bd hml0 hP hK
  obtain ⟨rfl, hZ, hh⟩ := hP
  have hx := Bd.exec
  have hby := Bd.bytes
  have hml : c.maxLocals = 1 := hml0
  have hown : s.vm.findClass "java/lang/Integer" = some m.cls := findClass_of_methodNamed Bd.named
  have hnm := (name_of_methodNamed Bd.named Bd.method).1
  have X0 : Stand p l e ({ frames := 0, cells := 0, slots := 0, locals := 0 } : Room) s m #[(.int 0)] below meth c s₁ [] 0 0 := Stand.of_body Bd
  have e0 : s₁.heap = h0 := by rw [← hh, Bd.state]; rfl
  have N0 := Fr.nil n0
  have pre0 : ∀ tt, Steps p.tables e below (s₁.setTop (mkF m 0 #[.val (.int 0)] [])) tt → Steps p.tables e below (s₁.setTop (entryFrame m #[(.int 0)] 1)) tt := fun tt k' => castTop (own_ef_vof0 m 0) k'
  obtain ⟨T1, X1, e1, st1⟩ := getS2 X0 hx hZ hown (host := "") (Or.inl (ow hw 30 rfl)) Via.refl e0 (G.2.1.1.ext O.2) (g := (mkF m 7 #[.val (.int 0)] [(.int 0)])) rfl (hb hby d_33_22_7)
  obtain ⟨T2, X2, e2, st2⟩ := getS2 X1 hx hZ hown (host := "") (Or.inl (ow hw 32 rfl)) Via.refl e1 (G.2.1.2.1.ext O.2) (g := (mkF m 13 #[.val (.int 0)] [])) rfl (hb hby d_33_22_13)
  obtain ⟨fs, hr, hrun, hended, hW, hsame⟩ := X2.leave (v := some (.ref b0)) (fun h => by rw [Bd.returns] at h; cases h)
  refine ⟨_, _, pre0 _ ?_, hrun, hended, _, _, rfl, ?_, ⟨_, rfl⟩, hW, hsame.mono (by decide) (by decide)⟩
  · show Steps _ _ _ (s₁.setTop (mkF m 0 #[.val (.int 0)] [])) _
    refine XS.iloadN X0.here hx rfl (hb hby d_33_22_0) rfl ?_
    refine XT.bipushV X0.here hx rfl (-128) (hb hby d_33_22_1) (by decide) ?_
    show Steps _ _ _ (s₁.setTop (mkF m 3 #[.val (.int 0)] [(.int (-128)), (.int 0)])) _
    refine XS.icmpNo X0.here hx rfl (hb hby d_33_22_3) rfl (by decide) ?_
    refine XS.iloadN X0.here hx rfl (hb hby d_33_22_6) rfl ?_
    show Steps _ _ _ (s₁.setTop (mkF m 7 #[.val (.int 0)] [(.int 0)])) _
    refine st1 _ ?_
    show Steps _ _ _ (T1.setTop (mkF m 10 #[.val (.int 0)] [(.int 127), (.int 0)])) _
    refine XS.icmpNo X1.here hx rfl (hb hby d_33_22_10) rfl (by decide) ?_
    show Steps _ _ _ (T1.setTop (mkF m 13 #[.val (.int 0)] [])) _
    refine st2 _ ?_
    refine XS.iloadN X2.here hx rfl (hb hby d_33_22_16) rfl ?_
    refine XT.sipushV X2.here hx rfl 128 (hb hby d_33_22_17) (by decide) ?_
    show Steps _ _ _ (T2.setTop (mkF m 20 #[.val (.int 0)] [(.int 128), (.int 0), (.ref IC)])) _
    refine XS.iadd X2.here hx rfl (hb hby d_33_22_20) rfl ?_
    show Steps _ _ _ (T2.setTop (mkF m 21 #[.val (.int 0)] [(.int (0 + 128)), (.ref IC)])) _
    refine own_aaldC X2 hx hZ e2 (G.2.1.2.2.1.ext O.2) rfl (by rw [G.2.1.2.2.2.1]; decide) (by rw [show ((0 : Int32) + 128).toNatClampNeg = 128 by decide]; exact G.2.1.2.2.2.2.1) (g := (mkF m 21 #[.val (.int 0)] [(.int (0 + 128)), (.ref IC)])) rfl rfl (hb hby d_33_22_21) _ ?_
    show Steps _ _ _ (T2.setTop (mkF m 22 #[.val (.int 0)] [(.ref b0)])) _
    exact retOut X2 hx Bd.returns rfl (Or.inr (Or.inr (Or.inr (Or.inr ⟨rfl, rfl, rfl⟩)))) (hb hby d_33_22_22) hr
  · show own_QV (.ref b0) h0 n0 _ T2.heap _
    rw [e2]
    exact ⟨rfl, N0, rfl⟩
theorem own_ef_vof1 (m : MethodId) (x0 : Int32) : entryFrame m #[(.int x0)] 1 = mkF m 0 #[.val (.int x0)] [] := by first | (simp [entryFrame, mkF, argsToLocals, Value.category]; done) | rfl
theorem own_vof1 (l : Launch) (Z : State) (a0 : Array Value) (hw : ∀ d ∈ tables_1, d.before a0 Z = true) (ws : List Jvm.Cond) {D IC EL EE EM MO b0 b1 : Addr} {cD cI cE : Cell} (G : own_G Z D IC EL EE EM MO b0 b1 cD cI cE)  (h0 : Heap) (n0 : Nat) (Z0 : n0 ≤ h0.size)  (O : Old Z n0 h0) :
    MetFree l (⟨"java/lang/Integer", "valueOf", "(I)Ljava/lang/Integer;"⟩ : MethodName) (head1 (Jvm.Cond.code (⟨"java/lang/Integer", "valueOf", "(I)Ljava/lang/Integer;"⟩ : MethodName) jdk_33_method_22_code 1 (some (.object "java/lang/Integer")) :: ws) ({ frames := 0, cells := 0, slots := 0, locals := 0 } : Room)) (fun av U => av = #[(.int 1)] ∧ Z.Warmed39 U.vm ∧ U.heap = h0) (fun _ _ _ _ _ => True) (fun _ U oc U' => ∃ v L, oc = .returned v ∧ own_QV (.ref b1) h0 n0 v U'.heap L ∧ FrameEnd U oc U' L ({ frames := 0, cells := 0, slots := 0, locals := 0 } : Room).cells ({ frames := 0, cells := 0, slots := 0, locals := 0 } : Room).slots) := by
  refine MetFree.of_bodySF (plainFor_of_name own_pn3) hisR ?_
  intro p e s m args below meth c s₁ Bd hml0 hP hK
  obtain ⟨rfl, hZ, hh⟩ := hP
  have hx := Bd.exec
  have hby := Bd.bytes
  have hml : c.maxLocals = 1 := hml0
  have hown : s.vm.findClass "java/lang/Integer" = some m.cls := findClass_of_methodNamed Bd.named
  have hnm := (name_of_methodNamed Bd.named Bd.method).1
  have X0 : Stand p l e ({ frames := 0, cells := 0, slots := 0, locals := 0 } : Room) s m #[(.int 1)] below meth c s₁ [] 0 0 := Stand.of_body Bd
  have e0 : s₁.heap = h0 := by rw [← hh, Bd.state]; rfl
  have N0 := Fr.nil n0
  have pre0 : ∀ tt, Steps p.tables e below (s₁.setTop (mkF m 0 #[.val (.int 1)] [])) tt → Steps p.tables e below (s₁.setTop (entryFrame m #[(.int 1)] 1)) tt := fun tt k' => castTop (own_ef_vof1 m 1) k'
  obtain ⟨T1, X1, e1, st1⟩ := getS2 X0 hx hZ hown (host := "") (Or.inl (ow hw 30 rfl)) Via.refl e0 (G.2.1.1.ext O.2) (g := (mkF m 7 #[.val (.int 1)] [(.int 1)])) rfl (hb hby d_33_22_7)
  obtain ⟨T2, X2, e2, st2⟩ := getS2 X1 hx hZ hown (host := "") (Or.inl (ow hw 32 rfl)) Via.refl e1 (G.2.1.2.1.ext O.2) (g := (mkF m 13 #[.val (.int 1)] [])) rfl (hb hby d_33_22_13)
  obtain ⟨fs, hr, hrun, hended, hW, hsame⟩ := X2.leave (v := some (.ref b1)) (fun h => by rw [Bd.returns] at h; cases h)
  refine ⟨_, _, pre0 _ ?_, hrun, hended, _, _, rfl, ?_, ⟨_, rfl⟩, hW, hsame.mono (by decide) (by decide)⟩
  · show Steps _ _ _ (s₁.setTop (mkF m 0 #[.val (.int 1)] [])) _
    refine XS.iloadN X0.here hx rfl (hb hby d_33_22_0) rfl ?_
    refine XT.bipushV X0.here hx rfl (-128) (hb hby d_33_22_1) (by decide) ?_
    show Steps _ _ _ (s₁.setTop (mkF m 3 #[.val (.int 1)] [(.int (-128)), (.int 1)])) _
    refine XS.icmpNo X0.here hx rfl (hb hby d_33_22_3) rfl (by decide) ?_
    refine XS.iloadN X0.here hx rfl (hb hby d_33_22_6) rfl ?_
    show Steps _ _ _ (s₁.setTop (mkF m 7 #[.val (.int 1)] [(.int 1)])) _
    refine st1 _ ?_
    show Steps _ _ _ (T1.setTop (mkF m 10 #[.val (.int 1)] [(.int 127), (.int 1)])) _
    refine XS.icmpNo X1.here hx rfl (hb hby d_33_22_10) rfl (by decide) ?_
    show Steps _ _ _ (T1.setTop (mkF m 13 #[.val (.int 1)] [])) _
    refine st2 _ ?_
    refine XS.iloadN X2.here hx rfl (hb hby d_33_22_16) rfl ?_
    refine XT.sipushV X2.here hx rfl 128 (hb hby d_33_22_17) (by decide) ?_
    show Steps _ _ _ (T2.setTop (mkF m 20 #[.val (.int 1)] [(.int 128), (.int 1), (.ref IC)])) _
    refine XS.iadd X2.here hx rfl (hb hby d_33_22_20) rfl ?_
    show Steps _ _ _ (T2.setTop (mkF m 21 #[.val (.int 1)] [(.int (1 + 128)), (.ref IC)])) _
    refine own_aaldC X2 hx hZ e2 (G.2.1.2.2.1.ext O.2) rfl (by rw [G.2.1.2.2.2.1]; decide) (by rw [show ((1 : Int32) + 128).toNatClampNeg = 129 by decide]; exact G.2.1.2.2.2.2.2) (g := (mkF m 21 #[.val (.int 1)] [(.int (1 + 128)), (.ref IC)])) rfl rfl (hb hby d_33_22_21) _ ?_
    show Steps _ _ _ (T2.setTop (mkF m 22 #[.val (.int 1)] [(.ref b1)])) _
    exact retOut X2 hx Bd.returns rfl (Or.inr (Or.inr (Or.inr (Or.inr ⟨rfl, rfl, rfl⟩)))) (hb hby d_33_22_22) hr
  · show own_QV (.ref b1) h0 n0 _ T2.heap _
    rw [e2]
    exact ⟨rfl, N0, rfl⟩
theorem d_29_65_0 : decode jdk_29_method_65_code 0 = .ok (.iload_n 0, 1) := by decide +kernel
theorem d_29_65_1 : decode jdk_29_method_65_code 1 = .ok (.iload_n 1, 1) := by decide +kernel
theorem d_29_65_2 : decode jdk_29_method_65_code 2 = .ok (.if_icmp .lt 7, 3) := by decide +kernel
theorem d_29_65_5 : decode jdk_29_method_65_code 5 = .ok (.iload_n 0, 1) := by decide +kernel
theorem d_29_65_6 : decode jdk_29_method_65_code 6 = .ok (.goto 4, 3) := by decide +kernel
theorem d_29_65_10 : decode jdk_29_method_65_code 10 = .ok (.ireturn, 1) := by decide +kernel
theorem own_ef_max (m : MethodId) (x0 : Int32) (x1 : Int32) : entryFrame m #[(.int x0), (.int x1)] 2 = mkF m 0 #[.val (.int x0), .val (.int x1)] [] := by first | (simp [entryFrame, mkF, argsToLocals, Value.category]; done) | rfl
theorem own_max (l : Launch) (Z : State) (a0 : Array Value) (hw : ∀ d ∈ tables_1, d.before a0 Z = true) (ws : List Jvm.Cond) (x y : Int32) (hxy : ¬ x < y) (h0 : Heap) (n0 : Nat) (Z0 : n0 ≤ h0.size)  :
    MetFree l (⟨"java/lang/Math", "max", "(II)I"⟩ : MethodName) (head1 (Jvm.Cond.code (⟨"java/lang/Math", "max", "(II)I"⟩ : MethodName) jdk_29_method_65_code 2 (some .int) :: ws) ({ frames := 0, cells := 0, slots := 0, locals := 0 } : Room)) (fun av U => av = #[(.int x), (.int y)] ∧ Z.Warmed39 U.vm ∧ U.heap = h0) (fun _ _ _ _ _ => True) (fun _ U oc U' => ∃ v L, oc = .returned v ∧ own_QV (.int x) h0 n0 v U'.heap L ∧ FrameEnd U oc U' L ({ frames := 0, cells := 0, slots := 0, locals := 0 } : Room).cells ({ frames := 0, cells := 0, slots := 0, locals := 0 } : Room).slots) := by
  refine MetFree.of_bodySF (Jvm.Free.JP.mathPlain rfl (by decide +kernel)) hisR ?_
  intro p e s m args below meth c s₁ Bd hml0 hP hK
  obtain ⟨rfl, hZ, hh⟩ := hP
  have hx := Bd.exec
  have hby := Bd.bytes
  have hml : c.maxLocals = 2 := hml0
  have hown : s.vm.findClass "java/lang/Math" = some m.cls := findClass_of_methodNamed Bd.named
  have hnm := (name_of_methodNamed Bd.named Bd.method).1
  have X0 : Stand p l e ({ frames := 0, cells := 0, slots := 0, locals := 0 } : Room) s m #[(.int x), (.int y)] below meth c s₁ [] 0 0 := Stand.of_body Bd
  have e0 : s₁.heap = h0 := by rw [← hh, Bd.state]; rfl
  have N0 := Fr.nil n0
  have pre0 : ∀ tt, Steps p.tables e below (s₁.setTop (mkF m 0 #[.val (.int x), .val (.int y)] [])) tt → Steps p.tables e below (s₁.setTop (entryFrame m #[(.int x), (.int y)] 2)) tt := fun tt k' => castTop (own_ef_max m x y) k'
  obtain ⟨fs, hr, hrun, hended, hW, hsame⟩ := X0.leave (v := some (.int x)) (fun h => by rw [Bd.returns] at h; cases h)
  refine ⟨_, _, pre0 _ ?_, hrun, hended, _, _, rfl, ?_, ⟨_, rfl⟩, hW, hsame.mono (by decide) (by decide)⟩
  · show Steps _ _ _ (s₁.setTop (mkF m 0 #[.val (.int x), .val (.int y)] [])) _
    refine XS.iloadN X0.here hx rfl (hb hby d_29_65_0) rfl ?_
    refine XS.iloadN X0.here hx rfl (hb hby d_29_65_1) rfl ?_
    show Steps _ _ _ (s₁.setTop (mkF m 2 #[.val (.int x), .val (.int y)] [(.int y), (.int x)])) _
    refine XS.icmpNo X0.here hx rfl (hb hby d_29_65_2) rfl (XT.ii_lt_f hxy) ?_
    refine XS.iloadN X0.here hx rfl (hb hby d_29_65_5) rfl ?_
    show Steps _ _ _ (s₁.setTop (mkF m 6 #[.val (.int x), .val (.int y)] [(.int x)])) _
    refine XS.goto X0.here hx rfl rfl (hb hby d_29_65_6) (show (0 : Int) ≤ ((6 : Nat) : Int) + (4) by decide) (show (((6 : Nat) : Int) + (4)).toNat = 10 by decide) ?_
    show Steps _ _ _ (s₁.setTop (mkF m 10 #[.val (.int x), .val (.int y)] [(.int x)])) _
    exact retOut X0 hx Bd.returns rfl (Or.inl ⟨rfl, Or.inl rfl, _, rfl⟩) (hb hby d_29_65_10) hr
  · show own_QV (.int x) h0 n0 _ s₁.heap _
    rw [e0]
    exact ⟨rfl, N0, rfl⟩
theorem d_29_69_0 : decode jdk_29_method_69_code 0 = .ok (.iload_n 0, 1) := by decide +kernel
theorem d_29_69_1 : decode jdk_29_method_69_code 1 = .ok (.iload_n 1, 1) := by decide +kernel
theorem d_29_69_2 : decode jdk_29_method_69_code 2 = .ok (.if_icmp .gt 7, 3) := by decide +kernel
theorem d_29_69_9 : decode jdk_29_method_69_code 9 = .ok (.iload_n 1, 1) := by decide +kernel
theorem d_29_69_10 : decode jdk_29_method_69_code 10 = .ok (.ireturn, 1) := by decide +kernel
theorem own_ef_min (m : MethodId) (x0 : Int32) (x1 : Int32) : entryFrame m #[(.int x0), (.int x1)] 2 = mkF m 0 #[.val (.int x0), .val (.int x1)] [] := by first | (simp [entryFrame, mkF, argsToLocals, Value.category]; done) | rfl
theorem own_min (l : Launch) (Z : State) (a0 : Array Value) (hw : ∀ d ∈ tables_1, d.before a0 Z = true) (ws : List Jvm.Cond) (x y : Int32) (hxy : y < x) (h0 : Heap) (n0 : Nat) (Z0 : n0 ≤ h0.size)  :
    MetFree l (⟨"java/lang/Math", "min", "(II)I"⟩ : MethodName) (head1 (Jvm.Cond.code (⟨"java/lang/Math", "min", "(II)I"⟩ : MethodName) jdk_29_method_69_code 2 (some .int) :: ws) ({ frames := 0, cells := 0, slots := 0, locals := 0 } : Room)) (fun av U => av = #[(.int x), (.int y)] ∧ Z.Warmed39 U.vm ∧ U.heap = h0) (fun _ _ _ _ _ => True) (fun _ U oc U' => ∃ v L, oc = .returned v ∧ own_QV (.int y) h0 n0 v U'.heap L ∧ FrameEnd U oc U' L ({ frames := 0, cells := 0, slots := 0, locals := 0 } : Room).cells ({ frames := 0, cells := 0, slots := 0, locals := 0 } : Room).slots) := by
  refine MetFree.of_bodySF (Jvm.Free.JP.mathPlain rfl (by decide +kernel)) hisR ?_
  intro p e s m args below meth c s₁ Bd hml0 hP hK
  obtain ⟨rfl, hZ, hh⟩ := hP
  have hx := Bd.exec
  have hby := Bd.bytes
  have hml : c.maxLocals = 2 := hml0
  have hown : s.vm.findClass "java/lang/Math" = some m.cls := findClass_of_methodNamed Bd.named
  have hnm := (name_of_methodNamed Bd.named Bd.method).1
  have X0 : Stand p l e ({ frames := 0, cells := 0, slots := 0, locals := 0 } : Room) s m #[(.int x), (.int y)] below meth c s₁ [] 0 0 := Stand.of_body Bd
  have e0 : s₁.heap = h0 := by rw [← hh, Bd.state]; rfl
  have N0 := Fr.nil n0
  have pre0 : ∀ tt, Steps p.tables e below (s₁.setTop (mkF m 0 #[.val (.int x), .val (.int y)] [])) tt → Steps p.tables e below (s₁.setTop (entryFrame m #[(.int x), (.int y)] 2)) tt := fun tt k' => castTop (own_ef_min m x y) k'
  obtain ⟨fs, hr, hrun, hended, hW, hsame⟩ := X0.leave (v := some (.int y)) (fun h => by rw [Bd.returns] at h; cases h)
  refine ⟨_, _, pre0 _ ?_, hrun, hended, _, _, rfl, ?_, ⟨_, rfl⟩, hW, hsame.mono (by decide) (by decide)⟩
  · show Steps _ _ _ (s₁.setTop (mkF m 0 #[.val (.int x), .val (.int y)] [])) _
    refine XS.iloadN X0.here hx rfl (hb hby d_29_69_0) rfl ?_
    refine XS.iloadN X0.here hx rfl (hb hby d_29_69_1) rfl ?_
    show Steps _ _ _ (s₁.setTop (mkF m 2 #[.val (.int x), .val (.int y)] [(.int y), (.int x)])) _
    refine XS.icmpYes X0.here hx rfl rfl (hb hby d_29_69_2) rfl (XT.ii_gt_t hxy) (show (0 : Int) ≤ ((2 : Nat) : Int) + (7) by decide) (show (((2 : Nat) : Int) + (7)).toNat = 9 by decide) ?_
    refine XS.iloadN X0.here hx rfl (hb hby d_29_69_9) rfl ?_
    show Steps _ _ _ (s₁.setTop (mkF m 10 #[.val (.int x), .val (.int y)] [(.int y)])) _
    exact retOut X0 hx Bd.returns rfl (Or.inl ⟨rfl, Or.inl rfl, _, rfl⟩) (hb hby d_29_69_10) hr
  · show own_QV (.int y) h0 n0 _ s₁.heap _
    rw [e0]
    exact ⟨rfl, N0, rfl⟩
theorem own_pd1 : parseMethodDescriptor "(II)I" = some ⟨[.int, .int], some .int⟩ := by decide +kernel
theorem d_38_6_0 : decode jdk_38_method_6_code 0 = .ok (.aload_n 0, 1) := by decide +kernel
theorem d_38_6_1 : decode jdk_38_method_6_code 1 = .ok (.getfield 9, 3) := by decide +kernel
theorem d_38_6_4 : decode jdk_38_method_6_code 4 = .ok (.arraylength, 1) := by decide +kernel
theorem d_38_6_5 : decode jdk_38_method_6_code 5 = .ok (.istore_n 2, 1) := by decide +kernel
theorem d_38_6_6 : decode jdk_38_method_6_code 6 = .ok (.iload_n 2, 1) := by decide +kernel
theorem d_38_6_7 : decode jdk_38_method_6_code 7 = .ok (.ifCond .gt 13, 3) := by decide +kernel
theorem d_38_6_10 : decode jdk_38_method_6_code 10 = .ok (.aload_n 0, 1) := by decide +kernel
theorem d_38_6_11 : decode jdk_38_method_6_code 11 = .ok (.getfield 9, 3) := by decide +kernel
theorem d_38_6_14 : decode jdk_38_method_6_code 14 = .ok (.getstatic 39, 3) := by decide +kernel
theorem d_38_6_17 : decode jdk_38_method_6_code 17 = .ok (.if_acmp .eq 28, 3) := by decide +kernel
theorem d_38_6_45 : decode jdk_38_method_6_code 45 = .ok (.aload_n 0, 1) := by decide +kernel
theorem d_38_6_46 : decode jdk_38_method_6_code 46 = .ok (.bipush 10, 2) := by decide +kernel
theorem d_38_6_48 : decode jdk_38_method_6_code 48 = .ok (.iload_n 1, 1) := by decide +kernel
theorem d_38_6_49 : decode jdk_38_method_6_code 49 = .ok (.invokestatic 79, 3) := by decide +kernel
theorem d_38_6_52 : decode jdk_38_method_6_code 52 = .ok (.anewarray 7, 3) := by decide +kernel
theorem d_38_6_55 : decode jdk_38_method_6_code 55 = .ok (.dup_x1, 1) := by decide +kernel
theorem d_38_6_56 : decode jdk_38_method_6_code 56 = .ok (.putfield 9, 3) := by decide +kernel
theorem d_38_6_59 : decode jdk_38_method_6_code 59 = .ok (.areturn, 1) := by decide +kernel
theorem own_ef_growI (m : MethodId) (x0 : Addr) (x1 : Int32) : entryFrame m #[(.ref x0), (.int x1)] 4 = mkF m 0 #[.val (.ref x0), .val (.int x1), .unset, .unset] [] := by first | (simp [entryFrame, mkF, argsToLocals, Value.category]; done) | rfl
theorem own_growI (l : Launch) (Z : State) (a0 : Array Value) (hw : ∀ d ∈ tables_1, d.before a0 Z = true) (ws : List Jvm.Cond) {D IC EL EE EM MO b0 b1 : Addr} {cD cI cE : Cell} (G : own_G Z D IC EL EE EM MO b0 b1 cD cI cE) (a : Addr) (z k : Int32) (hz : ¬ (10 : Int32) < z) (h0 : Heap) (n0 : Nat) (Z0 : n0 ≤ h0.size) (A : own_Al Z h0 a (.ref D) k 0) (ga : n0 ≤ a) (O : Old Z n0 h0) :
    MetFree l (⟨"java/util/ArrayList", "grow", "(I)[Ljava/lang/Object;"⟩ : MethodName) (head1 (Jvm.Cond.code (⟨"java/util/ArrayList", "grow", "(I)[Ljava/lang/Object;"⟩ : MethodName) jdk_38_method_6_code 4 (some (.array (.object "java/lang/Object"))) :: ws) ({ frames := 1, cells := 1, slots := 10, locals := 14 } : Room)) (fun av U => av = #[(.ref a), (.int z)] ∧ Z.Warmed39 U.vm ∧ U.heap = h0) (fun _ _ _ _ _ => True) (fun _ U oc U' => ∃ v L, oc = .returned v ∧ own_QGr Z a k h0 n0 v U'.heap L ∧ FrameEnd U oc U' L ({ frames := 1, cells := 1, slots := 10, locals := 14 } : Room).cells ({ frames := 1, cells := 1, slots := 10, locals := 14 } : Room).slots) := by
  refine MetFree.of_bodySF (plainFor_of_name own_pn2) hisR ?_
  intro p e s m args below meth c s₁ Bd hml0 hP hK
  obtain ⟨rfl, hZ, hh⟩ := hP
  have hx := Bd.exec
  have hby := Bd.bytes
  have hml : c.maxLocals = 4 := hml0
  have hown : s.vm.findClass "java/util/ArrayList" = some m.cls := findClass_of_methodNamed Bd.named
  have hnm := (name_of_methodNamed Bd.named Bd.method).1
  have X0 : Stand p l e ({ frames := 1, cells := 1, slots := 10, locals := 14 } : Room) s m #[(.ref a), (.int z)] below meth c s₁ [] 0 0 := Stand.of_body Bd
  have e0 : s₁.heap = h0 := by rw [← hh, Bd.state]; rfl
  have N0 := Fr.nil n0
  have pre0 : ∀ tt, Steps p.tables e below (s₁.setTop (mkF m 0 #[.val (.ref a), .val (.int z), .unset, .unset] [])) tt → Steps p.tables e below (s₁.setTop (entryFrame m #[(.ref a), (.int z)] 4)) tt := fun tt k' => castTop (own_ef_growI m a z) k'
  obtain ⟨T1, X1, e1, st1⟩ := getF X0 hx hZ hown (host := "") (Or.inl (ow hw 24 rfl)) Via.refl e0 A.2.2.1 (g := (mkF m 1 #[.val (.ref a), .val (.int z), .unset, .unset] [(.ref a)])) rfl rfl (hb hby d_38_6_1)
  obtain ⟨T2, X2, e2, st2⟩ := getF X1 hx hZ hown (host := "") (Or.inl (ow hw 24 rfl)) Via.refl e1 A.2.2.1 (g := (mkF m 11 #[.val (.ref a), .val (.int z), .val (.int 0), .unset] [(.ref a)])) rfl rfl (hb hby d_38_6_11)
  obtain ⟨T3, X3, e3, st3⟩ := getS2 X2 hx hZ hown (host := "") (Or.inl (ow hw 23 rfl)) Via.refl e2 (G.1.1.ext O.2) (g := (mkF m 14 #[.val (.ref a), .val (.int z), .val (.int 0), .unset] [(.ref D)])) rfl (hb hby d_38_6_14)
  obtain ⟨_, _, ⟨T4, L4, k4, n4⟩, -, X4, ⟨Lc4, hQ4, l4, y4, z4⟩, st4⟩ := Jvm.LawKit.callS X3 hx (y := (⟨"java/lang/Math", "max", "(II)I"⟩ : MethodName)) hown (mvT hZ (ow hw 61 rfl)) (mvT hZ (ow hw 62 rfl)) (mvT hZ (ow hw 63 rfl)) (mvT hZ (ow hw 64 rfl)) (by decide) (backOf (W := 1) (own_max l Z a0 hw [] 10 z hz h0 n0 Z0) hZ (ow hw 64 rfl) (ow hw 63 rfl) (by decide) (by decide)) (g := (mkF m 49 #[.val (.ref a), .val (.int z), .val (.int 0), .unset] [(.int z), (.int 10), (.ref a)])) rfl (by rw [hml]; rfl) (argsL := [(.int 10), (.int z)]) (rest := [(.ref a)]) (lenOf own_pd1 rfl) rfl (by show 2 * 0 + _ ≤ _; exact Nat.le_of_eq rfl) (hb hby d_38_6_49) (fun _ _ => ⟨rfl, e3, (by decide : 0 + 0 ≤ _), (by decide : 0 + 0 ≤ _)⟩)
  dsimp only [Pt.U, Pt.locs, Pt.cells, Pt.slots] at X4 l4 y4 z4 st4 hQ4
  subst l4 y4 z4
  obtain ⟨rfl, N4, e4⟩ := hQ4
  have N5_ := Fr.app N0 N4
  have lta := A.1.lt
  obtain ⟨T6, h6, X6, e6, E6, A6, st6⟩ := own_newOa X4 hx hZ hown (ow hw 65 rfl) (ow hw 66 rfl) e4 (g := (mkF m 52 #[.val (.ref a), .val (.int z), .val (.int 0), .unset] [(.int 10), (.ref a)])) rfl (hb hby d_38_6_52) rfl (by decide) (cap := 10) rfl (by decide) (by decide) (by decide)
  obtain ⟨x, go_x⟩ : ∃ z, z = h0.size := ⟨_, rfl⟩
  rw [← go_x] at A6 st6
  have gh_x := (Nat.le_of_eq go_x.symm : h0.size ≤ x)
  have ge_x := Nat.le_trans Z0 gh_x
  have K7_ := (Keep.refl h0 [a]).ext E6
  have ne8_ := (Nat.ne_of_lt (Nat.lt_of_lt_of_le lta (Nat.le_of_eq go_x.symm)) : a ≠ x)
  have f10_ := (A.2.2.1.ext E6)
  have f11_ := (A.1.ext E6)
  obtain ⟨T9, h9, X9, e9, W9, st9⟩ := putF X6 hx hZ hown (host := "") (Or.inl (ow hw 24 rfl)) Via.refl e6 f10_ f11_ (Or.inl (ow hw 25 rfl)) (ow hw 1 rfl) (ty := (.array (.object "java/lang/Object"))) (by decide) rfl rfl (g := (mkF m 56 #[.val (.ref a), .val (.int z), .val (.int 0), .unset] [(.ref x), (.ref a), (.ref x)])) rfl rfl (hb hby d_38_6_56)
  have N9 := Fr.snoc X9 N5_ ga
  have K12_ := K7_.wr W9 (Or.inl (List.mem_of_getElem? (i := 0) rfl))
  have F9 := f10_.same W9
  have f13_ := (f11_.wr W9)
  have f14_ := ((A.2.1.ext E6).other W9 (Or.inr (slot_ne (Or.inl (ow hw 22 rfl)) (Or.inl (ow hw 25 rfl)) (by decide) (t := .int) (by decide) (t' := (.array (.object "java/lang/Object"))) (by decide))))
  have f15_ := ((A.2.2.2.ext E6).other W9 (Or.inr (slot_ne (Or.inl (ow hw 45 rfl)) (Or.inl (ow hw 25 rfl)) (by decide) (t := .int) (by decide) (t' := (.array (.object "java/lang/Object"))) (by decide))))
  have f16_ := (A6.other W9 (Ne.symm ne8_))
  obtain ⟨fs, hr, hrun, hended, hW, hsame⟩ := X9.leave (v := some (.ref x)) (fun h => by rw [Bd.returns] at h; cases h)
  refine ⟨_, _, pre0 _ ?_, hrun, hended, _, _, rfl, ?_, ⟨_, rfl⟩, hW, hsame.mono (by decide) (by decide)⟩
  · show Steps _ _ _ (s₁.setTop (mkF m 0 #[.val (.ref a), .val (.int z), .unset, .unset] [])) _
    refine XS.aloadN X0.here hx rfl (hb hby d_38_6_0) rfl rfl ?_
    show Steps _ _ _ (s₁.setTop (mkF m 1 #[.val (.ref a), .val (.int z), .unset, .unset] [(.ref a)])) _
    refine st1 _ ?_
    show Steps _ _ _ (T1.setTop (mkF m 4 #[.val (.ref a), .val (.int z), .unset, .unset] [(.ref D)])) _
    refine own_lenC (z := 0) X1 hx hZ e1 (G.1.2.1.ext O.2) (by rw [G.1.2.2] <;> rfl) (g := (mkF m 4 #[.val (.ref a), .val (.int z), .unset, .unset] [(.ref D)])) rfl rfl (hb hby d_38_6_4) _ ?_
    show Steps _ _ _ (T1.setTop (mkF m 5 #[.val (.ref a), .val (.int z), .unset, .unset] [(.int 0)])) _
    refine XS.istoreN X1.here hx rfl (hb hby d_38_6_5) rfl rfl ?_
    refine XS.iloadN X1.here hx rfl (hb hby d_38_6_6) rfl ?_
    show Steps _ _ _ (T1.setTop (mkF m 7 #[.val (.ref a), .val (.int z), .val (.int 0), .unset] [(.int 0)])) _
    refine XS.ifNo X1.here hx rfl (hb hby d_38_6_7) rfl (by decide) ?_
    refine XS.aloadN X1.here hx rfl (hb hby d_38_6_10) rfl rfl ?_
    show Steps _ _ _ (T1.setTop (mkF m 11 #[.val (.ref a), .val (.int z), .val (.int 0), .unset] [(.ref a)])) _
    refine st2 _ ?_
    show Steps _ _ _ (T2.setTop (mkF m 14 #[.val (.ref a), .val (.int z), .val (.int 0), .unset] [(.ref D)])) _
    refine st3 _ ?_
    show Steps _ _ _ (T3.setTop (mkF m 17 #[.val (.ref a), .val (.int z), .val (.int 0), .unset] [(.ref D), (.ref D)])) _
    refine Jvm.RoadKit.acmp (g := (mkF m 17 #[.val (.ref a), .val (.int z), .val (.int 0), .unset] [(.ref D), (.ref D)])) X3 hx rfl rfl rfl (pc0 := 17) (pc' := 45) (same := true) rfl (hb hby d_38_6_17) rfl (decide_eq_true rfl) (by decide) (by decide) ?_
    refine XS.aloadN X3.here hx rfl (hb hby d_38_6_45) rfl rfl ?_
    refine XT.bipushV X3.here hx rfl 10 (hb hby d_38_6_46) (by decide) ?_
    refine XS.iloadN X3.here hx rfl (hb hby d_38_6_48) rfl ?_
    show Steps _ _ _ (T3.setTop (mkF m 49 #[.val (.ref a), .val (.int z), .val (.int 0), .unset] [(.int z), (.int 10), (.ref a)])) _
    refine st4 _ ?_
    show Steps _ _ _ (T4.setTop (mkF m 52 #[.val (.ref a), .val (.int z), .val (.int 0), .unset] [(.int 10), (.ref a)])) _
    refine st6 _ ?_
    show Steps _ _ _ (T6.setTop (mkF m 55 #[.val (.ref a), .val (.int z), .val (.int 0), .unset] [(.ref x), (.ref a)])) _
    refine XT.dupX1 X6.here hx rfl (hb hby d_38_6_55) rfl rfl rfl ?_
    show Steps _ _ _ (T6.setTop (mkF m 56 #[.val (.ref a), .val (.int z), .val (.int 0), .unset] [(.ref x), (.ref a), (.ref x)])) _
    refine st9 _ ?_
    show Steps _ _ _ (T9.setTop (mkF m 59 #[.val (.ref a), .val (.int z), .val (.int 0), .unset] [(.ref x)])) _
    exact retOut X9 hx Bd.returns rfl (Or.inr (Or.inr (Or.inr (Or.inr ⟨rfl, rfl, rfl⟩)))) (hb hby d_38_6_59) hr
  · show own_QGr Z a k h0 n0 _ T9.heap _
    rw [e9]
    exact ⟨x, rfl, N9, K12_, gh_x, ⟨f13_, f14_, F9, f15_⟩, f16_⟩
theorem own_pd2 : parseMethodDescriptor "(I)[Ljava/lang/Object;" = some ⟨[.int], some (.array (.object "java/lang/Object"))⟩ := by decide +kernel
theorem d_38_7_0 : decode jdk_38_method_7_code 0 = .ok (.aload_n 0, 1) := by decide +kernel
theorem d_38_7_1 : decode jdk_38_method_7_code 1 = .ok (.aload_n 0, 1) := by decide +kernel
theorem d_38_7_2 : decode jdk_38_method_7_code 2 = .ok (.getfield 48, 3) := by decide +kernel
theorem d_38_7_5 : decode jdk_38_method_7_code 5 = .ok (.iconst 1, 1) := by decide +kernel
theorem d_38_7_6 : decode jdk_38_method_7_code 6 = .ok (.iadd, 1) := by decide +kernel
theorem d_38_7_7 : decode jdk_38_method_7_code 7 = .ok (.invokevirtual 69, 3) := by decide +kernel
theorem d_38_7_10 : decode jdk_38_method_7_code 10 = .ok (.areturn, 1) := by decide +kernel
theorem own_ef_grow0 (m : MethodId) (x0 : Addr) : entryFrame m #[(.ref x0)] 1 = mkF m 0 #[.val (.ref x0)] [] := by first | (simp [entryFrame, mkF, argsToLocals, Value.category]; done) | rfl
theorem own_grow0 (l : Launch) (Z : State) (a0 : Array Value) (hw : ∀ d ∈ tables_1, d.before a0 Z = true) (ws : List Jvm.Cond) {D IC EL EE EM MO b0 b1 : Addr} {cD cI cE : Cell} (G : own_G Z D IC EL EE EM MO b0 b1 cD cI cE) (a : Addr) (k : Int32) (h0 : Heap) (n0 : Nat) (Z0 : n0 ≤ h0.size) (A : own_Al Z h0 a (.ref D) k 0) (ga : n0 ≤ a) (O : Old Z n0 h0) :
    MetFree l (⟨"java/util/ArrayList", "grow", "()[Ljava/lang/Object;"⟩ : MethodName) (head1 (Jvm.Cond.code (⟨"java/util/ArrayList", "grow", "()[Ljava/lang/Object;"⟩ : MethodName) jdk_38_method_7_code 1 (some (.array (.object "java/lang/Object"))) :: ws) ({ frames := 2, cells := 1, slots := 10, locals := 29 } : Room)) (fun av U => av = #[(.ref a)] ∧ Z.Warmed39 U.vm ∧ U.heap = h0) (fun _ _ _ _ _ => True) (fun _ U oc U' => ∃ v L, oc = .returned v ∧ own_QGr Z a k h0 n0 v U'.heap L ∧ FrameEnd U oc U' L ({ frames := 2, cells := 1, slots := 10, locals := 29 } : Room).cells ({ frames := 2, cells := 1, slots := 10, locals := 29 } : Room).slots) := by
  refine MetFree.of_bodySF (plainFor_of_name own_pn2) hisR ?_
  intro p e s m args below meth c s₁ Bd hml0 hP hK
  obtain ⟨rfl, hZ, hh⟩ := hP
  have hx := Bd.exec
  have hby := Bd.bytes
  have hml : c.maxLocals = 1 := hml0
  have hown : s.vm.findClass "java/util/ArrayList" = some m.cls := findClass_of_methodNamed Bd.named
  have hnm := (name_of_methodNamed Bd.named Bd.method).1
  have X0 : Stand p l e ({ frames := 2, cells := 1, slots := 10, locals := 29 } : Room) s m #[(.ref a)] below meth c s₁ [] 0 0 := Stand.of_body Bd
  have e0 : s₁.heap = h0 := by rw [← hh, Bd.state]; rfl
  have N0 := Fr.nil n0
  have pre0 : ∀ tt, Steps p.tables e below (s₁.setTop (mkF m 0 #[.val (.ref a)] [])) tt → Steps p.tables e below (s₁.setTop (entryFrame m #[(.ref a)] 1)) tt := fun tt k' => castTop (own_ef_grow0 m a) k'
  obtain ⟨T1, X1, e1, st1⟩ := getF X0 hx hZ hown (host := "") (Or.inl (ow hw 44 rfl)) Via.refl e0 A.2.2.2 (g := (mkF m 2 #[.val (.ref a)] [(.ref a), (.ref a)])) rfl rfl (hb hby d_38_7_2)
  obtain ⟨cl2, q2, q2'⟩ := (A.1).cell
  obtain ⟨_, _, ⟨T2, L2, k2, n2⟩, -, X2, ⟨Lc2, hQ2, l2, y2, z2⟩, st2⟩ := X1.privateBack hx (y := (⟨"java/util/ArrayList", "grow", "(I)[Ljava/lang/Object;"⟩ : MethodName)) hown (mvT hZ (ow hw 56 rfl)) (mvT hZ (ow hw 57 rfl)) (mvT hZ (ow hw 59 rfl)) (Cond.privateMethod_at (mvP hZ (ow hw 58 rfl) (args := #[]))) (mvT hZ (ow hw 60 rfl)) (by decide) (backOf (W := 0) (own_growI l Z a0 hw [] G a (0 + 1) k (by decide) h0 n0 Z0 A ga O) hZ (ow hw 60 rfl) (ow hw 2 rfl) (by decide) (by decide)) (g := (mkF m 7 #[.val (.ref a)] [(.int (0 + 1)), (.ref a)])) rfl (by rw [hml]; rfl) (Steps.refl _) (a := a) (by rw [e1]; exact q2) q2' (argsL := [(.int (0 + 1))]) (rest := []) (lenOf own_pd2 rfl) rfl (by show 2 * 0 + _ ≤ _; exact Nat.le_of_eq rfl) (hb hby d_38_7_7) (fun _ _ => ⟨rfl, e1, (by decide : 0 + 1 ≤ _), (by decide : 0 + 10 ≤ _)⟩)
  dsimp only [Pt.U, Pt.locs, Pt.cells, Pt.slots] at X2 l2 y2 z2 st2 hQ2
  subst l2 y2 z2
  obtain ⟨h2, e2⟩ : ∃ z, T2.heap = z := ⟨_, rfl⟩
  rw [e2] at hQ2
  obtain ⟨x2, rfl, N2, K2, g2, A2, B2⟩ := hQ2
  have N3_ := Fr.app N0 N2
  have K4_ := (Keep.refl h0 [a]).trans K2 (allS (Or.inl (List.mem_of_getElem? (i := 0) rfl)) all0)
  obtain ⟨fs, hr, hrun, hended, hW, hsame⟩ := X2.leave (v := some (.ref x2)) (fun h => by rw [Bd.returns] at h; cases h)
  refine ⟨_, _, pre0 _ ?_, hrun, hended, _, _, rfl, ?_, ⟨_, rfl⟩, hW, hsame.mono (by decide) (by decide)⟩
  · show Steps _ _ _ (s₁.setTop (mkF m 0 #[.val (.ref a)] [])) _
    refine XS.aloadN X0.here hx rfl (hb hby d_38_7_0) rfl rfl ?_
    refine XS.aloadN X0.here hx rfl (hb hby d_38_7_1) rfl rfl ?_
    show Steps _ _ _ (s₁.setTop (mkF m 2 #[.val (.ref a)] [(.ref a), (.ref a)])) _
    refine st1 _ ?_
    refine XT.iconstV X1.here hx rfl 1 (hb hby d_38_7_5) rfl ?_
    show Steps _ _ _ (T1.setTop (mkF m 6 #[.val (.ref a)] [(.int 1), (.int 0), (.ref a)])) _
    refine XS.iadd X1.here hx rfl (hb hby d_38_7_6) rfl ?_
    show Steps _ _ _ (T1.setTop (mkF m 7 #[.val (.ref a)] [(.int (0 + 1)), (.ref a)])) _
    refine st2.trans ?_
    show Steps _ _ _ (T2.setTop (mkF m 10 #[.val (.ref a)] [(.ref x2)])) _
    exact retOut X2 hx Bd.returns rfl (Or.inr (Or.inr (Or.inr (Or.inr ⟨rfl, rfl, rfl⟩)))) (hb hby d_38_7_10) hr
  · show own_QGr Z a k h0 n0 _ T2.heap _
    rw [e2]
    exact ⟨x2, rfl, N3_, K4_, g2, A2, B2⟩
theorem own_pd3 : parseMethodDescriptor "()[Ljava/lang/Object;" = some ⟨[], some (.array (.object "java/lang/Object"))⟩ := by decide +kernel
theorem d_38_24_0 : decode jdk_38_method_24_code 0 = .ok (.iload_n 3, 1) := by decide +kernel
theorem d_38_24_1 : decode jdk_38_method_24_code 1 = .ok (.aload_n 2, 1) := by decide +kernel
theorem d_38_24_2 : decode jdk_38_method_24_code 2 = .ok (.arraylength, 1) := by decide +kernel
theorem d_38_24_3 : decode jdk_38_method_24_code 3 = .ok (.if_icmp .ne 8, 3) := by decide +kernel
theorem d_38_24_6 : decode jdk_38_method_24_code 6 = .ok (.aload_n 0, 1) := by decide +kernel
theorem d_38_24_7 : decode jdk_38_method_24_code 7 = .ok (.invokevirtual 129, 3) := by decide +kernel
theorem d_38_24_10 : decode jdk_38_method_24_code 10 = .ok (.astore_n 2, 1) := by decide +kernel
theorem d_38_24_11 : decode jdk_38_method_24_code 11 = .ok (.aload_n 2, 1) := by decide +kernel
theorem d_38_24_12 : decode jdk_38_method_24_code 12 = .ok (.iload_n 3, 1) := by decide +kernel
theorem d_38_24_13 : decode jdk_38_method_24_code 13 = .ok (.aload_n 1, 1) := by decide +kernel
theorem d_38_24_14 : decode jdk_38_method_24_code 14 = .ok (.aastore, 1) := by decide +kernel
theorem d_38_24_15 : decode jdk_38_method_24_code 15 = .ok (.aload_n 0, 1) := by decide +kernel
theorem d_38_24_16 : decode jdk_38_method_24_code 16 = .ok (.iload_n 3, 1) := by decide +kernel
theorem d_38_24_17 : decode jdk_38_method_24_code 17 = .ok (.iconst 1, 1) := by decide +kernel
theorem d_38_24_18 : decode jdk_38_method_24_code 18 = .ok (.iadd, 1) := by decide +kernel
theorem d_38_24_19 : decode jdk_38_method_24_code 19 = .ok (.putfield 48, 3) := by decide +kernel
theorem d_38_24_22 : decode jdk_38_method_24_code 22 = .ok (.return_, 1) := by decide +kernel
theorem own_ef_add3_0 (m : MethodId) (x0 : Addr) (x1 : Addr) (x2 : Addr) (x3 : Int32) : entryFrame m #[(.ref x0), (.ref x1), (.ref x2), (.int x3)] 4 = mkF m 0 #[.val (.ref x0), .val (.ref x1), .val (.ref x2), .val (.int x3)] [] := by first | (simp [entryFrame, mkF, argsToLocals, Value.category]; done) | rfl
theorem own_add3_0 (l : Launch) (Z : State) (a0 : Array Value) (hw : ∀ d ∈ tables_1, d.before a0 Z = true) (ws : List Jvm.Cond) {D IC EL EE EM MO b0 b1 : Addr} {cD cI cE : Cell} (G : own_G Z D IC EL EE EM MO b0 b1 cD cI cE) (a y : Addr) (k : Int32) (h0 : Heap) (n0 : Nat) (Z0 : n0 ≤ h0.size) (A : own_Al Z h0 a (.ref D) k 0) (ga : n0 ≤ a) (I : Ins Z h0 y "java/lang/Object" true) (O : Old Z n0 h0) :
    MetFree l (⟨"java/util/ArrayList", "add", "(Ljava/lang/Object;[Ljava/lang/Object;I)V"⟩ : MethodName) (head1 (Jvm.Cond.code (⟨"java/util/ArrayList", "add", "(Ljava/lang/Object;[Ljava/lang/Object;I)V"⟩ : MethodName) jdk_38_method_24_code 4 none :: ws) ({ frames := 3, cells := 1, slots := 10, locals := 41 } : Room)) (fun av U => av = #[(.ref a), (.ref y), (.ref D), (.int 0)] ∧ Z.Warmed39 U.vm ∧ U.heap = h0) (fun _ _ _ _ _ => True) (fun _ U oc U' => ∃ v L, oc = .returned v ∧ own_QAdd0 Z none a y k h0 n0 v U'.heap L ∧ FrameEnd U oc U' L ({ frames := 3, cells := 1, slots := 10, locals := 41 } : Room).cells ({ frames := 3, cells := 1, slots := 10, locals := 41 } : Room).slots) := by
  refine MetFree.of_bodySF (plainFor_of_name own_pn2) hisR ?_
  intro p e s m args below meth c s₁ Bd hml0 hP hK
  obtain ⟨rfl, hZ, hh⟩ := hP
  have hx := Bd.exec
  have hby := Bd.bytes
  have hml : c.maxLocals = 4 := hml0
  have hown : s.vm.findClass "java/util/ArrayList" = some m.cls := findClass_of_methodNamed Bd.named
  have hnm := (name_of_methodNamed Bd.named Bd.method).1
  have X0 : Stand p l e ({ frames := 3, cells := 1, slots := 10, locals := 41 } : Room) s m #[(.ref a), (.ref y), (.ref D), (.int 0)] below meth c s₁ [] 0 0 := Stand.of_body Bd
  have e0 : s₁.heap = h0 := by rw [← hh, Bd.state]; rfl
  have N0 := Fr.nil n0
  have pre0 : ∀ tt, Steps p.tables e below (s₁.setTop (mkF m 0 #[.val (.ref a), .val (.ref y), .val (.ref D), .val (.int 0)] [])) tt → Steps p.tables e below (s₁.setTop (entryFrame m #[(.ref a), (.ref y), (.ref D), (.int 0)] 4)) tt := fun tt k' => castTop (own_ef_add3_0 m a y D 0) k'
  obtain ⟨cl1, q1, q1'⟩ := (A.1).cell
  obtain ⟨_, _, ⟨T1, L1, k1, n1⟩, -, X1, ⟨Lc1, hQ1, l1, y1, z1⟩, st1⟩ := X0.privateBack hx (y := (⟨"java/util/ArrayList", "grow", "()[Ljava/lang/Object;"⟩ : MethodName)) hown (mvT hZ (ow hw 51 rfl)) (mvT hZ (ow hw 52 rfl)) (mvT hZ (ow hw 54 rfl)) (Cond.privateMethod_at (mvP hZ (ow hw 53 rfl) (args := #[]))) (mvT hZ (ow hw 55 rfl)) (by decide) (backOf (W := 0) (own_grow0 l Z a0 hw [] G a k h0 n0 Z0 A ga O) hZ (ow hw 55 rfl) (ow hw 2 rfl) (by decide) (by decide)) (g := (mkF m 7 #[.val (.ref a), .val (.ref y), .val (.ref D), .val (.int 0)] [(.ref a)])) rfl (by rw [hml]; rfl) (Steps.refl _) (a := a) (by rw [e0]; exact q1) q1' (argsL := []) (rest := []) (lenOf own_pd3 rfl) rfl (by show 2 * 0 + _ ≤ _; exact Nat.le_of_eq rfl) (hb hby d_38_24_7) (fun _ _ => ⟨rfl, e0, (by decide : 0 + 1 ≤ _), (by decide : 0 + 10 ≤ _)⟩)
  dsimp only [Pt.U, Pt.locs, Pt.cells, Pt.slots] at X1 l1 y1 z1 st1 hQ1
  subst l1 y1 z1
  obtain ⟨h1, e1⟩ : ∃ z, T1.heap = z := ⟨_, rfl⟩
  rw [e1] at hQ1
  obtain ⟨x1, rfl, N1, K1, g1, A1, B1⟩ := hQ1
  have N2_ := Fr.app N0 N1
  have K3_ := (Keep.refl h0 [a]).trans K1 (allS (Or.inl (List.mem_of_getElem? (i := 0) rfl)) all0)
  have ne_ax := ne_exa A1.1 B1.exa (by decide)
  have f5_ := (own_Ins_keep I K1)
  obtain ⟨T4, h4, X4, e4, W4, F4, st4⟩ := own_aast X1 hx hZ e1 B1 0 (by decide) rfl (by simp) f5_ (g := (mkF m 14 #[.val (.ref a), .val (.ref y), .val (.ref x1), .val (.int 0)] [(.ref y), (.int 0), (.ref x1)])) rfl rfl (hb hby d_38_24_14)
  have N4 := Fr.snoc X4 N2_ (Nat.le_trans Z0 g1)
  have K6_ := K3_.wr W4 (Or.inr g1)
  have f8_ := (A1.2.2.2.other W4 (Or.inl ne_ax))
  have f9_ := (A1.1.wr W4)
  obtain ⟨T7, h7, X7, e7, W7, st7⟩ := putF X4 hx hZ hown (host := "") (Or.inl (ow hw 44 rfl)) Via.refl e4 f8_ f9_ (Or.inl (ow hw 45 rfl)) (ow hw 1 rfl) (ty := .int) (by decide) rfl rfl (g := (mkF m 19 #[.val (.ref a), .val (.ref y), .val (.ref x1), .val (.int 0)] [(.int (0 + 1)), (.ref a)])) rfl rfl (hb hby d_38_24_19)
  have N7 := Fr.snoc X7 N4 ga
  have K10_ := K6_.wr W7 (Or.inl (List.mem_of_getElem? (i := 0) rfl))
  have F7 := f8_.same W7
  have f11_ := (f9_.wr W7)
  have f12_ := ((A1.2.1.other W4 (Or.inl ne_ax)).other W7 (Or.inr (slot_ne (Or.inl (ow hw 22 rfl)) (Or.inl (ow hw 45 rfl)) (by decide) (t := .int) (by decide) (t' := .int) (by decide))))
  have f13_ := ((A1.2.2.1.other W4 (Or.inl ne_ax)).other W7 (Or.inr (slot_ne (Or.inl (ow hw 25 rfl)) (Or.inl (ow hw 45 rfl)) (by decide) (t := (.array (.object "java/lang/Object"))) (by decide) (t' := .int) (by decide))))
  have f14_ := (F4.other W7 (Ne.symm ne_ax))
  obtain ⟨fs, hr, hrun, hended, hW, hsame⟩ := X7.leave (v := none) (fun _ => rfl)
  refine ⟨_, _, pre0 _ ?_, hrun, hended, _, _, rfl, ?_, ⟨_, rfl⟩, hW, hsame.mono (by decide) (by decide)⟩
  · show Steps _ _ _ (s₁.setTop (mkF m 0 #[.val (.ref a), .val (.ref y), .val (.ref D), .val (.int 0)] [])) _
    refine XS.iloadN X0.here hx rfl (hb hby d_38_24_0) rfl ?_
    refine XS.aloadN X0.here hx rfl (hb hby d_38_24_1) rfl rfl ?_
    show Steps _ _ _ (s₁.setTop (mkF m 2 #[.val (.ref a), .val (.ref y), .val (.ref D), .val (.int 0)] [(.ref D), (.int 0)])) _
    refine own_lenC (z := 0) X0 hx hZ e0 (G.1.2.1.ext O.2) (by rw [G.1.2.2] <;> rfl) (g := (mkF m 2 #[.val (.ref a), .val (.ref y), .val (.ref D), .val (.int 0)] [(.ref D), (.int 0)])) rfl rfl (hb hby d_38_24_2) _ ?_
    show Steps _ _ _ (s₁.setTop (mkF m 3 #[.val (.ref a), .val (.ref y), .val (.ref D), .val (.int 0)] [(.int 0), (.int 0)])) _
    refine XS.icmpNo X0.here hx rfl (hb hby d_38_24_3) rfl (by decide) ?_
    refine XS.aloadN X0.here hx rfl (hb hby d_38_24_6) rfl rfl ?_
    show Steps _ _ _ (s₁.setTop (mkF m 7 #[.val (.ref a), .val (.ref y), .val (.ref D), .val (.int 0)] [(.ref a)])) _
    refine st1.trans ?_
    show Steps _ _ _ (T1.setTop (mkF m 10 #[.val (.ref a), .val (.ref y), .val (.ref D), .val (.int 0)] [(.ref x1)])) _
    refine XS.astoreN X1.here hx rfl (hb hby d_38_24_10) rfl rfl rfl ?_
    refine XS.aloadN X1.here hx rfl (hb hby d_38_24_11) rfl rfl ?_
    refine XS.iloadN X1.here hx rfl (hb hby d_38_24_12) rfl ?_
    refine XS.aloadN X1.here hx rfl (hb hby d_38_24_13) rfl rfl ?_
    show Steps _ _ _ (T1.setTop (mkF m 14 #[.val (.ref a), .val (.ref y), .val (.ref x1), .val (.int 0)] [(.ref y), (.int 0), (.ref x1)])) _
    refine st4 _ ?_
    refine XS.aloadN X4.here hx rfl (hb hby d_38_24_15) rfl rfl ?_
    refine XS.iloadN X4.here hx rfl (hb hby d_38_24_16) rfl ?_
    refine XT.iconstV X4.here hx rfl 1 (hb hby d_38_24_17) rfl ?_
    show Steps _ _ _ (T4.setTop (mkF m 18 #[.val (.ref a), .val (.ref y), .val (.ref x1), .val (.int 0)] [(.int 1), (.int 0), (.ref a)])) _
    refine XS.iadd X4.here hx rfl (hb hby d_38_24_18) rfl ?_
    show Steps _ _ _ (T4.setTop (mkF m 19 #[.val (.ref a), .val (.ref y), .val (.ref x1), .val (.int 0)] [(.int (0 + 1)), (.ref a)])) _
    refine st7 _ ?_
    show Steps _ _ _ (T7.setTop (mkF m 22 #[.val (.ref a), .val (.ref y), .val (.ref x1), .val (.int 0)] [])) _
    exact X7.returnOut hx Bd.returns (hb hby d_38_24_22) hr
  · show own_QAdd0 Z none a y k h0 n0 _ T7.heap _
    rw [e7]
    exact ⟨x1, rfl, N7, K10_, g1, ⟨f11_, f12_, f13_, F7⟩, f14_⟩
theorem own_ef_add3_1 (m : MethodId) (x0 : Addr) (x1 : Addr) (x2 : Addr) (x3 : Int32) : entryFrame m #[(.ref x0), (.ref x1), (.ref x2), (.int x3)] 4 = mkF m 0 #[.val (.ref x0), .val (.ref x1), .val (.ref x2), .val (.int x3)] [] := by first | (simp [entryFrame, mkF, argsToLocals, Value.category]; done) | rfl
theorem own_add3_1 (l : Launch) (Z : State) (a0 : Array Value) (hw : ∀ d ∈ tables_1, d.before a0 Z = true) (ws : List Jvm.Cond) (a x y : Addr) (k : Int32) (vs : List Value) (hvs : vs.length = 10) (h0 : Heap) (n0 : Nat) (Z0 : n0 ≤ h0.size) (A : own_Al Z h0 a (.ref x) k 1) (ga : n0 ≤ a) (gx : n0 ≤ x) (B : own_Oa Z h0 x 10 vs) (I : Ins Z h0 y "java/lang/Object" true) :
    MetFree l (⟨"java/util/ArrayList", "add", "(Ljava/lang/Object;[Ljava/lang/Object;I)V"⟩ : MethodName) (head1 (Jvm.Cond.code (⟨"java/util/ArrayList", "add", "(Ljava/lang/Object;[Ljava/lang/Object;I)V"⟩ : MethodName) jdk_38_method_24_code 4 none :: ws) ({ frames := 0, cells := 0, slots := 0, locals := 0 } : Room)) (fun av U => av = #[(.ref a), (.ref y), (.ref x), (.int 1)] ∧ Z.Warmed39 U.vm ∧ U.heap = h0) (fun _ _ _ _ _ => True) (fun _ U oc U' => ∃ v L, oc = .returned v ∧ own_QAddI Z none a x y k (1 + 1) (vs.set 1 (.ref y)) h0 n0 v U'.heap L ∧ FrameEnd U oc U' L ({ frames := 0, cells := 0, slots := 0, locals := 0 } : Room).cells ({ frames := 0, cells := 0, slots := 0, locals := 0 } : Room).slots) := by
  refine MetFree.of_bodySF (plainFor_of_name own_pn2) hisR ?_
  intro p e s m args below meth c s₁ Bd hml0 hP hK
  obtain ⟨rfl, hZ, hh⟩ := hP
  have hx := Bd.exec
  have hby := Bd.bytes
  have hml : c.maxLocals = 4 := hml0
  have hown : s.vm.findClass "java/util/ArrayList" = some m.cls := findClass_of_methodNamed Bd.named
  have hnm := (name_of_methodNamed Bd.named Bd.method).1
  have X0 : Stand p l e ({ frames := 0, cells := 0, slots := 0, locals := 0 } : Room) s m #[(.ref a), (.ref y), (.ref x), (.int 1)] below meth c s₁ [] 0 0 := Stand.of_body Bd
  have e0 : s₁.heap = h0 := by rw [← hh, Bd.state]; rfl
  have N0 := Fr.nil n0
  have pre0 : ∀ tt, Steps p.tables e below (s₁.setTop (mkF m 0 #[.val (.ref a), .val (.ref y), .val (.ref x), .val (.int 1)] [])) tt → Steps p.tables e below (s₁.setTop (entryFrame m #[(.ref a), (.ref y), (.ref x), (.int 1)] 4)) tt := fun tt k' => castTop (own_ef_add3_1 m a y x 1) k'
  obtain ⟨kk, B1, B2, B3⟩ := id B
  have ne_ax := ne_exa A.1 B3 (by decide)
  obtain ⟨T1, h1, X1, e1, W1, F1, st1⟩ := own_aast X0 hx hZ e0 B 1 (by decide) rfl (by omega) I (g := (mkF m 14 #[.val (.ref a), .val (.ref y), .val (.ref x), .val (.int 1)] [(.ref y), (.int 1), (.ref x)])) rfl rfl (hb hby d_38_24_14)
  have N1 := Fr.snoc X1 N0 gx
  have K2_ := (Keep.refl h0 [a, x]).wr W1 (Or.inl (List.mem_of_getElem? (i := 1) rfl))
  have f4_ := (A.2.2.2.other W1 (Or.inl ne_ax))
  have f5_ := (A.1.wr W1)
  obtain ⟨T3, h3, X3, e3, W3, st3⟩ := putF X1 hx hZ hown (host := "") (Or.inl (ow hw 44 rfl)) Via.refl e1 f4_ f5_ (Or.inl (ow hw 45 rfl)) (ow hw 1 rfl) (ty := .int) (by decide) rfl rfl (g := (mkF m 19 #[.val (.ref a), .val (.ref y), .val (.ref x), .val (.int 1)] [(.int (1 + 1)), (.ref a)])) rfl rfl (hb hby d_38_24_19)
  have N3 := Fr.snoc X3 N1 ga
  have K6_ := K2_.wr W3 (Or.inl (List.mem_of_getElem? (i := 0) rfl))
  have F3 := f4_.same W3
  have f7_ := (f5_.wr W3)
  have f8_ := ((A.2.1.other W1 (Or.inl ne_ax)).other W3 (Or.inr (slot_ne (Or.inl (ow hw 22 rfl)) (Or.inl (ow hw 45 rfl)) (by decide) (t := .int) (by decide) (t' := .int) (by decide))))
  have f9_ := ((A.2.2.1.other W1 (Or.inl ne_ax)).other W3 (Or.inr (slot_ne (Or.inl (ow hw 25 rfl)) (Or.inl (ow hw 45 rfl)) (by decide) (t := (.array (.object "java/lang/Object"))) (by decide) (t' := .int) (by decide))))
  have f10_ := (F1.other W3 (Ne.symm ne_ax))
  obtain ⟨fs, hr, hrun, hended, hW, hsame⟩ := X3.leave (v := none) (fun _ => rfl)
  refine ⟨_, _, pre0 _ ?_, hrun, hended, _, _, rfl, ?_, ⟨_, rfl⟩, hW, hsame.mono (by decide) (by decide)⟩
  · show Steps _ _ _ (s₁.setTop (mkF m 0 #[.val (.ref a), .val (.ref y), .val (.ref x), .val (.int 1)] [])) _
    refine XS.iloadN X0.here hx rfl (hb hby d_38_24_0) rfl ?_
    refine XS.aloadN X0.here hx rfl (hb hby d_38_24_1) rfl rfl ?_
    show Steps _ _ _ (s₁.setTop (mkF m 2 #[.val (.ref a), .val (.ref y), .val (.ref x), .val (.int 1)] [(.ref x), (.int 1)])) _
    refine own_len X0 hx hZ e0 B1 (g := (mkF m 2 #[.val (.ref a), .val (.ref y), .val (.ref x), .val (.int 1)] [(.ref x), (.int 1)])) rfl rfl (hb hby d_38_24_2) _ ?_
    show Steps _ _ _ (s₁.setTop (mkF m 3 #[.val (.ref a), .val (.ref y), .val (.ref x), .val (.int 1)] [(.int 10), (.int 1)])) _
    refine XS.icmpYes X0.here hx rfl rfl (hb hby d_38_24_3) rfl (by decide) (show (0 : Int) ≤ ((3 : Nat) : Int) + (8) by decide) (show (((3 : Nat) : Int) + (8)).toNat = 11 by decide) ?_
    refine XS.aloadN X0.here hx rfl (hb hby d_38_24_11) rfl rfl ?_
    refine XS.iloadN X0.here hx rfl (hb hby d_38_24_12) rfl ?_
    refine XS.aloadN X0.here hx rfl (hb hby d_38_24_13) rfl rfl ?_
    show Steps _ _ _ (s₁.setTop (mkF m 14 #[.val (.ref a), .val (.ref y), .val (.ref x), .val (.int 1)] [(.ref y), (.int 1), (.ref x)])) _
    refine st1 _ ?_
    refine XS.aloadN X1.here hx rfl (hb hby d_38_24_15) rfl rfl ?_
    refine XS.iloadN X1.here hx rfl (hb hby d_38_24_16) rfl ?_
    refine XT.iconstV X1.here hx rfl 1 (hb hby d_38_24_17) rfl ?_
    show Steps _ _ _ (T1.setTop (mkF m 18 #[.val (.ref a), .val (.ref y), .val (.ref x), .val (.int 1)] [(.int 1), (.int 1), (.ref a)])) _
    refine XS.iadd X1.here hx rfl (hb hby d_38_24_18) rfl ?_
    show Steps _ _ _ (T1.setTop (mkF m 19 #[.val (.ref a), .val (.ref y), .val (.ref x), .val (.int 1)] [(.int (1 + 1)), (.ref a)])) _
    refine st3 _ ?_
    show Steps _ _ _ (T3.setTop (mkF m 22 #[.val (.ref a), .val (.ref y), .val (.ref x), .val (.int 1)] [])) _
    exact X3.returnOut hx Bd.returns (hb hby d_38_24_22) hr
  · show own_QAddI Z none a x y k (1 + 1) (vs.set 1 (.ref y)) h0 n0 _ T3.heap _
    rw [e3]
    exact ⟨rfl, N3, K6_, ⟨f7_, f8_, f9_, F3⟩, f10_⟩
theorem own_ef_add3_2 (m : MethodId) (x0 : Addr) (x1 : Addr) (x2 : Addr) (x3 : Int32) : entryFrame m #[(.ref x0), (.ref x1), (.ref x2), (.int x3)] 4 = mkF m 0 #[.val (.ref x0), .val (.ref x1), .val (.ref x2), .val (.int x3)] [] := by first | (simp [entryFrame, mkF, argsToLocals, Value.category]; done) | rfl
theorem own_add3_2 (l : Launch) (Z : State) (a0 : Array Value) (hw : ∀ d ∈ tables_1, d.before a0 Z = true) (ws : List Jvm.Cond) (a x y : Addr) (k : Int32) (vs : List Value) (hvs : vs.length = 10) (h0 : Heap) (n0 : Nat) (Z0 : n0 ≤ h0.size) (A : own_Al Z h0 a (.ref x) k 2) (ga : n0 ≤ a) (gx : n0 ≤ x) (B : own_Oa Z h0 x 10 vs) (I : Ins Z h0 y "java/lang/Object" true) :
    MetFree l (⟨"java/util/ArrayList", "add", "(Ljava/lang/Object;[Ljava/lang/Object;I)V"⟩ : MethodName) (head1 (Jvm.Cond.code (⟨"java/util/ArrayList", "add", "(Ljava/lang/Object;[Ljava/lang/Object;I)V"⟩ : MethodName) jdk_38_method_24_code 4 none :: ws) ({ frames := 0, cells := 0, slots := 0, locals := 0 } : Room)) (fun av U => av = #[(.ref a), (.ref y), (.ref x), (.int 2)] ∧ Z.Warmed39 U.vm ∧ U.heap = h0) (fun _ _ _ _ _ => True) (fun _ U oc U' => ∃ v L, oc = .returned v ∧ own_QAddI Z none a x y k (2 + 1) (vs.set 2 (.ref y)) h0 n0 v U'.heap L ∧ FrameEnd U oc U' L ({ frames := 0, cells := 0, slots := 0, locals := 0 } : Room).cells ({ frames := 0, cells := 0, slots := 0, locals := 0 } : Room).slots) := by
  refine MetFree.of_bodySF (plainFor_of_name own_pn2) hisR ?_
  intro p e s m args below meth c s₁ Bd hml0 hP hK
  obtain ⟨rfl, hZ, hh⟩ := hP
  have hx := Bd.exec
  have hby := Bd.bytes
  have hml : c.maxLocals = 4 := hml0
  have hown : s.vm.findClass "java/util/ArrayList" = some m.cls := findClass_of_methodNamed Bd.named
  have hnm := (name_of_methodNamed Bd.named Bd.method).1
  have X0 : Stand p l e ({ frames := 0, cells := 0, slots := 0, locals := 0 } : Room) s m #[(.ref a), (.ref y), (.ref x), (.int 2)] below meth c s₁ [] 0 0 := Stand.of_body Bd
  have e0 : s₁.heap = h0 := by rw [← hh, Bd.state]; rfl
  have N0 := Fr.nil n0
  have pre0 : ∀ tt, Steps p.tables e below (s₁.setTop (mkF m 0 #[.val (.ref a), .val (.ref y), .val (.ref x), .val (.int 2)] [])) tt → Steps p.tables e below (s₁.setTop (entryFrame m #[(.ref a), (.ref y), (.ref x), (.int 2)] 4)) tt := fun tt k' => castTop (own_ef_add3_2 m a y x 2) k'
  obtain ⟨kk, B1, B2, B3⟩ := id B
  have ne_ax := ne_exa A.1 B3 (by decide)
  obtain ⟨T1, h1, X1, e1, W1, F1, st1⟩ := own_aast X0 hx hZ e0 B 2 (by decide) rfl (by omega) I (g := (mkF m 14 #[.val (.ref a), .val (.ref y), .val (.ref x), .val (.int 2)] [(.ref y), (.int 2), (.ref x)])) rfl rfl (hb hby d_38_24_14)
  have N1 := Fr.snoc X1 N0 gx
  have K2_ := (Keep.refl h0 [a, x]).wr W1 (Or.inl (List.mem_of_getElem? (i := 1) rfl))
  have f4_ := (A.2.2.2.other W1 (Or.inl ne_ax))
  have f5_ := (A.1.wr W1)
  obtain ⟨T3, h3, X3, e3, W3, st3⟩ := putF X1 hx hZ hown (host := "") (Or.inl (ow hw 44 rfl)) Via.refl e1 f4_ f5_ (Or.inl (ow hw 45 rfl)) (ow hw 1 rfl) (ty := .int) (by decide) rfl rfl (g := (mkF m 19 #[.val (.ref a), .val (.ref y), .val (.ref x), .val (.int 2)] [(.int (2 + 1)), (.ref a)])) rfl rfl (hb hby d_38_24_19)
  have N3 := Fr.snoc X3 N1 ga
  have K6_ := K2_.wr W3 (Or.inl (List.mem_of_getElem? (i := 0) rfl))
  have F3 := f4_.same W3
  have f7_ := (f5_.wr W3)
  have f8_ := ((A.2.1.other W1 (Or.inl ne_ax)).other W3 (Or.inr (slot_ne (Or.inl (ow hw 22 rfl)) (Or.inl (ow hw 45 rfl)) (by decide) (t := .int) (by decide) (t' := .int) (by decide))))
  have f9_ := ((A.2.2.1.other W1 (Or.inl ne_ax)).other W3 (Or.inr (slot_ne (Or.inl (ow hw 25 rfl)) (Or.inl (ow hw 45 rfl)) (by decide) (t := (.array (.object "java/lang/Object"))) (by decide) (t' := .int) (by decide))))
  have f10_ := (F1.other W3 (Ne.symm ne_ax))
  obtain ⟨fs, hr, hrun, hended, hW, hsame⟩ := X3.leave (v := none) (fun _ => rfl)
  refine ⟨_, _, pre0 _ ?_, hrun, hended, _, _, rfl, ?_, ⟨_, rfl⟩, hW, hsame.mono (by decide) (by decide)⟩
  · show Steps _ _ _ (s₁.setTop (mkF m 0 #[.val (.ref a), .val (.ref y), .val (.ref x), .val (.int 2)] [])) _
    refine XS.iloadN X0.here hx rfl (hb hby d_38_24_0) rfl ?_
    refine XS.aloadN X0.here hx rfl (hb hby d_38_24_1) rfl rfl ?_
    show Steps _ _ _ (s₁.setTop (mkF m 2 #[.val (.ref a), .val (.ref y), .val (.ref x), .val (.int 2)] [(.ref x), (.int 2)])) _
    refine own_len X0 hx hZ e0 B1 (g := (mkF m 2 #[.val (.ref a), .val (.ref y), .val (.ref x), .val (.int 2)] [(.ref x), (.int 2)])) rfl rfl (hb hby d_38_24_2) _ ?_
    show Steps _ _ _ (s₁.setTop (mkF m 3 #[.val (.ref a), .val (.ref y), .val (.ref x), .val (.int 2)] [(.int 10), (.int 2)])) _
    refine XS.icmpYes X0.here hx rfl rfl (hb hby d_38_24_3) rfl (by decide) (show (0 : Int) ≤ ((3 : Nat) : Int) + (8) by decide) (show (((3 : Nat) : Int) + (8)).toNat = 11 by decide) ?_
    refine XS.aloadN X0.here hx rfl (hb hby d_38_24_11) rfl rfl ?_
    refine XS.iloadN X0.here hx rfl (hb hby d_38_24_12) rfl ?_
    refine XS.aloadN X0.here hx rfl (hb hby d_38_24_13) rfl rfl ?_
    show Steps _ _ _ (s₁.setTop (mkF m 14 #[.val (.ref a), .val (.ref y), .val (.ref x), .val (.int 2)] [(.ref y), (.int 2), (.ref x)])) _
    refine st1 _ ?_
    refine XS.aloadN X1.here hx rfl (hb hby d_38_24_15) rfl rfl ?_
    refine XS.iloadN X1.here hx rfl (hb hby d_38_24_16) rfl ?_
    refine XT.iconstV X1.here hx rfl 1 (hb hby d_38_24_17) rfl ?_
    show Steps _ _ _ (T1.setTop (mkF m 18 #[.val (.ref a), .val (.ref y), .val (.ref x), .val (.int 2)] [(.int 1), (.int 2), (.ref a)])) _
    refine XS.iadd X1.here hx rfl (hb hby d_38_24_18) rfl ?_
    show Steps _ _ _ (T1.setTop (mkF m 19 #[.val (.ref a), .val (.ref y), .val (.ref x), .val (.int 2)] [(.int (2 + 1)), (.ref a)])) _
    refine st3 _ ?_
    show Steps _ _ _ (T3.setTop (mkF m 22 #[.val (.ref a), .val (.ref y), .val (.ref x), .val (.int 2)] [])) _
    exact X3.returnOut hx Bd.returns (hb hby d_38_24_22) hr
  · show own_QAddI Z none a x y k (2 + 1) (vs.set 2 (.ref y)) h0 n0 _ T3.heap _
    rw [e3]
    exact ⟨rfl, N3, K6_, ⟨f7_, f8_, f9_, F3⟩, f10_⟩
theorem own_pd4 : parseMethodDescriptor "(Ljava/lang/Object;[Ljava/lang/Object;I)V" = some ⟨[(.object "java/lang/Object"), (.array (.object "java/lang/Object")), .int], none⟩ := by decide +kernel
theorem d_38_25_0 : decode jdk_38_method_25_code 0 = .ok (.aload_n 0, 1) := by decide +kernel
theorem d_38_25_1 : decode jdk_38_method_25_code 1 = .ok (.dup, 1) := by decide +kernel
theorem d_38_25_2 : decode jdk_38_method_25_code 2 = .ok (.getfield 63, 3) := by decide +kernel
theorem d_38_25_5 : decode jdk_38_method_25_code 5 = .ok (.iconst 1, 1) := by decide +kernel
theorem d_38_25_6 : decode jdk_38_method_25_code 6 = .ok (.iadd, 1) := by decide +kernel
theorem d_38_25_7 : decode jdk_38_method_25_code 7 = .ok (.putfield 63, 3) := by decide +kernel
theorem d_38_25_10 : decode jdk_38_method_25_code 10 = .ok (.aload_n 0, 1) := by decide +kernel
theorem d_38_25_11 : decode jdk_38_method_25_code 11 = .ok (.aload_n 1, 1) := by decide +kernel
theorem d_38_25_12 : decode jdk_38_method_25_code 12 = .ok (.aload_n 0, 1) := by decide +kernel
theorem d_38_25_13 : decode jdk_38_method_25_code 13 = .ok (.getfield 9, 3) := by decide +kernel
theorem d_38_25_16 : decode jdk_38_method_25_code 16 = .ok (.aload_n 0, 1) := by decide +kernel
theorem d_38_25_17 : decode jdk_38_method_25_code 17 = .ok (.getfield 48, 3) := by decide +kernel
theorem d_38_25_20 : decode jdk_38_method_25_code 20 = .ok (.invokevirtual 131, 3) := by decide +kernel
theorem d_38_25_23 : decode jdk_38_method_25_code 23 = .ok (.iconst 1, 1) := by decide +kernel
theorem d_38_25_24 : decode jdk_38_method_25_code 24 = .ok (.ireturn, 1) := by decide +kernel
theorem own_ef_add_0 (m : MethodId) (x0 : Addr) (x1 : Addr) : entryFrame m #[(.ref x0), (.ref x1)] 2 = mkF m 0 #[.val (.ref x0), .val (.ref x1)] [] := by first | (simp [entryFrame, mkF, argsToLocals, Value.category]; done) | rfl
theorem own_add_0 (l : Launch) (Z : State) (a0 : Array Value) (hw : ∀ d ∈ tables_1, d.before a0 Z = true) (ws : List Jvm.Cond) {D IC EL EE EM MO b0 b1 : Addr} {cD cI cE : Cell} (G : own_G Z D IC EL EE EM MO b0 b1 cD cI cE) (a y : Addr) (k : Int32) (h0 : Heap) (n0 : Nat) (Z0 : n0 ≤ h0.size) (A : own_Al Z h0 a (.ref D) k 0) (ga : n0 ≤ a) (I : Ins Z h0 y "java/lang/Object" true) (O : Old Z n0 h0) :
    MetFree l (⟨"java/util/ArrayList", "add", "(Ljava/lang/Object;)Z"⟩ : MethodName) (head1 (Jvm.Cond.code (⟨"java/util/ArrayList", "add", "(Ljava/lang/Object;)Z"⟩ : MethodName) jdk_38_method_25_code 2 (some .boolean) :: ws) ({ frames := 4, cells := 1, slots := 10, locals := 56 } : Room)) (fun av U => av = #[(.ref a), (.ref y)] ∧ Z.Warmed39 U.vm ∧ U.heap = h0) (fun _ _ _ _ _ => True) (fun _ U oc U' => ∃ v L, oc = .returned v ∧ own_QAdd0 Z (some (.int 1)) a y (k + 1) h0 n0 v U'.heap L ∧ FrameEnd U oc U' L ({ frames := 4, cells := 1, slots := 10, locals := 56 } : Room).cells ({ frames := 4, cells := 1, slots := 10, locals := 56 } : Room).slots) := by
  refine MetFree.of_bodySF (plainFor_of_name own_pn2) hisR ?_
  intro p e s m args below meth c s₁ Bd hml0 hP hK
  obtain ⟨rfl, hZ, hh⟩ := hP
  have hx := Bd.exec
  have hby := Bd.bytes
  have hml : c.maxLocals = 2 := hml0
  have hown : s.vm.findClass "java/util/ArrayList" = some m.cls := findClass_of_methodNamed Bd.named
  have hnm := (name_of_methodNamed Bd.named Bd.method).1
  have X0 : Stand p l e ({ frames := 4, cells := 1, slots := 10, locals := 56 } : Room) s m #[(.ref a), (.ref y)] below meth c s₁ [] 0 0 := Stand.of_body Bd
  have e0 : s₁.heap = h0 := by rw [← hh, Bd.state]; rfl
  have N0 := Fr.nil n0
  have pre0 : ∀ tt, Steps p.tables e below (s₁.setTop (mkF m 0 #[.val (.ref a), .val (.ref y)] [])) tt → Steps p.tables e below (s₁.setTop (entryFrame m #[(.ref a), (.ref y)] 2)) tt := fun tt k' => castTop (own_ef_add_0 m a y) k'
  obtain ⟨T1, X1, e1, st1⟩ := getF X0 hx hZ hown (host := "") (Or.inl (ow hw 42 rfl)) (Via.of (ow hw 43 rfl)) e0 A.2.1 (g := (mkF m 2 #[.val (.ref a), .val (.ref y)] [(.ref a), (.ref a)])) rfl rfl (hb hby d_38_25_2)
  obtain ⟨T2, h2, X2, e2, W2, st2⟩ := putF X1 hx hZ hown (host := "") (Or.inl (ow hw 42 rfl)) (Via.of (ow hw 43 rfl)) e1 A.2.1 A.1 (Or.inl (ow hw 22 rfl)) (ow hw 1 rfl) (ty := .int) (by decide) rfl rfl (g := (mkF m 7 #[.val (.ref a), .val (.ref y)] [(.int (k + 1)), (.ref a)])) rfl rfl (hb hby d_38_25_7)
  have N2 := Fr.snoc X2 N0 ga
  have K3_ := (Keep.refl h0 [a]).wr W2 (Or.inl (List.mem_of_getElem? (i := 0) rfl))
  have F2 := A.2.1.same W2
  have f5_ := (A.2.2.1.other W2 (Or.inr (slot_ne (Or.inl (ow hw 25 rfl)) (Or.inl (ow hw 22 rfl)) (by decide) (t := (.array (.object "java/lang/Object"))) (by decide) (t' := .int) (by decide))))
  obtain ⟨T4, X4, e4, st4⟩ := getF X2 hx hZ hown (host := "") (Or.inl (ow hw 24 rfl)) Via.refl e2 f5_ (g := (mkF m 13 #[.val (.ref a), .val (.ref y)] [(.ref a), (.ref y), (.ref a)])) rfl rfl (hb hby d_38_25_13)
  have f7_ := (A.2.2.2.other W2 (Or.inr (slot_ne (Or.inl (ow hw 45 rfl)) (Or.inl (ow hw 22 rfl)) (by decide) (t := .int) (by decide) (t' := .int) (by decide))))
  obtain ⟨T6, X6, e6, st6⟩ := getF X4 hx hZ hown (host := "") (Or.inl (ow hw 44 rfl)) Via.refl e4 f7_ (g := (mkF m 17 #[.val (.ref a), .val (.ref y)] [(.ref a), (.ref D), (.ref y), (.ref a)])) rfl rfl (hb hby d_38_25_17)
  have f8_ := (A.1.wr W2)
  have f9_ := (I.wr W2)
  have f11_ := (O.wr W2 ga)
  have Z12_ := (Nat.le_trans Z0 K3_.1)
  obtain ⟨cl10, q10, q10'⟩ := (f8_).cell
  obtain ⟨_, _, ⟨T10, L10, k10, n10⟩, -, X10, ⟨Lc10, hQ10, l10, y10, z10⟩, st10⟩ := X6.privateBack hx (y := (⟨"java/util/ArrayList", "add", "(Ljava/lang/Object;[Ljava/lang/Object;I)V"⟩ : MethodName)) hown (mvT hZ (ow hw 46 rfl)) (mvT hZ (ow hw 47 rfl)) (mvT hZ (ow hw 49 rfl)) (Cond.privateMethod_at (mvP hZ (ow hw 48 rfl) (args := #[]))) (mvT hZ (ow hw 50 rfl)) (by decide) (backOf (W := 0) (own_add3_0 l Z a0 hw [] G a y (k + 1) h2 n0 Z12_ ⟨f8_, F2, f5_, f7_⟩ ga f9_ f11_) hZ (ow hw 50 rfl) (ow hw 2 rfl) (by decide) (by decide)) (g := (mkF m 20 #[.val (.ref a), .val (.ref y)] [(.int 0), (.ref D), (.ref y), (.ref a)])) rfl (by rw [hml]; rfl) (Steps.refl _) (a := a) (by rw [e6]; exact q10) q10' (argsL := [(.ref y), (.ref D), (.int 0)]) (rest := []) (lenOf own_pd4 rfl) rfl (by show 2 * 0 + _ ≤ _; exact Nat.le_of_eq rfl) (hb hby d_38_25_20) (fun _ _ => ⟨rfl, e6, (by decide : 0 + 1 ≤ _), (by decide : 0 + 10 ≤ _)⟩)
  dsimp only [Pt.U, Pt.locs, Pt.cells, Pt.slots] at X10 l10 y10 z10 st10 hQ10
  subst l10 y10 z10
  obtain ⟨h10, e10⟩ : ∃ z, T10.heap = z := ⟨_, rfl⟩
  rw [e10] at hQ10
  obtain ⟨x10, rfl, N10, K10, g10, A10, B10⟩ := hQ10
  have N13_ := Fr.app N2 N10
  have K14_ := K3_.trans K10 (allS (Or.inl (List.mem_of_getElem? (i := 0) rfl)) all0)
  obtain ⟨fs, hr, hrun, hended, hW, hsame⟩ := X10.leave (v := some (.int 1)) (fun h => by rw [Bd.returns] at h; cases h)
  refine ⟨_, _, pre0 _ ?_, hrun, hended, _, _, rfl, ?_, ⟨_, rfl⟩, hW, hsame.mono (by decide) (by decide)⟩
  · show Steps _ _ _ (s₁.setTop (mkF m 0 #[.val (.ref a), .val (.ref y)] [])) _
    refine XS.aloadN X0.here hx rfl (hb hby d_38_25_0) rfl rfl ?_
    refine XS.dup X0.here hx rfl (hb hby d_38_25_1) rfl rfl ?_
    show Steps _ _ _ (s₁.setTop (mkF m 2 #[.val (.ref a), .val (.ref y)] [(.ref a), (.ref a)])) _
    refine st1 _ ?_
    refine XT.iconstV X1.here hx rfl 1 (hb hby d_38_25_5) rfl ?_
    show Steps _ _ _ (T1.setTop (mkF m 6 #[.val (.ref a), .val (.ref y)] [(.int 1), (.int k), (.ref a)])) _
    refine XS.iadd X1.here hx rfl (hb hby d_38_25_6) rfl ?_
    show Steps _ _ _ (T1.setTop (mkF m 7 #[.val (.ref a), .val (.ref y)] [(.int (k + 1)), (.ref a)])) _
    refine st2 _ ?_
    refine XS.aloadN X2.here hx rfl (hb hby d_38_25_10) rfl rfl ?_
    refine XS.aloadN X2.here hx rfl (hb hby d_38_25_11) rfl rfl ?_
    refine XS.aloadN X2.here hx rfl (hb hby d_38_25_12) rfl rfl ?_
    show Steps _ _ _ (T2.setTop (mkF m 13 #[.val (.ref a), .val (.ref y)] [(.ref a), (.ref y), (.ref a)])) _
    refine st4 _ ?_
    refine XS.aloadN X4.here hx rfl (hb hby d_38_25_16) rfl rfl ?_
    show Steps _ _ _ (T4.setTop (mkF m 17 #[.val (.ref a), .val (.ref y)] [(.ref a), (.ref D), (.ref y), (.ref a)])) _
    refine st6 _ ?_
    show Steps _ _ _ (T6.setTop (mkF m 20 #[.val (.ref a), .val (.ref y)] [(.int 0), (.ref D), (.ref y), (.ref a)])) _
    refine st10.trans ?_
    refine XT.iconstV X10.here hx rfl 1 (hb hby d_38_25_23) rfl ?_
    show Steps _ _ _ (T10.setTop (mkF m 24 #[.val (.ref a), .val (.ref y)] [(.int 1)])) _
    exact retOut X10 hx Bd.returns rfl (Or.inl ⟨rfl, Or.inr (Or.inl rfl), _, rfl⟩) (hb hby d_38_25_24) hr
  · show own_QAdd0 Z (some (.int 1)) a y (k + 1) h0 n0 _ T10.heap _
    rw [e10]
    exact ⟨x10, rfl, N13_, K14_, Nat.le_trans K3_.1 g10, A10, B10⟩
theorem own_ef_add_1 (m : MethodId) (x0 : Addr) (x1 : Addr) : entryFrame m #[(.ref x0), (.ref x1)] 2 = mkF m 0 #[.val (.ref x0), .val (.ref x1)] [] := by first | (simp [entryFrame, mkF, argsToLocals, Value.category]; done) | rfl
theorem own_add_1 (l : Launch) (Z : State) (a0 : Array Value) (hw : ∀ d ∈ tables_1, d.before a0 Z = true) (ws : List Jvm.Cond) (a x y : Addr) (k : Int32) (vs : List Value) (hvs : vs.length = 10) (h0 : Heap) (n0 : Nat) (Z0 : n0 ≤ h0.size) (A : own_Al Z h0 a (.ref x) k 1) (ga : n0 ≤ a) (gx : n0 ≤ x) (B : own_Oa Z h0 x 10 vs) (I : Ins Z h0 y "java/lang/Object" true) :
    MetFree l (⟨"java/util/ArrayList", "add", "(Ljava/lang/Object;)Z"⟩ : MethodName) (head1 (Jvm.Cond.code (⟨"java/util/ArrayList", "add", "(Ljava/lang/Object;)Z"⟩ : MethodName) jdk_38_method_25_code 2 (some .boolean) :: ws) ({ frames := 1, cells := 0, slots := 0, locals := 15 } : Room)) (fun av U => av = #[(.ref a), (.ref y)] ∧ Z.Warmed39 U.vm ∧ U.heap = h0) (fun _ _ _ _ _ => True) (fun _ U oc U' => ∃ v L, oc = .returned v ∧ own_QAddI Z (some (.int 1)) a x y (k + 1) (1 + 1) (vs.set 1 (.ref y)) h0 n0 v U'.heap L ∧ FrameEnd U oc U' L ({ frames := 1, cells := 0, slots := 0, locals := 15 } : Room).cells ({ frames := 1, cells := 0, slots := 0, locals := 15 } : Room).slots) := by
  refine MetFree.of_bodySF (plainFor_of_name own_pn2) hisR ?_
  intro p e s m args below meth c s₁ Bd hml0 hP hK
  obtain ⟨rfl, hZ, hh⟩ := hP
  have hx := Bd.exec
  have hby := Bd.bytes
  have hml : c.maxLocals = 2 := hml0
  have hown : s.vm.findClass "java/util/ArrayList" = some m.cls := findClass_of_methodNamed Bd.named
  have hnm := (name_of_methodNamed Bd.named Bd.method).1
  have X0 : Stand p l e ({ frames := 1, cells := 0, slots := 0, locals := 15 } : Room) s m #[(.ref a), (.ref y)] below meth c s₁ [] 0 0 := Stand.of_body Bd
  have e0 : s₁.heap = h0 := by rw [← hh, Bd.state]; rfl
  have N0 := Fr.nil n0
  have pre0 : ∀ tt, Steps p.tables e below (s₁.setTop (mkF m 0 #[.val (.ref a), .val (.ref y)] [])) tt → Steps p.tables e below (s₁.setTop (entryFrame m #[(.ref a), (.ref y)] 2)) tt := fun tt k' => castTop (own_ef_add_1 m a y) k'
  have ne_ax := ne_exa A.1 B.exa (by decide)
  obtain ⟨T1, X1, e1, st1⟩ := getF X0 hx hZ hown (host := "") (Or.inl (ow hw 42 rfl)) (Via.of (ow hw 43 rfl)) e0 A.2.1 (g := (mkF m 2 #[.val (.ref a), .val (.ref y)] [(.ref a), (.ref a)])) rfl rfl (hb hby d_38_25_2)
  obtain ⟨T2, h2, X2, e2, W2, st2⟩ := putF X1 hx hZ hown (host := "") (Or.inl (ow hw 42 rfl)) (Via.of (ow hw 43 rfl)) e1 A.2.1 A.1 (Or.inl (ow hw 22 rfl)) (ow hw 1 rfl) (ty := .int) (by decide) rfl rfl (g := (mkF m 7 #[.val (.ref a), .val (.ref y)] [(.int (k + 1)), (.ref a)])) rfl rfl (hb hby d_38_25_7)
  have N2 := Fr.snoc X2 N0 ga
  have K3_ := (Keep.refl h0 [a, x]).wr W2 (Or.inl (List.mem_of_getElem? (i := 0) rfl))
  have F2 := A.2.1.same W2
  have f5_ := (A.2.2.1.other W2 (Or.inr (slot_ne (Or.inl (ow hw 25 rfl)) (Or.inl (ow hw 22 rfl)) (by decide) (t := (.array (.object "java/lang/Object"))) (by decide) (t' := .int) (by decide))))
  obtain ⟨T4, X4, e4, st4⟩ := getF X2 hx hZ hown (host := "") (Or.inl (ow hw 24 rfl)) Via.refl e2 f5_ (g := (mkF m 13 #[.val (.ref a), .val (.ref y)] [(.ref a), (.ref y), (.ref a)])) rfl rfl (hb hby d_38_25_13)
  have f7_ := (A.2.2.2.other W2 (Or.inr (slot_ne (Or.inl (ow hw 45 rfl)) (Or.inl (ow hw 22 rfl)) (by decide) (t := .int) (by decide) (t' := .int) (by decide))))
  obtain ⟨T6, X6, e6, st6⟩ := getF X4 hx hZ hown (host := "") (Or.inl (ow hw 44 rfl)) Via.refl e4 f7_ (g := (mkF m 17 #[.val (.ref a), .val (.ref y)] [(.ref a), (.ref x), (.ref y), (.ref a)])) rfl rfl (hb hby d_38_25_17)
  have f8_ := (A.1.wr W2)
  have f9_ := (B.other W2 (Ne.symm ne_ax))
  have f10_ := (I.wr W2)
  have Z12_ := (Nat.le_trans Z0 K3_.1)
  obtain ⟨cl11, q11, q11'⟩ := (f8_).cell
  obtain ⟨_, _, ⟨T11, L11, k11, n11⟩, -, X11, ⟨Lc11, hQ11, l11, y11, z11⟩, st11⟩ := X6.privateBack hx (y := (⟨"java/util/ArrayList", "add", "(Ljava/lang/Object;[Ljava/lang/Object;I)V"⟩ : MethodName)) hown (mvT hZ (ow hw 46 rfl)) (mvT hZ (ow hw 47 rfl)) (mvT hZ (ow hw 49 rfl)) (Cond.privateMethod_at (mvP hZ (ow hw 48 rfl) (args := #[]))) (mvT hZ (ow hw 50 rfl)) (by decide) (backOf (W := 0) (own_add3_1 l Z a0 hw [] a x y (k + 1) vs hvs h2 n0 Z12_ ⟨f8_, F2, f5_, f7_⟩ ga gx f9_ f10_) hZ (ow hw 50 rfl) (ow hw 2 rfl) (by decide) (by decide)) (g := (mkF m 20 #[.val (.ref a), .val (.ref y)] [(.int 1), (.ref x), (.ref y), (.ref a)])) rfl (by rw [hml]; rfl) (Steps.refl _) (a := a) (by rw [e6]; exact q11) q11' (argsL := [(.ref y), (.ref x), (.int 1)]) (rest := []) (lenOf own_pd4 rfl) rfl (by show 2 * 0 + _ ≤ _; exact Nat.le_of_eq rfl) (hb hby d_38_25_20) (fun _ _ => ⟨rfl, e6, (by decide : 0 + 0 ≤ _), (by decide : 0 + 0 ≤ _)⟩)
  dsimp only [Pt.U, Pt.locs, Pt.cells, Pt.slots] at X11 l11 y11 z11 st11 hQ11
  subst l11 y11 z11
  obtain ⟨h11, e11⟩ : ∃ z, T11.heap = z := ⟨_, rfl⟩
  rw [e11] at hQ11
  obtain ⟨rfl, N11, K11, A11, B11⟩ := hQ11
  have N13_ := Fr.app N2 N11
  have K14_ := K3_.trans K11 (allS (Or.inl (List.mem_of_getElem? (i := 0) rfl)) (allS (Or.inl (List.mem_of_getElem? (i := 1) rfl)) all0))
  obtain ⟨fs, hr, hrun, hended, hW, hsame⟩ := X11.leave (v := some (.int 1)) (fun h => by rw [Bd.returns] at h; cases h)
  refine ⟨_, _, pre0 _ ?_, hrun, hended, _, _, rfl, ?_, ⟨_, rfl⟩, hW, hsame.mono (by decide) (by decide)⟩
  · show Steps _ _ _ (s₁.setTop (mkF m 0 #[.val (.ref a), .val (.ref y)] [])) _
    refine XS.aloadN X0.here hx rfl (hb hby d_38_25_0) rfl rfl ?_
    refine XS.dup X0.here hx rfl (hb hby d_38_25_1) rfl rfl ?_
    show Steps _ _ _ (s₁.setTop (mkF m 2 #[.val (.ref a), .val (.ref y)] [(.ref a), (.ref a)])) _
    refine st1 _ ?_
    refine XT.iconstV X1.here hx rfl 1 (hb hby d_38_25_5) rfl ?_
    show Steps _ _ _ (T1.setTop (mkF m 6 #[.val (.ref a), .val (.ref y)] [(.int 1), (.int k), (.ref a)])) _
    refine XS.iadd X1.here hx rfl (hb hby d_38_25_6) rfl ?_
    show Steps _ _ _ (T1.setTop (mkF m 7 #[.val (.ref a), .val (.ref y)] [(.int (k + 1)), (.ref a)])) _
    refine st2 _ ?_
    refine XS.aloadN X2.here hx rfl (hb hby d_38_25_10) rfl rfl ?_
    refine XS.aloadN X2.here hx rfl (hb hby d_38_25_11) rfl rfl ?_
    refine XS.aloadN X2.here hx rfl (hb hby d_38_25_12) rfl rfl ?_
    show Steps _ _ _ (T2.setTop (mkF m 13 #[.val (.ref a), .val (.ref y)] [(.ref a), (.ref y), (.ref a)])) _
    refine st4 _ ?_
    refine XS.aloadN X4.here hx rfl (hb hby d_38_25_16) rfl rfl ?_
    show Steps _ _ _ (T4.setTop (mkF m 17 #[.val (.ref a), .val (.ref y)] [(.ref a), (.ref x), (.ref y), (.ref a)])) _
    refine st6 _ ?_
    show Steps _ _ _ (T6.setTop (mkF m 20 #[.val (.ref a), .val (.ref y)] [(.int 1), (.ref x), (.ref y), (.ref a)])) _
    refine st11.trans ?_
    refine XT.iconstV X11.here hx rfl 1 (hb hby d_38_25_23) rfl ?_
    show Steps _ _ _ (T11.setTop (mkF m 24 #[.val (.ref a), .val (.ref y)] [(.int 1)])) _
    exact retOut X11 hx Bd.returns rfl (Or.inl ⟨rfl, Or.inr (Or.inl rfl), _, rfl⟩) (hb hby d_38_25_24) hr
  · show own_QAddI Z (some (.int 1)) a x y (k + 1) (1 + 1) (vs.set 1 (.ref y)) h0 n0 _ T11.heap _
    rw [e11]
    exact ⟨rfl, N13_, K14_, A11, B11⟩
theorem own_ef_add_2 (m : MethodId) (x0 : Addr) (x1 : Addr) : entryFrame m #[(.ref x0), (.ref x1)] 2 = mkF m 0 #[.val (.ref x0), .val (.ref x1)] [] := by first | (simp [entryFrame, mkF, argsToLocals, Value.category]; done) | rfl
theorem own_add_2 (l : Launch) (Z : State) (a0 : Array Value) (hw : ∀ d ∈ tables_1, d.before a0 Z = true) (ws : List Jvm.Cond) (a x y : Addr) (k : Int32) (vs : List Value) (hvs : vs.length = 10) (h0 : Heap) (n0 : Nat) (Z0 : n0 ≤ h0.size) (A : own_Al Z h0 a (.ref x) k 2) (ga : n0 ≤ a) (gx : n0 ≤ x) (B : own_Oa Z h0 x 10 vs) (I : Ins Z h0 y "java/lang/Object" true) :
    MetFree l (⟨"java/util/ArrayList", "add", "(Ljava/lang/Object;)Z"⟩ : MethodName) (head1 (Jvm.Cond.code (⟨"java/util/ArrayList", "add", "(Ljava/lang/Object;)Z"⟩ : MethodName) jdk_38_method_25_code 2 (some .boolean) :: ws) ({ frames := 1, cells := 0, slots := 0, locals := 15 } : Room)) (fun av U => av = #[(.ref a), (.ref y)] ∧ Z.Warmed39 U.vm ∧ U.heap = h0) (fun _ _ _ _ _ => True) (fun _ U oc U' => ∃ v L, oc = .returned v ∧ own_QAddI Z (some (.int 1)) a x y (k + 1) (2 + 1) (vs.set 2 (.ref y)) h0 n0 v U'.heap L ∧ FrameEnd U oc U' L ({ frames := 1, cells := 0, slots := 0, locals := 15 } : Room).cells ({ frames := 1, cells := 0, slots := 0, locals := 15 } : Room).slots) := by
  refine MetFree.of_bodySF (plainFor_of_name own_pn2) hisR ?_
  intro p e s m args below meth c s₁ Bd hml0 hP hK
  obtain ⟨rfl, hZ, hh⟩ := hP
  have hx := Bd.exec
  have hby := Bd.bytes
  have hml : c.maxLocals = 2 := hml0
  have hown : s.vm.findClass "java/util/ArrayList" = some m.cls := findClass_of_methodNamed Bd.named
  have hnm := (name_of_methodNamed Bd.named Bd.method).1
  have X0 : Stand p l e ({ frames := 1, cells := 0, slots := 0, locals := 15 } : Room) s m #[(.ref a), (.ref y)] below meth c s₁ [] 0 0 := Stand.of_body Bd
  have e0 : s₁.heap = h0 := by rw [← hh, Bd.state]; rfl
  have N0 := Fr.nil n0
  have pre0 : ∀ tt, Steps p.tables e below (s₁.setTop (mkF m 0 #[.val (.ref a), .val (.ref y)] [])) tt → Steps p.tables e below (s₁.setTop (entryFrame m #[(.ref a), (.ref y)] 2)) tt := fun tt k' => castTop (own_ef_add_2 m a y) k'
  have ne_ax := ne_exa A.1 B.exa (by decide)
  obtain ⟨T1, X1, e1, st1⟩ := getF X0 hx hZ hown (host := "") (Or.inl (ow hw 42 rfl)) (Via.of (ow hw 43 rfl)) e0 A.2.1 (g := (mkF m 2 #[.val (.ref a), .val (.ref y)] [(.ref a), (.ref a)])) rfl rfl (hb hby d_38_25_2)
  obtain ⟨T2, h2, X2, e2, W2, st2⟩ := putF X1 hx hZ hown (host := "") (Or.inl (ow hw 42 rfl)) (Via.of (ow hw 43 rfl)) e1 A.2.1 A.1 (Or.inl (ow hw 22 rfl)) (ow hw 1 rfl) (ty := .int) (by decide) rfl rfl (g := (mkF m 7 #[.val (.ref a), .val (.ref y)] [(.int (k + 1)), (.ref a)])) rfl rfl (hb hby d_38_25_7)
  have N2 := Fr.snoc X2 N0 ga
  have K3_ := (Keep.refl h0 [a, x]).wr W2 (Or.inl (List.mem_of_getElem? (i := 0) rfl))
  have F2 := A.2.1.same W2
  have f5_ := (A.2.2.1.other W2 (Or.inr (slot_ne (Or.inl (ow hw 25 rfl)) (Or.inl (ow hw 22 rfl)) (by decide) (t := (.array (.object "java/lang/Object"))) (by decide) (t' := .int) (by decide))))
  obtain ⟨T4, X4, e4, st4⟩ := getF X2 hx hZ hown (host := "") (Or.inl (ow hw 24 rfl)) Via.refl e2 f5_ (g := (mkF m 13 #[.val (.ref a), .val (.ref y)] [(.ref a), (.ref y), (.ref a)])) rfl rfl (hb hby d_38_25_13)
  have f7_ := (A.2.2.2.other W2 (Or.inr (slot_ne (Or.inl (ow hw 45 rfl)) (Or.inl (ow hw 22 rfl)) (by decide) (t := .int) (by decide) (t' := .int) (by decide))))
  obtain ⟨T6, X6, e6, st6⟩ := getF X4 hx hZ hown (host := "") (Or.inl (ow hw 44 rfl)) Via.refl e4 f7_ (g := (mkF m 17 #[.val (.ref a), .val (.ref y)] [(.ref a), (.ref x), (.ref y), (.ref a)])) rfl rfl (hb hby d_38_25_17)
  have f8_ := (A.1.wr W2)
  have f9_ := (B.other W2 (Ne.symm ne_ax))
  have f10_ := (I.wr W2)
  have Z12_ := (Nat.le_trans Z0 K3_.1)
  obtain ⟨cl11, q11, q11'⟩ := (f8_).cell
  obtain ⟨_, _, ⟨T11, L11, k11, n11⟩, -, X11, ⟨Lc11, hQ11, l11, y11, z11⟩, st11⟩ := X6.privateBack hx (y := (⟨"java/util/ArrayList", "add", "(Ljava/lang/Object;[Ljava/lang/Object;I)V"⟩ : MethodName)) hown (mvT hZ (ow hw 46 rfl)) (mvT hZ (ow hw 47 rfl)) (mvT hZ (ow hw 49 rfl)) (Cond.privateMethod_at (mvP hZ (ow hw 48 rfl) (args := #[]))) (mvT hZ (ow hw 50 rfl)) (by decide) (backOf (W := 0) (own_add3_2 l Z a0 hw [] a x y (k + 1) vs hvs h2 n0 Z12_ ⟨f8_, F2, f5_, f7_⟩ ga gx f9_ f10_) hZ (ow hw 50 rfl) (ow hw 2 rfl) (by decide) (by decide)) (g := (mkF m 20 #[.val (.ref a), .val (.ref y)] [(.int 2), (.ref x), (.ref y), (.ref a)])) rfl (by rw [hml]; rfl) (Steps.refl _) (a := a) (by rw [e6]; exact q11) q11' (argsL := [(.ref y), (.ref x), (.int 2)]) (rest := []) (lenOf own_pd4 rfl) rfl (by show 2 * 0 + _ ≤ _; exact Nat.le_of_eq rfl) (hb hby d_38_25_20) (fun _ _ => ⟨rfl, e6, (by decide : 0 + 0 ≤ _), (by decide : 0 + 0 ≤ _)⟩)
  dsimp only [Pt.U, Pt.locs, Pt.cells, Pt.slots] at X11 l11 y11 z11 st11 hQ11
  subst l11 y11 z11
  obtain ⟨h11, e11⟩ : ∃ z, T11.heap = z := ⟨_, rfl⟩
  rw [e11] at hQ11
  obtain ⟨rfl, N11, K11, A11, B11⟩ := hQ11
  have N13_ := Fr.app N2 N11
  have K14_ := K3_.trans K11 (allS (Or.inl (List.mem_of_getElem? (i := 0) rfl)) (allS (Or.inl (List.mem_of_getElem? (i := 1) rfl)) all0))
  obtain ⟨fs, hr, hrun, hended, hW, hsame⟩ := X11.leave (v := some (.int 1)) (fun h => by rw [Bd.returns] at h; cases h)
  refine ⟨_, _, pre0 _ ?_, hrun, hended, _, _, rfl, ?_, ⟨_, rfl⟩, hW, hsame.mono (by decide) (by decide)⟩
  · show Steps _ _ _ (s₁.setTop (mkF m 0 #[.val (.ref a), .val (.ref y)] [])) _
    refine XS.aloadN X0.here hx rfl (hb hby d_38_25_0) rfl rfl ?_
    refine XS.dup X0.here hx rfl (hb hby d_38_25_1) rfl rfl ?_
    show Steps _ _ _ (s₁.setTop (mkF m 2 #[.val (.ref a), .val (.ref y)] [(.ref a), (.ref a)])) _
    refine st1 _ ?_
    refine XT.iconstV X1.here hx rfl 1 (hb hby d_38_25_5) rfl ?_
    show Steps _ _ _ (T1.setTop (mkF m 6 #[.val (.ref a), .val (.ref y)] [(.int 1), (.int k), (.ref a)])) _
    refine XS.iadd X1.here hx rfl (hb hby d_38_25_6) rfl ?_
    show Steps _ _ _ (T1.setTop (mkF m 7 #[.val (.ref a), .val (.ref y)] [(.int (k + 1)), (.ref a)])) _
    refine st2 _ ?_
    refine XS.aloadN X2.here hx rfl (hb hby d_38_25_10) rfl rfl ?_
    refine XS.aloadN X2.here hx rfl (hb hby d_38_25_11) rfl rfl ?_
    refine XS.aloadN X2.here hx rfl (hb hby d_38_25_12) rfl rfl ?_
    show Steps _ _ _ (T2.setTop (mkF m 13 #[.val (.ref a), .val (.ref y)] [(.ref a), (.ref y), (.ref a)])) _
    refine st4 _ ?_
    refine XS.aloadN X4.here hx rfl (hb hby d_38_25_16) rfl rfl ?_
    show Steps _ _ _ (T4.setTop (mkF m 17 #[.val (.ref a), .val (.ref y)] [(.ref a), (.ref x), (.ref y), (.ref a)])) _
    refine st6 _ ?_
    show Steps _ _ _ (T6.setTop (mkF m 20 #[.val (.ref a), .val (.ref y)] [(.int 2), (.ref x), (.ref y), (.ref a)])) _
    refine st11.trans ?_
    refine XT.iconstV X11.here hx rfl 1 (hb hby d_38_25_23) rfl ?_
    show Steps _ _ _ (T11.setTop (mkF m 24 #[.val (.ref a), .val (.ref y)] [(.int 1)])) _
    exact retOut X11 hx Bd.returns rfl (Or.inl ⟨rfl, Or.inr (Or.inl rfl), _, rfl⟩) (hb hby d_38_25_24) hr
  · show own_QAddI Z (some (.int 1)) a x y (k + 1) (2 + 1) (vs.set 2 (.ref y)) h0 n0 _ T11.heap _
    rw [e11]
    exact ⟨rfl, N13_, K14_, A11, B11⟩
end OwnA
/-! ## The contracts of the JDK's bodies, II: the copies (printed by gen302_c.py) -/
section OwnC
def own_QCp (Z : State) (n : Int32) (us : List Value) (h0 : Heap) (n0 : Nat) (v : Option Value) (h : Heap) (L : List Loc) : Prop := ∃ x, v = some (.ref x) ∧ Fr n0 L ∧ Keep h0 h [] ∧ h0.size ≤ x ∧ own_Oa Z h x n us
def own_L12 (Z : State) (h : Heap) (o : Addr) (v0 v1 : Value) : Prop := Exa Z h o "java/util/ImmutableCollections$List12" ∧ Fld Z h o "java/util/ImmutableCollections$List12" "e0" "Ljava/lang/Object;" v0 ∧ Fld Z h o "java/util/ImmutableCollections$List12" "e1" "Ljava/lang/Object;" v1
def own_LN (Z : State) (h : Heap) (o : Addr) (v0 v1 : Value) : Prop := Exa Z h o "java/util/ImmutableCollections$ListN" ∧ Fld Z h o "java/util/ImmutableCollections$ListN" "elements" "[Ljava/lang/Object;" v0 ∧ Fld Z h o "java/util/ImmutableCollections$ListN" "allowNulls" "Z" v1
def own_QL12 (Z : State) (o : Addr) (v0 v1 : Value) (h0 : Heap) (n0 : Nat) (v : Option Value) (h : Heap) (L : List Loc) : Prop := v = none ∧ Fr n0 L ∧ Keep h0 h [o] ∧ own_L12 Z h o v0 v1
def own_QLN (Z : State) (o : Addr) (v0 v1 : Value) (h0 : Heap) (n0 : Nat) (v : Option Value) (h : Heap) (L : List Loc) : Prop := v = none ∧ Fr n0 L ∧ Keep h0 h [o] ∧ own_LN Z h o v0 v1
def own_IL (Z : State) (EL EM : Addr) (h : Heap) (r : Addr) : List Addr → Prop
  | [] => r = EL
  | [x] => own_L12 Z h r (.ref x) (.ref EM)
  | [x, y] => own_L12 Z h r (.ref x) (.ref y) ∧ y ≠ EM
  | [x, y, z] => ∃ q, own_LN Z h r (.ref q) (.int 0) ∧ own_Oa Z h q 3 [.ref x, .ref y, .ref z]
  | _ => False
def own_QIL (Z : State) (EL EM : Addr) (xs : List Addr) (h0 : Heap) (n0 : Nat) (v : Option Value) (h : Heap) (L : List Loc) : Prop := ∃ r, v = some (.ref r) ∧ Fr n0 L ∧ Keep h0 h [] ∧ own_IL Z EL EM h r xs
def own_CL (Z : State) (D : Addr) (h : Heap) (a : Addr) : List Addr → Prop
  | [] => ∃ k, own_Al Z h a (.ref D) k 0
  | [x] => ∃ k q r, own_Al Z h a (.ref q) k 1 ∧ own_Oa Z h q 10 (.ref x :: r) ∧ Ins Z h x "java/lang/Object" true
  | [x, y] => ∃ k q r, own_Al Z h a (.ref q) k 2 ∧ own_Oa Z h q 10 (.ref x :: .ref y :: r) ∧ Ins Z h x "java/lang/Object" true ∧ Ins Z h y "java/lang/Object" true
  | [x, y, z] => ∃ k q r, own_Al Z h a (.ref q) k 3 ∧ own_Oa Z h q 10 (.ref x :: .ref y :: .ref z :: r) ∧ Ins Z h x "java/lang/Object" true ∧ Ins Z h y "java/lang/Object" true ∧ Ins Z h z "java/lang/Object" true
  | _ => False
theorem own_pn4 : plainName "java/util/Arrays" = true := by first | (simp [plainName, overriddenIn]; done) | decide +kernel
theorem d_65_120_0 : decode jdk_65_method_120_code 0 = .ok (.aload_n 2, 1) := by decide +kernel
theorem d_65_120_1 : decode jdk_65_method_120_code 1 = .ok (.ldc 110, 2) := by decide +kernel
theorem d_65_120_3 : decode jdk_65_method_120_code 3 = .ok (.if_acmp .ne 10, 3) := by decide +kernel
theorem d_65_120_6 : decode jdk_65_method_120_code 6 = .ok (.iload_n 1, 1) := by decide +kernel
theorem d_65_120_7 : decode jdk_65_method_120_code 7 = .ok (.anewarray 2, 3) := by decide +kernel
theorem d_65_120_10 : decode jdk_65_method_120_code 10 = .ok (.goto 14, 3) := by decide +kernel
theorem d_65_120_24 : decode jdk_65_method_120_code 24 = .ok (.astore_n 3, 1) := by decide +kernel
theorem d_65_120_25 : decode jdk_65_method_120_code 25 = .ok (.aload_n 0, 1) := by decide +kernel
theorem d_65_120_26 : decode jdk_65_method_120_code 26 = .ok (.iconst 0, 1) := by decide +kernel
theorem d_65_120_27 : decode jdk_65_method_120_code 27 = .ok (.aload_n 3, 1) := by decide +kernel
theorem d_65_120_28 : decode jdk_65_method_120_code 28 = .ok (.iconst 0, 1) := by decide +kernel
theorem d_65_120_29 : decode jdk_65_method_120_code 29 = .ok (.aload_n 0, 1) := by decide +kernel
theorem d_65_120_30 : decode jdk_65_method_120_code 30 = .ok (.arraylength, 1) := by decide +kernel
theorem d_65_120_31 : decode jdk_65_method_120_code 31 = .ok (.iload_n 1, 1) := by decide +kernel
theorem d_65_120_32 : decode jdk_65_method_120_code 32 = .ok (.invokestatic 304, 3) := by decide +kernel
theorem d_65_120_35 : decode jdk_65_method_120_code 35 = .ok (.invokestatic 150, 3) := by decide +kernel
theorem d_65_120_38 : decode jdk_65_method_120_code 38 = .ok (.aload_n 3, 1) := by decide +kernel
theorem d_65_120_39 : decode jdk_65_method_120_code 39 = .ok (.areturn, 1) := by decide +kernel
theorem own_ef_cp3_1 (m : MethodId) (x0 : Addr) (x1 : Int32) (x2 : Addr) : entryFrame m #[(.ref x0), (.int x1), (.ref x2)] 4 = mkF m 0 #[.val (.ref x0), .val (.int x1), .val (.ref x2), .unset] [] := by first | (simp [entryFrame, mkF, argsToLocals, Value.category]; done) | rfl
theorem own_cp3_1 (l : Launch) (Z : State) (a0 : Array Value) (hw : ∀ d ∈ tables_1, d.before a0 Z = true) (ws : List Jvm.Cond) {D IC EL EE EM MO b0 b1 : Addr} {cD cI cE : Cell} (G : own_G Z D IC EL EE EM MO b0 b1 cD cI cE) (x y1 : Addr) (r : List Value) (h0 : Heap) (n0 : Nat) (Z0 : n0 ≤ h0.size) (B : own_Oa Z h0 x 10 (.ref y1 :: r)) (I1 : Ins Z h0 y1 "java/lang/Object" true) :
    MetFree l (⟨"java/util/Arrays", "copyOf", "([Ljava/lang/Object;ILjava/lang/Class;)[Ljava/lang/Object;"⟩ : MethodName) (head1 (Jvm.Cond.code (⟨"java/util/Arrays", "copyOf", "([Ljava/lang/Object;ILjava/lang/Class;)[Ljava/lang/Object;"⟩ : MethodName) jdk_65_method_120_code 4 (some (.array (.object "java/lang/Object"))) :: ws) ({ frames := 1, cells := 1, slots := 1, locals := 18 } : Room)) (fun av U => av = #[(.ref x), (.int 1), (.ref MO)] ∧ Z.Warmed39 U.vm ∧ U.heap = h0) (fun _ _ _ _ _ => True) (fun _ U oc U' => ∃ v L, oc = .returned v ∧ own_QCp Z 1 [.ref y1] h0 n0 v U'.heap L ∧ FrameEnd U oc U' L ({ frames := 1, cells := 1, slots := 1, locals := 18 } : Room).cells ({ frames := 1, cells := 1, slots := 1, locals := 18 } : Room).slots) := by
  refine MetFree.of_bodySF (plainFor_of_name own_pn4) hisR ?_
  intro p e s m args below meth c s₁ Bd hml0 hP hK
  obtain ⟨rfl, hZ, hh⟩ := hP
  have hx := Bd.exec
  have hby := Bd.bytes
  have hml : c.maxLocals = 4 := hml0
  have hown : s.vm.findClass "java/util/Arrays" = some m.cls := findClass_of_methodNamed Bd.named
  have hnm := (name_of_methodNamed Bd.named Bd.method).1
  have X0 : Stand p l e ({ frames := 1, cells := 1, slots := 1, locals := 18 } : Room) s m #[(.ref x), (.int 1), (.ref MO)] below meth c s₁ [] 0 0 := Stand.of_body Bd
  have e0 : s₁.heap = h0 := by rw [← hh, Bd.state]; rfl
  have N0 := Fr.nil n0
  have pre0 : ∀ tt, Steps p.tables e below (s₁.setTop (mkF m 0 #[.val (.ref x), .val (.int 1), .val (.ref MO), .unset] [])) tt → Steps p.tables e below (s₁.setTop (entryFrame m #[(.ref x), (.int 1), (.ref MO)] 4)) tt := fun tt k' => castTop (own_ef_cp3_1 m x 1 MO) k'
  obtain ⟨vm1, X1, st1⟩ := X0.ldcMirror hx hown (mvT hZ (ow hw 135 rfl)) (own_mirE hZ G.2.2.2.2.2) (g := (mkF m 1 #[.val (.ref x), .val (.int 1), .val (.ref MO), .unset] [(.ref MO)])) rfl (hb hby d_65_120_1)
  have ltx := B.lt
  obtain ⟨T2, h2, X2, e2, E2, A2, st2⟩ := own_newOa X1 hx hZ hown (ow hw 136 rfl) (ow hw 66 rfl) e0 (g := (mkF m 7 #[.val (.ref x), .val (.int 1), .val (.ref MO), .unset] [(.int 1)])) rfl (hb hby d_65_120_7) rfl (by decide) (cap := 1) rfl (by decide) (by decide) (by decide)
  obtain ⟨z, go_z⟩ : ∃ z, z = h0.size := ⟨_, rfl⟩
  rw [← go_z] at A2 st2
  have gh_z := (Nat.le_of_eq go_z.symm : h0.size ≤ z)
  have ge_z := Nat.le_trans Z0 gh_z
  have K3_ := (Keep.refl h0 []).ext E2
  have ne4_ := (Nat.ne_of_lt (Nat.lt_of_lt_of_le ltx (Nat.le_of_eq go_z.symm)) : x ≠ z)
  have f5_ := (B.ext E2)
  obtain ⟨kx, Ax, -⟩ := id f5_
  have Z7_ := (Nat.le_trans Z0 K3_.1)
  obtain ⟨_, _, ⟨T6, L6, k6, n6⟩, -, X6, ⟨Lc6, hQ6, l6, y6, z6⟩, st6⟩ := Jvm.LawKit.callS X2 hx (y := (⟨"java/lang/Math", "min", "(II)I"⟩ : MethodName)) hown (mvT hZ (ow hw 137 rfl)) (mvT hZ (ow hw 138 rfl)) (mvT hZ (ow hw 63 rfl)) (mvT hZ (ow hw 139 rfl)) (by decide) (backOf (W := 4) (own_min l Z a0 hw [] 10 1 (by decide) h2 n0 Z7_) hZ (ow hw 139 rfl) (ow hw 63 rfl) (by decide) (by decide)) (g := (mkF m 32 #[.val (.ref x), .val (.int 1), .val (.ref MO), .val (.ref z)] [(.int 1), (.int 10), (.int 0), (.ref z), (.int 0), (.ref x)])) rfl (by rw [hml]; rfl) (argsL := [(.int 10), (.int 1)]) (rest := [(.int 0), (.ref z), (.int 0), (.ref x)]) (lenOf own_pd1 rfl) rfl (by show 2 * 0 + _ ≤ _; exact Nat.le_of_eq rfl) (hb hby d_65_120_32) (fun _ _ => ⟨rfl, e2, (by decide : 1 + 0 ≤ _), (by decide : 1 + 0 ≤ _)⟩)
  dsimp only [Pt.U, Pt.locs, Pt.cells, Pt.slots] at X6 l6 y6 z6 st6 hQ6
  subst l6 y6 z6
  obtain ⟨rfl, N6, e6⟩ := hQ6
  have N8_ := Fr.app N0 N6
  have f10_ := (I1.ext E2)
  obtain ⟨ka, Aa, Oa_, Ea⟩ := id f5_
  obtain ⟨kb, Ab, Ob, Eb⟩ := id A2
  obtain ⟨cb, Cb, qb, -⟩ := id Ab
  obtain ⟨T9, h9, L9, X9, e9, N9, K9, B9, st9⟩ := cpA X6 hx hZ hown (ow hw 140 rfl) (ow hw 143 rfl) (ow hw 141 rfl) (ow hw 142 rfl) e6 (us := [.ref y1]) Aa Ab (Or.inr ⟨rfl, rfl, ⟨Sto.ofV Cb qb Ob f10_, trivial⟩⟩) (by decide) (by decide) (by decide) (by decide) (by decide) rfl (by decide) N8_ ge_z (g := (mkF m 35 #[.val (.ref x), .val (.int 1), .val (.ref MO), .val (.ref z)] [(.int 1), (.int 0), (.ref z), (.int 0), (.ref x)])) rfl (by rw [hml]; rfl) rfl (hb hby d_65_120_35) (by decide) (W := 0) (by show 2 * 0 + _ ≤ _; exact Nat.le_of_eq rfl) (by decide)
  have K11_ := K3_.trans K9 (allS (Or.inr gh_z) all0)
  have F9 : own_Oa Z h9 z 1 [.ref y1] := ⟨kb, B9, Ob, Eb.keep K9⟩
  obtain ⟨fs, hr, hrun, hended, hW, hsame⟩ := X9.leave (v := some (.ref z)) (fun h => by rw [Bd.returns] at h; cases h)
  refine ⟨_, _, pre0 _ ?_, hrun, hended, _, _, rfl, ?_, ⟨_, rfl⟩, hW, hsame.mono (by decide) (by decide)⟩
  · show Steps _ _ _ (s₁.setTop (mkF m 0 #[.val (.ref x), .val (.int 1), .val (.ref MO), .unset] [])) _
    refine XS.aloadN X0.here hx rfl (hb hby d_65_120_0) rfl rfl ?_
    show Steps _ _ _ (s₁.setTop (mkF m 1 #[.val (.ref x), .val (.int 1), .val (.ref MO), .unset] [(.ref MO)])) _
    refine st1 _ ?_
    show Steps _ _ _ ((s₁.setVm vm1).setTop (mkF m 3 #[.val (.ref x), .val (.int 1), .val (.ref MO), .unset] [(.ref MO), (.ref MO)])) _
    refine Jvm.RoadKit.acmp (g := (mkF m 3 #[.val (.ref x), .val (.int 1), .val (.ref MO), .unset] [(.ref MO), (.ref MO)])) X1 hx rfl rfl rfl (pc0 := 3) (pc' := 6) (same := true) rfl (hb hby d_65_120_3) rfl (decide_eq_true rfl) (by decide) (by decide) ?_
    refine XS.iloadN X1.here hx rfl (hb hby d_65_120_6) rfl ?_
    show Steps _ _ _ ((s₁.setVm vm1).setTop (mkF m 7 #[.val (.ref x), .val (.int 1), .val (.ref MO), .unset] [(.int 1)])) _
    refine st2 _ ?_
    show Steps _ _ _ (T2.setTop (mkF m 10 #[.val (.ref x), .val (.int 1), .val (.ref MO), .unset] [(.ref z)])) _
    refine XS.goto X2.here hx rfl rfl (hb hby d_65_120_10) (show (0 : Int) ≤ ((10 : Nat) : Int) + (14) by decide) (show (((10 : Nat) : Int) + (14)).toNat = 24 by decide) ?_
    show Steps _ _ _ (T2.setTop (mkF m 24 #[.val (.ref x), .val (.int 1), .val (.ref MO), .unset] [(.ref z)])) _
    refine XS.astoreN X2.here hx rfl (hb hby d_65_120_24) rfl rfl rfl ?_
    refine XS.aloadN X2.here hx rfl (hb hby d_65_120_25) rfl rfl ?_
    refine XT.iconstV X2.here hx rfl 0 (hb hby d_65_120_26) rfl ?_
    refine XS.aloadN X2.here hx rfl (hb hby d_65_120_27) rfl rfl ?_
    refine XT.iconstV X2.here hx rfl 0 (hb hby d_65_120_28) rfl ?_
    refine XS.aloadN X2.here hx rfl (hb hby d_65_120_29) rfl rfl ?_
    show Steps _ _ _ (T2.setTop (mkF m 30 #[.val (.ref x), .val (.int 1), .val (.ref MO), .val (.ref z)] [(.ref x), (.int 0), (.ref z), (.int 0), (.ref x)])) _
    refine own_len X2 hx hZ e2 Ax (g := (mkF m 30 #[.val (.ref x), .val (.int 1), .val (.ref MO), .val (.ref z)] [(.ref x), (.int 0), (.ref z), (.int 0), (.ref x)])) rfl rfl (hb hby d_65_120_30) _ ?_
    refine XS.iloadN X2.here hx rfl (hb hby d_65_120_31) rfl ?_
    show Steps _ _ _ (T2.setTop (mkF m 32 #[.val (.ref x), .val (.int 1), .val (.ref MO), .val (.ref z)] [(.int 1), (.int 10), (.int 0), (.ref z), (.int 0), (.ref x)])) _
    refine st6 _ ?_
    show Steps _ _ _ (T6.setTop (mkF m 35 #[.val (.ref x), .val (.int 1), .val (.ref MO), .val (.ref z)] [(.int 1), (.int 0), (.ref z), (.int 0), (.ref x)])) _
    refine st9 _ ?_
    refine XS.aloadN X9.here hx rfl (hb hby d_65_120_38) rfl rfl ?_
    show Steps _ _ _ (T9.setTop (mkF m 39 #[.val (.ref x), .val (.int 1), .val (.ref MO), .val (.ref z)] [(.ref z)])) _
    exact retOut X9 hx Bd.returns rfl (Or.inr (Or.inr (Or.inr (Or.inr ⟨rfl, rfl, rfl⟩)))) (hb hby d_65_120_39) hr
  · show own_QCp Z 1 [.ref y1] h0 n0 _ T9.heap _
    rw [e9]
    exact ⟨z, rfl, N9, K11_, gh_z, F9⟩
theorem own_pd5 : parseMethodDescriptor "([Ljava/lang/Object;ILjava/lang/Class;)[Ljava/lang/Object;" = some ⟨[(.array (.object "java/lang/Object")), .int, (.object "java/lang/Class")], some (.array (.object "java/lang/Object"))⟩ := by decide +kernel
theorem d_65_119_0 : decode jdk_65_method_119_code 0 = .ok (.aload_n 0, 1) := by decide +kernel
theorem d_65_119_1 : decode jdk_65_method_119_code 1 = .ok (.iload_n 1, 1) := by decide +kernel
theorem d_65_119_2 : decode jdk_65_method_119_code 2 = .ok (.aload_n 0, 1) := by decide +kernel
theorem d_65_119_3 : decode jdk_65_method_119_code 3 = .ok (.invokevirtual 86, 3) := by decide +kernel
theorem d_65_119_6 : decode jdk_65_method_119_code 6 = .ok (.invokestatic 300, 3) := by decide +kernel
theorem d_65_119_9 : decode jdk_65_method_119_code 9 = .ok (.areturn, 1) := by decide +kernel
theorem own_ef_cp2_1 (m : MethodId) (x0 : Addr) (x1 : Int32) : entryFrame m #[(.ref x0), (.int x1)] 2 = mkF m 0 #[.val (.ref x0), .val (.int x1)] [] := by first | (simp [entryFrame, mkF, argsToLocals, Value.category]; done) | rfl
theorem own_cp2_1 (l : Launch) (Z : State) (a0 : Array Value) (hw : ∀ d ∈ tables_1, d.before a0 Z = true) (ws : List Jvm.Cond) {D IC EL EE EM MO b0 b1 : Addr} {cD cI cE : Cell} (G : own_G Z D IC EL EE EM MO b0 b1 cD cI cE) (x y1 : Addr) (r : List Value) (h0 : Heap) (n0 : Nat) (Z0 : n0 ≤ h0.size) (B : own_Oa Z h0 x 10 (.ref y1 :: r)) (I1 : Ins Z h0 y1 "java/lang/Object" true) :
    MetFree l (⟨"java/util/Arrays", "copyOf", "([Ljava/lang/Object;I)[Ljava/lang/Object;"⟩ : MethodName) (head1 (Jvm.Cond.code (⟨"java/util/Arrays", "copyOf", "([Ljava/lang/Object;I)[Ljava/lang/Object;"⟩ : MethodName) jdk_65_method_119_code 2 (some (.array (.object "java/lang/Object"))) :: ws) ({ frames := 2, cells := 1, slots := 1, locals := 33 } : Room)) (fun av U => av = #[(.ref x), (.int 1)] ∧ Z.Warmed39 U.vm ∧ U.heap = h0) (fun _ _ _ _ _ => True) (fun _ U oc U' => ∃ v L, oc = .returned v ∧ own_QCp Z 1 [.ref y1] h0 n0 v U'.heap L ∧ FrameEnd U oc U' L ({ frames := 2, cells := 1, slots := 1, locals := 33 } : Room).cells ({ frames := 2, cells := 1, slots := 1, locals := 33 } : Room).slots) := by
  refine MetFree.of_bodySF (plainFor_of_name own_pn4) hisR ?_
  intro p e s m args below meth c s₁ Bd hml0 hP hK
  obtain ⟨rfl, hZ, hh⟩ := hP
  have hx := Bd.exec
  have hby := Bd.bytes
  have hml : c.maxLocals = 2 := hml0
  have hown : s.vm.findClass "java/util/Arrays" = some m.cls := findClass_of_methodNamed Bd.named
  have hnm := (name_of_methodNamed Bd.named Bd.method).1
  have X0 : Stand p l e ({ frames := 2, cells := 1, slots := 1, locals := 33 } : Room) s m #[(.ref x), (.int 1)] below meth c s₁ [] 0 0 := Stand.of_body Bd
  have e0 : s₁.heap = h0 := by rw [← hh, Bd.state]; rfl
  have N0 := Fr.nil n0
  have pre0 : ∀ tt, Steps p.tables e below (s₁.setTop (mkF m 0 #[.val (.ref x), .val (.int 1)] [])) tt → Steps p.tables e below (s₁.setTop (entryFrame m #[(.ref x), (.int 1)] 2)) tt := fun tt k' => castTop (own_ef_cp2_1 m x 1) k'
  obtain ⟨T1, X1, e1, st1⟩ := gcls X0 hx hZ hown (ow hw 126 rfl) (ow hw 127 rfl) (ow hw 97 rfl) (ow hw 129 rfl) (ow hw 128 rfl) (ow hw 130 rfl) e0 B.exa G.2.2.2.2.2 (g := (mkF m 3 #[.val (.ref x), .val (.int 1)] [(.ref x), (.int 1), (.ref x)])) rfl (by rw [hml]; rfl) rfl (hb hby d_65_119_3) (by decide) (W := 2) (by show 2 * 0 + _ ≤ _; exact Nat.le_of_eq rfl) (by decide)
  obtain ⟨_, _, ⟨T2, L2, k2, n2⟩, -, X2, ⟨Lc2, hQ2, l2, y2, z2⟩, st2⟩ := Jvm.LawKit.callS X1 hx (y := (⟨"java/util/Arrays", "copyOf", "([Ljava/lang/Object;ILjava/lang/Class;)[Ljava/lang/Object;"⟩ : MethodName)) hown (mvT hZ (ow hw 132 rfl)) (mvT hZ (ow hw 133 rfl)) (mvT hZ (ow hw 124 rfl)) (mvT hZ (ow hw 134 rfl)) (by decide) (backOf (W := 0) (own_cp3_1 l Z a0 hw [] G x y1 r h0 n0 Z0 B I1) hZ (ow hw 134 rfl) (ow hw 124 rfl) (by decide) (by decide)) (g := (mkF m 6 #[.val (.ref x), .val (.int 1)] [(.ref MO), (.int 1), (.ref x)])) rfl (by rw [hml]; rfl) (argsL := [(.ref x), (.int 1), (.ref MO)]) (rest := []) (lenOf own_pd5 rfl) rfl (by show 2 * 0 + _ ≤ _; exact Nat.le_of_eq rfl) (hb hby d_65_119_6) (fun _ _ => ⟨rfl, e1, (by decide : 0 + 1 ≤ _), (by decide : 0 + 1 ≤ _)⟩)
  dsimp only [Pt.U, Pt.locs, Pt.cells, Pt.slots] at X2 l2 y2 z2 st2 hQ2
  subst l2 y2 z2
  obtain ⟨h2, e2⟩ : ∃ z, T2.heap = z := ⟨_, rfl⟩
  rw [e2] at hQ2
  obtain ⟨z2, rfl, N2, K2, g2, F2⟩ := hQ2
  have N3_ := Fr.app N0 N2
  have K4_ := (Keep.refl h0 []).trans K2 all0
  obtain ⟨fs, hr, hrun, hended, hW, hsame⟩ := X2.leave (v := some (.ref z2)) (fun h => by rw [Bd.returns] at h; cases h)
  refine ⟨_, _, pre0 _ ?_, hrun, hended, _, _, rfl, ?_, ⟨_, rfl⟩, hW, hsame.mono (by decide) (by decide)⟩
  · show Steps _ _ _ (s₁.setTop (mkF m 0 #[.val (.ref x), .val (.int 1)] [])) _
    refine XS.aloadN X0.here hx rfl (hb hby d_65_119_0) rfl rfl ?_
    refine XS.iloadN X0.here hx rfl (hb hby d_65_119_1) rfl ?_
    refine XS.aloadN X0.here hx rfl (hb hby d_65_119_2) rfl rfl ?_
    show Steps _ _ _ (s₁.setTop (mkF m 3 #[.val (.ref x), .val (.int 1)] [(.ref x), (.int 1), (.ref x)])) _
    refine st1 _ ?_
    show Steps _ _ _ (T1.setTop (mkF m 6 #[.val (.ref x), .val (.int 1)] [(.ref MO), (.int 1), (.ref x)])) _
    refine st2 _ ?_
    show Steps _ _ _ (T2.setTop (mkF m 9 #[.val (.ref x), .val (.int 1)] [(.ref z2)])) _
    exact retOut X2 hx Bd.returns rfl (Or.inr (Or.inr (Or.inr (Or.inr ⟨rfl, rfl, rfl⟩)))) (hb hby d_65_119_9) hr
  · show own_QCp Z 1 [.ref y1] h0 n0 _ T2.heap _
    rw [e2]
    exact ⟨z2, rfl, N3_, K4_, g2, F2⟩
theorem own_pd6 : parseMethodDescriptor "([Ljava/lang/Object;I)[Ljava/lang/Object;" = some ⟨[(.array (.object "java/lang/Object")), .int], some (.array (.object "java/lang/Object"))⟩ := by decide +kernel
theorem d_38_16_0 : decode jdk_38_method_16_code 0 = .ok (.aload_n 0, 1) := by decide +kernel
theorem d_38_16_1 : decode jdk_38_method_16_code 1 = .ok (.getfield 9, 3) := by decide +kernel
theorem d_38_16_4 : decode jdk_38_method_16_code 4 = .ok (.aload_n 0, 1) := by decide +kernel
theorem d_38_16_5 : decode jdk_38_method_16_code 5 = .ok (.getfield 48, 3) := by decide +kernel
theorem d_38_16_8 : decode jdk_38_method_16_code 8 = .ok (.invokestatic 66, 3) := by decide +kernel
theorem d_38_16_11 : decode jdk_38_method_16_code 11 = .ok (.areturn, 1) := by decide +kernel
theorem own_ef_toA_1 (m : MethodId) (x0 : Addr) : entryFrame m #[(.ref x0)] 1 = mkF m 0 #[.val (.ref x0)] [] := by first | (simp [entryFrame, mkF, argsToLocals, Value.category]; done) | rfl
theorem own_toA_1 (l : Launch) (Z : State) (a0 : Array Value) (hw : ∀ d ∈ tables_1, d.before a0 Z = true) (ws : List Jvm.Cond) {D IC EL EE EM MO b0 b1 : Addr} {cD cI cE : Cell} (G : own_G Z D IC EL EE EM MO b0 b1 cD cI cE) (a : Addr) (k : Int32) (x y1 : Addr) (r : List Value) (h0 : Heap) (n0 : Nat) (Z0 : n0 ≤ h0.size) (A : own_Al Z h0 a (.ref x) k 1) (B : own_Oa Z h0 x 10 (.ref y1 :: r)) (I1 : Ins Z h0 y1 "java/lang/Object" true) :
    MetFree l (⟨"java/util/ArrayList", "toArray", "()[Ljava/lang/Object;"⟩ : MethodName) (head1 (Jvm.Cond.code (⟨"java/util/ArrayList", "toArray", "()[Ljava/lang/Object;"⟩ : MethodName) jdk_38_method_16_code 1 (some (.array (.object "java/lang/Object"))) :: ws) ({ frames := 3, cells := 1, slots := 1, locals := 46 } : Room)) (fun av U => av = #[(.ref a)] ∧ Z.Warmed39 U.vm ∧ U.heap = h0) (fun _ _ _ _ _ => True) (fun _ U oc U' => ∃ v L, oc = .returned v ∧ own_QCp Z 1 [.ref y1] h0 n0 v U'.heap L ∧ FrameEnd U oc U' L ({ frames := 3, cells := 1, slots := 1, locals := 46 } : Room).cells ({ frames := 3, cells := 1, slots := 1, locals := 46 } : Room).slots) := by
  refine MetFree.of_bodySF (plainFor_of_name own_pn2) hisR ?_
  intro p e s m args below meth c s₁ Bd hml0 hP hK
  obtain ⟨rfl, hZ, hh⟩ := hP
  have hx := Bd.exec
  have hby := Bd.bytes
  have hml : c.maxLocals = 1 := hml0
  have hown : s.vm.findClass "java/util/ArrayList" = some m.cls := findClass_of_methodNamed Bd.named
  have hnm := (name_of_methodNamed Bd.named Bd.method).1
  have X0 : Stand p l e ({ frames := 3, cells := 1, slots := 1, locals := 46 } : Room) s m #[(.ref a)] below meth c s₁ [] 0 0 := Stand.of_body Bd
  have e0 : s₁.heap = h0 := by rw [← hh, Bd.state]; rfl
  have N0 := Fr.nil n0
  have pre0 : ∀ tt, Steps p.tables e below (s₁.setTop (mkF m 0 #[.val (.ref a)] [])) tt → Steps p.tables e below (s₁.setTop (entryFrame m #[(.ref a)] 1)) tt := fun tt k' => castTop (own_ef_toA_1 m a) k'
  obtain ⟨T1, X1, e1, st1⟩ := getF X0 hx hZ hown (host := "") (Or.inl (ow hw 24 rfl)) Via.refl e0 A.2.2.1 (g := (mkF m 1 #[.val (.ref a)] [(.ref a)])) rfl rfl (hb hby d_38_16_1)
  obtain ⟨T2, X2, e2, st2⟩ := getF X1 hx hZ hown (host := "") (Or.inl (ow hw 44 rfl)) Via.refl e1 A.2.2.2 (g := (mkF m 5 #[.val (.ref a)] [(.ref a), (.ref x)])) rfl rfl (hb hby d_38_16_5)
  obtain ⟨_, _, ⟨T3, L3, k3, n3⟩, -, X3, ⟨Lc3, hQ3, l3, y3, z3⟩, st3⟩ := Jvm.LawKit.callS X2 hx (y := (⟨"java/util/Arrays", "copyOf", "([Ljava/lang/Object;I)[Ljava/lang/Object;"⟩ : MethodName)) hown (mvT hZ (ow hw 122 rfl)) (mvT hZ (ow hw 123 rfl)) (mvT hZ (ow hw 124 rfl)) (mvT hZ (ow hw 125 rfl)) (by decide) (backOf (W := 0) (own_cp2_1 l Z a0 hw [] G x y1 r h0 n0 Z0 B I1) hZ (ow hw 125 rfl) (ow hw 124 rfl) (by decide) (by decide)) (g := (mkF m 8 #[.val (.ref a)] [(.int 1), (.ref x)])) rfl (by rw [hml]; rfl) (argsL := [(.ref x), (.int 1)]) (rest := []) (lenOf own_pd6 rfl) rfl (by show 2 * 0 + _ ≤ _; exact Nat.le_of_eq rfl) (hb hby d_38_16_8) (fun _ _ => ⟨rfl, e2, (by decide : 0 + 1 ≤ _), (by decide : 0 + 1 ≤ _)⟩)
  dsimp only [Pt.U, Pt.locs, Pt.cells, Pt.slots] at X3 l3 y3 z3 st3 hQ3
  subst l3 y3 z3
  obtain ⟨h3, e3⟩ : ∃ z, T3.heap = z := ⟨_, rfl⟩
  rw [e3] at hQ3
  obtain ⟨z3, rfl, N3, K3, g3, F3⟩ := hQ3
  have N4_ := Fr.app N0 N3
  have K5_ := (Keep.refl h0 []).trans K3 all0
  obtain ⟨fs, hr, hrun, hended, hW, hsame⟩ := X3.leave (v := some (.ref z3)) (fun h => by rw [Bd.returns] at h; cases h)
  refine ⟨_, _, pre0 _ ?_, hrun, hended, _, _, rfl, ?_, ⟨_, rfl⟩, hW, hsame.mono (by decide) (by decide)⟩
  · show Steps _ _ _ (s₁.setTop (mkF m 0 #[.val (.ref a)] [])) _
    refine XS.aloadN X0.here hx rfl (hb hby d_38_16_0) rfl rfl ?_
    show Steps _ _ _ (s₁.setTop (mkF m 1 #[.val (.ref a)] [(.ref a)])) _
    refine st1 _ ?_
    refine XS.aloadN X1.here hx rfl (hb hby d_38_16_4) rfl rfl ?_
    show Steps _ _ _ (T1.setTop (mkF m 5 #[.val (.ref a)] [(.ref a), (.ref x)])) _
    refine st2 _ ?_
    show Steps _ _ _ (T2.setTop (mkF m 8 #[.val (.ref a)] [(.int 1), (.ref x)])) _
    refine st3 _ ?_
    show Steps _ _ _ (T3.setTop (mkF m 11 #[.val (.ref a)] [(.ref z3)])) _
    exact retOut X3 hx Bd.returns rfl (Or.inr (Or.inr (Or.inr (Or.inr ⟨rfl, rfl, rfl⟩)))) (hb hby d_38_16_11) hr
  · show own_QCp Z 1 [.ref y1] h0 n0 _ T3.heap _
    rw [e3]
    exact ⟨z3, rfl, N4_, K5_, g3, F3⟩
theorem own_ef_cp3_2 (m : MethodId) (x0 : Addr) (x1 : Int32) (x2 : Addr) : entryFrame m #[(.ref x0), (.int x1), (.ref x2)] 4 = mkF m 0 #[.val (.ref x0), .val (.int x1), .val (.ref x2), .unset] [] := by first | (simp [entryFrame, mkF, argsToLocals, Value.category]; done) | rfl
theorem own_cp3_2 (l : Launch) (Z : State) (a0 : Array Value) (hw : ∀ d ∈ tables_1, d.before a0 Z = true) (ws : List Jvm.Cond) {D IC EL EE EM MO b0 b1 : Addr} {cD cI cE : Cell} (G : own_G Z D IC EL EE EM MO b0 b1 cD cI cE) (x y1 y2 : Addr) (r : List Value) (h0 : Heap) (n0 : Nat) (Z0 : n0 ≤ h0.size) (B : own_Oa Z h0 x 10 (.ref y1 :: .ref y2 :: r)) (I1 : Ins Z h0 y1 "java/lang/Object" true) (I2 : Ins Z h0 y2 "java/lang/Object" true) :
    MetFree l (⟨"java/util/Arrays", "copyOf", "([Ljava/lang/Object;ILjava/lang/Class;)[Ljava/lang/Object;"⟩ : MethodName) (head1 (Jvm.Cond.code (⟨"java/util/Arrays", "copyOf", "([Ljava/lang/Object;ILjava/lang/Class;)[Ljava/lang/Object;"⟩ : MethodName) jdk_65_method_120_code 4 (some (.array (.object "java/lang/Object"))) :: ws) ({ frames := 1, cells := 1, slots := 2, locals := 18 } : Room)) (fun av U => av = #[(.ref x), (.int 2), (.ref MO)] ∧ Z.Warmed39 U.vm ∧ U.heap = h0) (fun _ _ _ _ _ => True) (fun _ U oc U' => ∃ v L, oc = .returned v ∧ own_QCp Z 2 [.ref y1, .ref y2] h0 n0 v U'.heap L ∧ FrameEnd U oc U' L ({ frames := 1, cells := 1, slots := 2, locals := 18 } : Room).cells ({ frames := 1, cells := 1, slots := 2, locals := 18 } : Room).slots) := by
  refine MetFree.of_bodySF (plainFor_of_name own_pn4) hisR ?_
  intro p e s m args below meth c s₁ Bd hml0 hP hK
  obtain ⟨rfl, hZ, hh⟩ := hP
  have hx := Bd.exec
  have hby := Bd.bytes
  have hml : c.maxLocals = 4 := hml0
  have hown : s.vm.findClass "java/util/Arrays" = some m.cls := findClass_of_methodNamed Bd.named
  have hnm := (name_of_methodNamed Bd.named Bd.method).1
  have X0 : Stand p l e ({ frames := 1, cells := 1, slots := 2, locals := 18 } : Room) s m #[(.ref x), (.int 2), (.ref MO)] below meth c s₁ [] 0 0 := Stand.of_body Bd
  have e0 : s₁.heap = h0 := by rw [← hh, Bd.state]; rfl
  have N0 := Fr.nil n0
  have pre0 : ∀ tt, Steps p.tables e below (s₁.setTop (mkF m 0 #[.val (.ref x), .val (.int 2), .val (.ref MO), .unset] [])) tt → Steps p.tables e below (s₁.setTop (entryFrame m #[(.ref x), (.int 2), (.ref MO)] 4)) tt := fun tt k' => castTop (own_ef_cp3_2 m x 2 MO) k'
  obtain ⟨vm1, X1, st1⟩ := X0.ldcMirror hx hown (mvT hZ (ow hw 135 rfl)) (own_mirE hZ G.2.2.2.2.2) (g := (mkF m 1 #[.val (.ref x), .val (.int 2), .val (.ref MO), .unset] [(.ref MO)])) rfl (hb hby d_65_120_1)
  have ltx := B.lt
  obtain ⟨T2, h2, X2, e2, E2, A2, st2⟩ := own_newOa X1 hx hZ hown (ow hw 136 rfl) (ow hw 66 rfl) e0 (g := (mkF m 7 #[.val (.ref x), .val (.int 2), .val (.ref MO), .unset] [(.int 2)])) rfl (hb hby d_65_120_7) rfl (by decide) (cap := 2) rfl (by decide) (by decide) (by decide)
  obtain ⟨z, go_z⟩ : ∃ z, z = h0.size := ⟨_, rfl⟩
  rw [← go_z] at A2 st2
  have gh_z := (Nat.le_of_eq go_z.symm : h0.size ≤ z)
  have ge_z := Nat.le_trans Z0 gh_z
  have K3_ := (Keep.refl h0 []).ext E2
  have ne4_ := (Nat.ne_of_lt (Nat.lt_of_lt_of_le ltx (Nat.le_of_eq go_z.symm)) : x ≠ z)
  have f5_ := (B.ext E2)
  obtain ⟨kx, Ax, -⟩ := id f5_
  have Z7_ := (Nat.le_trans Z0 K3_.1)
  obtain ⟨_, _, ⟨T6, L6, k6, n6⟩, -, X6, ⟨Lc6, hQ6, l6, y6, z6⟩, st6⟩ := Jvm.LawKit.callS X2 hx (y := (⟨"java/lang/Math", "min", "(II)I"⟩ : MethodName)) hown (mvT hZ (ow hw 137 rfl)) (mvT hZ (ow hw 138 rfl)) (mvT hZ (ow hw 63 rfl)) (mvT hZ (ow hw 139 rfl)) (by decide) (backOf (W := 4) (own_min l Z a0 hw [] 10 2 (by decide) h2 n0 Z7_) hZ (ow hw 139 rfl) (ow hw 63 rfl) (by decide) (by decide)) (g := (mkF m 32 #[.val (.ref x), .val (.int 2), .val (.ref MO), .val (.ref z)] [(.int 2), (.int 10), (.int 0), (.ref z), (.int 0), (.ref x)])) rfl (by rw [hml]; rfl) (argsL := [(.int 10), (.int 2)]) (rest := [(.int 0), (.ref z), (.int 0), (.ref x)]) (lenOf own_pd1 rfl) rfl (by show 2 * 0 + _ ≤ _; exact Nat.le_of_eq rfl) (hb hby d_65_120_32) (fun _ _ => ⟨rfl, e2, (by decide : 1 + 0 ≤ _), (by decide : 2 + 0 ≤ _)⟩)
  dsimp only [Pt.U, Pt.locs, Pt.cells, Pt.slots] at X6 l6 y6 z6 st6 hQ6
  subst l6 y6 z6
  obtain ⟨rfl, N6, e6⟩ := hQ6
  have N8_ := Fr.app N0 N6
  have f10_ := (I1.ext E2)
  have f11_ := (I2.ext E2)
  obtain ⟨ka, Aa, Oa_, Ea⟩ := id f5_
  obtain ⟨kb, Ab, Ob, Eb⟩ := id A2
  obtain ⟨cb, Cb, qb, -⟩ := id Ab
  obtain ⟨T9, h9, L9, X9, e9, N9, K9, B9, st9⟩ := cpA X6 hx hZ hown (ow hw 140 rfl) (ow hw 143 rfl) (ow hw 141 rfl) (ow hw 142 rfl) e6 (us := [.ref y1, .ref y2]) Aa Ab (Or.inr ⟨rfl, rfl, ⟨Sto.ofV Cb qb Ob f10_, ⟨Sto.ofV Cb qb Ob f11_, trivial⟩⟩⟩) (by decide) (by decide) (by decide) (by decide) (by decide) rfl (by decide) N8_ ge_z (g := (mkF m 35 #[.val (.ref x), .val (.int 2), .val (.ref MO), .val (.ref z)] [(.int 2), (.int 0), (.ref z), (.int 0), (.ref x)])) rfl (by rw [hml]; rfl) rfl (hb hby d_65_120_35) (by decide) (W := 0) (by show 2 * 0 + _ ≤ _; exact Nat.le_of_eq rfl) (by decide)
  have K12_ := K3_.trans K9 (allS (Or.inr gh_z) all0)
  have F9 : own_Oa Z h9 z 2 [.ref y1, .ref y2] := ⟨kb, B9, Ob, Eb.keep K9⟩
  obtain ⟨fs, hr, hrun, hended, hW, hsame⟩ := X9.leave (v := some (.ref z)) (fun h => by rw [Bd.returns] at h; cases h)
  refine ⟨_, _, pre0 _ ?_, hrun, hended, _, _, rfl, ?_, ⟨_, rfl⟩, hW, hsame.mono (by decide) (by decide)⟩
  · show Steps _ _ _ (s₁.setTop (mkF m 0 #[.val (.ref x), .val (.int 2), .val (.ref MO), .unset] [])) _
    refine XS.aloadN X0.here hx rfl (hb hby d_65_120_0) rfl rfl ?_
    show Steps _ _ _ (s₁.setTop (mkF m 1 #[.val (.ref x), .val (.int 2), .val (.ref MO), .unset] [(.ref MO)])) _
    refine st1 _ ?_
    show Steps _ _ _ ((s₁.setVm vm1).setTop (mkF m 3 #[.val (.ref x), .val (.int 2), .val (.ref MO), .unset] [(.ref MO), (.ref MO)])) _
    refine Jvm.RoadKit.acmp (g := (mkF m 3 #[.val (.ref x), .val (.int 2), .val (.ref MO), .unset] [(.ref MO), (.ref MO)])) X1 hx rfl rfl rfl (pc0 := 3) (pc' := 6) (same := true) rfl (hb hby d_65_120_3) rfl (decide_eq_true rfl) (by decide) (by decide) ?_
    refine XS.iloadN X1.here hx rfl (hb hby d_65_120_6) rfl ?_
    show Steps _ _ _ ((s₁.setVm vm1).setTop (mkF m 7 #[.val (.ref x), .val (.int 2), .val (.ref MO), .unset] [(.int 2)])) _
    refine st2 _ ?_
    show Steps _ _ _ (T2.setTop (mkF m 10 #[.val (.ref x), .val (.int 2), .val (.ref MO), .unset] [(.ref z)])) _
    refine XS.goto X2.here hx rfl rfl (hb hby d_65_120_10) (show (0 : Int) ≤ ((10 : Nat) : Int) + (14) by decide) (show (((10 : Nat) : Int) + (14)).toNat = 24 by decide) ?_
    show Steps _ _ _ (T2.setTop (mkF m 24 #[.val (.ref x), .val (.int 2), .val (.ref MO), .unset] [(.ref z)])) _
    refine XS.astoreN X2.here hx rfl (hb hby d_65_120_24) rfl rfl rfl ?_
    refine XS.aloadN X2.here hx rfl (hb hby d_65_120_25) rfl rfl ?_
    refine XT.iconstV X2.here hx rfl 0 (hb hby d_65_120_26) rfl ?_
    refine XS.aloadN X2.here hx rfl (hb hby d_65_120_27) rfl rfl ?_
    refine XT.iconstV X2.here hx rfl 0 (hb hby d_65_120_28) rfl ?_
    refine XS.aloadN X2.here hx rfl (hb hby d_65_120_29) rfl rfl ?_
    show Steps _ _ _ (T2.setTop (mkF m 30 #[.val (.ref x), .val (.int 2), .val (.ref MO), .val (.ref z)] [(.ref x), (.int 0), (.ref z), (.int 0), (.ref x)])) _
    refine own_len X2 hx hZ e2 Ax (g := (mkF m 30 #[.val (.ref x), .val (.int 2), .val (.ref MO), .val (.ref z)] [(.ref x), (.int 0), (.ref z), (.int 0), (.ref x)])) rfl rfl (hb hby d_65_120_30) _ ?_
    refine XS.iloadN X2.here hx rfl (hb hby d_65_120_31) rfl ?_
    show Steps _ _ _ (T2.setTop (mkF m 32 #[.val (.ref x), .val (.int 2), .val (.ref MO), .val (.ref z)] [(.int 2), (.int 10), (.int 0), (.ref z), (.int 0), (.ref x)])) _
    refine st6 _ ?_
    show Steps _ _ _ (T6.setTop (mkF m 35 #[.val (.ref x), .val (.int 2), .val (.ref MO), .val (.ref z)] [(.int 2), (.int 0), (.ref z), (.int 0), (.ref x)])) _
    refine st9 _ ?_
    refine XS.aloadN X9.here hx rfl (hb hby d_65_120_38) rfl rfl ?_
    show Steps _ _ _ (T9.setTop (mkF m 39 #[.val (.ref x), .val (.int 2), .val (.ref MO), .val (.ref z)] [(.ref z)])) _
    exact retOut X9 hx Bd.returns rfl (Or.inr (Or.inr (Or.inr (Or.inr ⟨rfl, rfl, rfl⟩)))) (hb hby d_65_120_39) hr
  · show own_QCp Z 2 [.ref y1, .ref y2] h0 n0 _ T9.heap _
    rw [e9]
    exact ⟨z, rfl, N9, K12_, gh_z, F9⟩
theorem own_ef_cp2_2 (m : MethodId) (x0 : Addr) (x1 : Int32) : entryFrame m #[(.ref x0), (.int x1)] 2 = mkF m 0 #[.val (.ref x0), .val (.int x1)] [] := by first | (simp [entryFrame, mkF, argsToLocals, Value.category]; done) | rfl
theorem own_cp2_2 (l : Launch) (Z : State) (a0 : Array Value) (hw : ∀ d ∈ tables_1, d.before a0 Z = true) (ws : List Jvm.Cond) {D IC EL EE EM MO b0 b1 : Addr} {cD cI cE : Cell} (G : own_G Z D IC EL EE EM MO b0 b1 cD cI cE) (x y1 y2 : Addr) (r : List Value) (h0 : Heap) (n0 : Nat) (Z0 : n0 ≤ h0.size) (B : own_Oa Z h0 x 10 (.ref y1 :: .ref y2 :: r)) (I1 : Ins Z h0 y1 "java/lang/Object" true) (I2 : Ins Z h0 y2 "java/lang/Object" true) :
    MetFree l (⟨"java/util/Arrays", "copyOf", "([Ljava/lang/Object;I)[Ljava/lang/Object;"⟩ : MethodName) (head1 (Jvm.Cond.code (⟨"java/util/Arrays", "copyOf", "([Ljava/lang/Object;I)[Ljava/lang/Object;"⟩ : MethodName) jdk_65_method_119_code 2 (some (.array (.object "java/lang/Object"))) :: ws) ({ frames := 2, cells := 1, slots := 2, locals := 33 } : Room)) (fun av U => av = #[(.ref x), (.int 2)] ∧ Z.Warmed39 U.vm ∧ U.heap = h0) (fun _ _ _ _ _ => True) (fun _ U oc U' => ∃ v L, oc = .returned v ∧ own_QCp Z 2 [.ref y1, .ref y2] h0 n0 v U'.heap L ∧ FrameEnd U oc U' L ({ frames := 2, cells := 1, slots := 2, locals := 33 } : Room).cells ({ frames := 2, cells := 1, slots := 2, locals := 33 } : Room).slots) := by
  refine MetFree.of_bodySF (plainFor_of_name own_pn4) hisR ?_
  intro p e s m args below meth c s₁ Bd hml0 hP hK
  obtain ⟨rfl, hZ, hh⟩ := hP
  have hx := Bd.exec
  have hby := Bd.bytes
  have hml : c.maxLocals = 2 := hml0
  have hown : s.vm.findClass "java/util/Arrays" = some m.cls := findClass_of_methodNamed Bd.named
  have hnm := (name_of_methodNamed Bd.named Bd.method).1
  have X0 : Stand p l e ({ frames := 2, cells := 1, slots := 2, locals := 33 } : Room) s m #[(.ref x), (.int 2)] below meth c s₁ [] 0 0 := Stand.of_body Bd
  have e0 : s₁.heap = h0 := by rw [← hh, Bd.state]; rfl
  have N0 := Fr.nil n0
  have pre0 : ∀ tt, Steps p.tables e below (s₁.setTop (mkF m 0 #[.val (.ref x), .val (.int 2)] [])) tt → Steps p.tables e below (s₁.setTop (entryFrame m #[(.ref x), (.int 2)] 2)) tt := fun tt k' => castTop (own_ef_cp2_2 m x 2) k'
  obtain ⟨T1, X1, e1, st1⟩ := gcls X0 hx hZ hown (ow hw 126 rfl) (ow hw 127 rfl) (ow hw 97 rfl) (ow hw 129 rfl) (ow hw 128 rfl) (ow hw 130 rfl) e0 B.exa G.2.2.2.2.2 (g := (mkF m 3 #[.val (.ref x), .val (.int 2)] [(.ref x), (.int 2), (.ref x)])) rfl (by rw [hml]; rfl) rfl (hb hby d_65_119_3) (by decide) (W := 2) (by show 2 * 0 + _ ≤ _; exact Nat.le_of_eq rfl) (by decide)
  obtain ⟨_, _, ⟨T2, L2, k2, n2⟩, -, X2, ⟨Lc2, hQ2, l2, y2, z2⟩, st2⟩ := Jvm.LawKit.callS X1 hx (y := (⟨"java/util/Arrays", "copyOf", "([Ljava/lang/Object;ILjava/lang/Class;)[Ljava/lang/Object;"⟩ : MethodName)) hown (mvT hZ (ow hw 132 rfl)) (mvT hZ (ow hw 133 rfl)) (mvT hZ (ow hw 124 rfl)) (mvT hZ (ow hw 134 rfl)) (by decide) (backOf (W := 0) (own_cp3_2 l Z a0 hw [] G x y1 y2 r h0 n0 Z0 B I1 I2) hZ (ow hw 134 rfl) (ow hw 124 rfl) (by decide) (by decide)) (g := (mkF m 6 #[.val (.ref x), .val (.int 2)] [(.ref MO), (.int 2), (.ref x)])) rfl (by rw [hml]; rfl) (argsL := [(.ref x), (.int 2), (.ref MO)]) (rest := []) (lenOf own_pd5 rfl) rfl (by show 2 * 0 + _ ≤ _; exact Nat.le_of_eq rfl) (hb hby d_65_119_6) (fun _ _ => ⟨rfl, e1, (by decide : 0 + 1 ≤ _), (by decide : 0 + 2 ≤ _)⟩)
  dsimp only [Pt.U, Pt.locs, Pt.cells, Pt.slots] at X2 l2 y2 z2 st2 hQ2
  subst l2 y2 z2
  obtain ⟨h2, e2⟩ : ∃ z, T2.heap = z := ⟨_, rfl⟩
  rw [e2] at hQ2
  obtain ⟨z2, rfl, N2, K2, g2, F2⟩ := hQ2
  have N3_ := Fr.app N0 N2
  have K4_ := (Keep.refl h0 []).trans K2 all0
  obtain ⟨fs, hr, hrun, hended, hW, hsame⟩ := X2.leave (v := some (.ref z2)) (fun h => by rw [Bd.returns] at h; cases h)
  refine ⟨_, _, pre0 _ ?_, hrun, hended, _, _, rfl, ?_, ⟨_, rfl⟩, hW, hsame.mono (by decide) (by decide)⟩
  · show Steps _ _ _ (s₁.setTop (mkF m 0 #[.val (.ref x), .val (.int 2)] [])) _
    refine XS.aloadN X0.here hx rfl (hb hby d_65_119_0) rfl rfl ?_
    refine XS.iloadN X0.here hx rfl (hb hby d_65_119_1) rfl ?_
    refine XS.aloadN X0.here hx rfl (hb hby d_65_119_2) rfl rfl ?_
    show Steps _ _ _ (s₁.setTop (mkF m 3 #[.val (.ref x), .val (.int 2)] [(.ref x), (.int 2), (.ref x)])) _
    refine st1 _ ?_
    show Steps _ _ _ (T1.setTop (mkF m 6 #[.val (.ref x), .val (.int 2)] [(.ref MO), (.int 2), (.ref x)])) _
    refine st2 _ ?_
    show Steps _ _ _ (T2.setTop (mkF m 9 #[.val (.ref x), .val (.int 2)] [(.ref z2)])) _
    exact retOut X2 hx Bd.returns rfl (Or.inr (Or.inr (Or.inr (Or.inr ⟨rfl, rfl, rfl⟩)))) (hb hby d_65_119_9) hr
  · show own_QCp Z 2 [.ref y1, .ref y2] h0 n0 _ T2.heap _
    rw [e2]
    exact ⟨z2, rfl, N3_, K4_, g2, F2⟩
theorem own_ef_toA_2 (m : MethodId) (x0 : Addr) : entryFrame m #[(.ref x0)] 1 = mkF m 0 #[.val (.ref x0)] [] := by first | (simp [entryFrame, mkF, argsToLocals, Value.category]; done) | rfl
theorem own_toA_2 (l : Launch) (Z : State) (a0 : Array Value) (hw : ∀ d ∈ tables_1, d.before a0 Z = true) (ws : List Jvm.Cond) {D IC EL EE EM MO b0 b1 : Addr} {cD cI cE : Cell} (G : own_G Z D IC EL EE EM MO b0 b1 cD cI cE) (a : Addr) (k : Int32) (x y1 y2 : Addr) (r : List Value) (h0 : Heap) (n0 : Nat) (Z0 : n0 ≤ h0.size) (A : own_Al Z h0 a (.ref x) k 2) (B : own_Oa Z h0 x 10 (.ref y1 :: .ref y2 :: r)) (I1 : Ins Z h0 y1 "java/lang/Object" true) (I2 : Ins Z h0 y2 "java/lang/Object" true) :
    MetFree l (⟨"java/util/ArrayList", "toArray", "()[Ljava/lang/Object;"⟩ : MethodName) (head1 (Jvm.Cond.code (⟨"java/util/ArrayList", "toArray", "()[Ljava/lang/Object;"⟩ : MethodName) jdk_38_method_16_code 1 (some (.array (.object "java/lang/Object"))) :: ws) ({ frames := 3, cells := 1, slots := 2, locals := 46 } : Room)) (fun av U => av = #[(.ref a)] ∧ Z.Warmed39 U.vm ∧ U.heap = h0) (fun _ _ _ _ _ => True) (fun _ U oc U' => ∃ v L, oc = .returned v ∧ own_QCp Z 2 [.ref y1, .ref y2] h0 n0 v U'.heap L ∧ FrameEnd U oc U' L ({ frames := 3, cells := 1, slots := 2, locals := 46 } : Room).cells ({ frames := 3, cells := 1, slots := 2, locals := 46 } : Room).slots) := by
  refine MetFree.of_bodySF (plainFor_of_name own_pn2) hisR ?_
  intro p e s m args below meth c s₁ Bd hml0 hP hK
  obtain ⟨rfl, hZ, hh⟩ := hP
  have hx := Bd.exec
  have hby := Bd.bytes
  have hml : c.maxLocals = 1 := hml0
  have hown : s.vm.findClass "java/util/ArrayList" = some m.cls := findClass_of_methodNamed Bd.named
  have hnm := (name_of_methodNamed Bd.named Bd.method).1
  have X0 : Stand p l e ({ frames := 3, cells := 1, slots := 2, locals := 46 } : Room) s m #[(.ref a)] below meth c s₁ [] 0 0 := Stand.of_body Bd
  have e0 : s₁.heap = h0 := by rw [← hh, Bd.state]; rfl
  have N0 := Fr.nil n0
  have pre0 : ∀ tt, Steps p.tables e below (s₁.setTop (mkF m 0 #[.val (.ref a)] [])) tt → Steps p.tables e below (s₁.setTop (entryFrame m #[(.ref a)] 1)) tt := fun tt k' => castTop (own_ef_toA_2 m a) k'
  obtain ⟨T1, X1, e1, st1⟩ := getF X0 hx hZ hown (host := "") (Or.inl (ow hw 24 rfl)) Via.refl e0 A.2.2.1 (g := (mkF m 1 #[.val (.ref a)] [(.ref a)])) rfl rfl (hb hby d_38_16_1)
  obtain ⟨T2, X2, e2, st2⟩ := getF X1 hx hZ hown (host := "") (Or.inl (ow hw 44 rfl)) Via.refl e1 A.2.2.2 (g := (mkF m 5 #[.val (.ref a)] [(.ref a), (.ref x)])) rfl rfl (hb hby d_38_16_5)
  obtain ⟨_, _, ⟨T3, L3, k3, n3⟩, -, X3, ⟨Lc3, hQ3, l3, y3, z3⟩, st3⟩ := Jvm.LawKit.callS X2 hx (y := (⟨"java/util/Arrays", "copyOf", "([Ljava/lang/Object;I)[Ljava/lang/Object;"⟩ : MethodName)) hown (mvT hZ (ow hw 122 rfl)) (mvT hZ (ow hw 123 rfl)) (mvT hZ (ow hw 124 rfl)) (mvT hZ (ow hw 125 rfl)) (by decide) (backOf (W := 0) (own_cp2_2 l Z a0 hw [] G x y1 y2 r h0 n0 Z0 B I1 I2) hZ (ow hw 125 rfl) (ow hw 124 rfl) (by decide) (by decide)) (g := (mkF m 8 #[.val (.ref a)] [(.int 2), (.ref x)])) rfl (by rw [hml]; rfl) (argsL := [(.ref x), (.int 2)]) (rest := []) (lenOf own_pd6 rfl) rfl (by show 2 * 0 + _ ≤ _; exact Nat.le_of_eq rfl) (hb hby d_38_16_8) (fun _ _ => ⟨rfl, e2, (by decide : 0 + 1 ≤ _), (by decide : 0 + 2 ≤ _)⟩)
  dsimp only [Pt.U, Pt.locs, Pt.cells, Pt.slots] at X3 l3 y3 z3 st3 hQ3
  subst l3 y3 z3
  obtain ⟨h3, e3⟩ : ∃ z, T3.heap = z := ⟨_, rfl⟩
  rw [e3] at hQ3
  obtain ⟨z3, rfl, N3, K3, g3, F3⟩ := hQ3
  have N4_ := Fr.app N0 N3
  have K5_ := (Keep.refl h0 []).trans K3 all0
  obtain ⟨fs, hr, hrun, hended, hW, hsame⟩ := X3.leave (v := some (.ref z3)) (fun h => by rw [Bd.returns] at h; cases h)
  refine ⟨_, _, pre0 _ ?_, hrun, hended, _, _, rfl, ?_, ⟨_, rfl⟩, hW, hsame.mono (by decide) (by decide)⟩
  · show Steps _ _ _ (s₁.setTop (mkF m 0 #[.val (.ref a)] [])) _
    refine XS.aloadN X0.here hx rfl (hb hby d_38_16_0) rfl rfl ?_
    show Steps _ _ _ (s₁.setTop (mkF m 1 #[.val (.ref a)] [(.ref a)])) _
    refine st1 _ ?_
    refine XS.aloadN X1.here hx rfl (hb hby d_38_16_4) rfl rfl ?_
    show Steps _ _ _ (T1.setTop (mkF m 5 #[.val (.ref a)] [(.ref a), (.ref x)])) _
    refine st2 _ ?_
    show Steps _ _ _ (T2.setTop (mkF m 8 #[.val (.ref a)] [(.int 2), (.ref x)])) _
    refine st3 _ ?_
    show Steps _ _ _ (T3.setTop (mkF m 11 #[.val (.ref a)] [(.ref z3)])) _
    exact retOut X3 hx Bd.returns rfl (Or.inr (Or.inr (Or.inr (Or.inr ⟨rfl, rfl, rfl⟩)))) (hb hby d_38_16_11) hr
  · show own_QCp Z 2 [.ref y1, .ref y2] h0 n0 _ T3.heap _
    rw [e3]
    exact ⟨z3, rfl, N4_, K5_, g3, F3⟩
theorem own_ef_cp3_3 (m : MethodId) (x0 : Addr) (x1 : Int32) (x2 : Addr) : entryFrame m #[(.ref x0), (.int x1), (.ref x2)] 4 = mkF m 0 #[.val (.ref x0), .val (.int x1), .val (.ref x2), .unset] [] := by first | (simp [entryFrame, mkF, argsToLocals, Value.category]; done) | rfl
theorem own_cp3_3 (l : Launch) (Z : State) (a0 : Array Value) (hw : ∀ d ∈ tables_1, d.before a0 Z = true) (ws : List Jvm.Cond) {D IC EL EE EM MO b0 b1 : Addr} {cD cI cE : Cell} (G : own_G Z D IC EL EE EM MO b0 b1 cD cI cE) (x y1 y2 y3 : Addr) (r : List Value) (h0 : Heap) (n0 : Nat) (Z0 : n0 ≤ h0.size) (B : own_Oa Z h0 x 10 (.ref y1 :: .ref y2 :: .ref y3 :: r)) (I1 : Ins Z h0 y1 "java/lang/Object" true) (I2 : Ins Z h0 y2 "java/lang/Object" true) (I3 : Ins Z h0 y3 "java/lang/Object" true) :
    MetFree l (⟨"java/util/Arrays", "copyOf", "([Ljava/lang/Object;ILjava/lang/Class;)[Ljava/lang/Object;"⟩ : MethodName) (head1 (Jvm.Cond.code (⟨"java/util/Arrays", "copyOf", "([Ljava/lang/Object;ILjava/lang/Class;)[Ljava/lang/Object;"⟩ : MethodName) jdk_65_method_120_code 4 (some (.array (.object "java/lang/Object"))) :: ws) ({ frames := 1, cells := 1, slots := 3, locals := 18 } : Room)) (fun av U => av = #[(.ref x), (.int 3), (.ref MO)] ∧ Z.Warmed39 U.vm ∧ U.heap = h0) (fun _ _ _ _ _ => True) (fun _ U oc U' => ∃ v L, oc = .returned v ∧ own_QCp Z 3 [.ref y1, .ref y2, .ref y3] h0 n0 v U'.heap L ∧ FrameEnd U oc U' L ({ frames := 1, cells := 1, slots := 3, locals := 18 } : Room).cells ({ frames := 1, cells := 1, slots := 3, locals := 18 } : Room).slots) := by
  refine MetFree.of_bodySF (plainFor_of_name own_pn4) hisR ?_
  intro p e s m args below meth c s₁ Bd hml0 hP hK
  obtain ⟨rfl, hZ, hh⟩ := hP
  have hx := Bd.exec
  have hby := Bd.bytes
  have hml : c.maxLocals = 4 := hml0
  have hown : s.vm.findClass "java/util/Arrays" = some m.cls := findClass_of_methodNamed Bd.named
  have hnm := (name_of_methodNamed Bd.named Bd.method).1
  have X0 : Stand p l e ({ frames := 1, cells := 1, slots := 3, locals := 18 } : Room) s m #[(.ref x), (.int 3), (.ref MO)] below meth c s₁ [] 0 0 := Stand.of_body Bd
  have e0 : s₁.heap = h0 := by rw [← hh, Bd.state]; rfl
  have N0 := Fr.nil n0
  have pre0 : ∀ tt, Steps p.tables e below (s₁.setTop (mkF m 0 #[.val (.ref x), .val (.int 3), .val (.ref MO), .unset] [])) tt → Steps p.tables e below (s₁.setTop (entryFrame m #[(.ref x), (.int 3), (.ref MO)] 4)) tt := fun tt k' => castTop (own_ef_cp3_3 m x 3 MO) k'
  obtain ⟨vm1, X1, st1⟩ := X0.ldcMirror hx hown (mvT hZ (ow hw 135 rfl)) (own_mirE hZ G.2.2.2.2.2) (g := (mkF m 1 #[.val (.ref x), .val (.int 3), .val (.ref MO), .unset] [(.ref MO)])) rfl (hb hby d_65_120_1)
  have ltx := B.lt
  obtain ⟨T2, h2, X2, e2, E2, A2, st2⟩ := own_newOa X1 hx hZ hown (ow hw 136 rfl) (ow hw 66 rfl) e0 (g := (mkF m 7 #[.val (.ref x), .val (.int 3), .val (.ref MO), .unset] [(.int 3)])) rfl (hb hby d_65_120_7) rfl (by decide) (cap := 3) rfl (by decide) (by decide) (by decide)
  obtain ⟨z, go_z⟩ : ∃ z, z = h0.size := ⟨_, rfl⟩
  rw [← go_z] at A2 st2
  have gh_z := (Nat.le_of_eq go_z.symm : h0.size ≤ z)
  have ge_z := Nat.le_trans Z0 gh_z
  have K3_ := (Keep.refl h0 []).ext E2
  have ne4_ := (Nat.ne_of_lt (Nat.lt_of_lt_of_le ltx (Nat.le_of_eq go_z.symm)) : x ≠ z)
  have f5_ := (B.ext E2)
  obtain ⟨kx, Ax, -⟩ := id f5_
  have Z7_ := (Nat.le_trans Z0 K3_.1)
  obtain ⟨_, _, ⟨T6, L6, k6, n6⟩, -, X6, ⟨Lc6, hQ6, l6, y6, z6⟩, st6⟩ := Jvm.LawKit.callS X2 hx (y := (⟨"java/lang/Math", "min", "(II)I"⟩ : MethodName)) hown (mvT hZ (ow hw 137 rfl)) (mvT hZ (ow hw 138 rfl)) (mvT hZ (ow hw 63 rfl)) (mvT hZ (ow hw 139 rfl)) (by decide) (backOf (W := 4) (own_min l Z a0 hw [] 10 3 (by decide) h2 n0 Z7_) hZ (ow hw 139 rfl) (ow hw 63 rfl) (by decide) (by decide)) (g := (mkF m 32 #[.val (.ref x), .val (.int 3), .val (.ref MO), .val (.ref z)] [(.int 3), (.int 10), (.int 0), (.ref z), (.int 0), (.ref x)])) rfl (by rw [hml]; rfl) (argsL := [(.int 10), (.int 3)]) (rest := [(.int 0), (.ref z), (.int 0), (.ref x)]) (lenOf own_pd1 rfl) rfl (by show 2 * 0 + _ ≤ _; exact Nat.le_of_eq rfl) (hb hby d_65_120_32) (fun _ _ => ⟨rfl, e2, (by decide : 1 + 0 ≤ _), (by decide : 3 + 0 ≤ _)⟩)
  dsimp only [Pt.U, Pt.locs, Pt.cells, Pt.slots] at X6 l6 y6 z6 st6 hQ6
  subst l6 y6 z6
  obtain ⟨rfl, N6, e6⟩ := hQ6
  have N8_ := Fr.app N0 N6
  have f10_ := (I1.ext E2)
  have f11_ := (I2.ext E2)
  have f12_ := (I3.ext E2)
  obtain ⟨ka, Aa, Oa_, Ea⟩ := id f5_
  obtain ⟨kb, Ab, Ob, Eb⟩ := id A2
  obtain ⟨cb, Cb, qb, -⟩ := id Ab
  obtain ⟨T9, h9, L9, X9, e9, N9, K9, B9, st9⟩ := cpA X6 hx hZ hown (ow hw 140 rfl) (ow hw 143 rfl) (ow hw 141 rfl) (ow hw 142 rfl) e6 (us := [.ref y1, .ref y2, .ref y3]) Aa Ab (Or.inr ⟨rfl, rfl, ⟨Sto.ofV Cb qb Ob f10_, ⟨Sto.ofV Cb qb Ob f11_, ⟨Sto.ofV Cb qb Ob f12_, trivial⟩⟩⟩⟩) (by decide) (by decide) (by decide) (by decide) (by decide) rfl (by decide) N8_ ge_z (g := (mkF m 35 #[.val (.ref x), .val (.int 3), .val (.ref MO), .val (.ref z)] [(.int 3), (.int 0), (.ref z), (.int 0), (.ref x)])) rfl (by rw [hml]; rfl) rfl (hb hby d_65_120_35) (by decide) (W := 0) (by show 2 * 0 + _ ≤ _; exact Nat.le_of_eq rfl) (by decide)
  have K13_ := K3_.trans K9 (allS (Or.inr gh_z) all0)
  have F9 : own_Oa Z h9 z 3 [.ref y1, .ref y2, .ref y3] := ⟨kb, B9, Ob, Eb.keep K9⟩
  obtain ⟨fs, hr, hrun, hended, hW, hsame⟩ := X9.leave (v := some (.ref z)) (fun h => by rw [Bd.returns] at h; cases h)
  refine ⟨_, _, pre0 _ ?_, hrun, hended, _, _, rfl, ?_, ⟨_, rfl⟩, hW, hsame.mono (by decide) (by decide)⟩
  · show Steps _ _ _ (s₁.setTop (mkF m 0 #[.val (.ref x), .val (.int 3), .val (.ref MO), .unset] [])) _
    refine XS.aloadN X0.here hx rfl (hb hby d_65_120_0) rfl rfl ?_
    show Steps _ _ _ (s₁.setTop (mkF m 1 #[.val (.ref x), .val (.int 3), .val (.ref MO), .unset] [(.ref MO)])) _
    refine st1 _ ?_
    show Steps _ _ _ ((s₁.setVm vm1).setTop (mkF m 3 #[.val (.ref x), .val (.int 3), .val (.ref MO), .unset] [(.ref MO), (.ref MO)])) _
    refine Jvm.RoadKit.acmp (g := (mkF m 3 #[.val (.ref x), .val (.int 3), .val (.ref MO), .unset] [(.ref MO), (.ref MO)])) X1 hx rfl rfl rfl (pc0 := 3) (pc' := 6) (same := true) rfl (hb hby d_65_120_3) rfl (decide_eq_true rfl) (by decide) (by decide) ?_
    refine XS.iloadN X1.here hx rfl (hb hby d_65_120_6) rfl ?_
    show Steps _ _ _ ((s₁.setVm vm1).setTop (mkF m 7 #[.val (.ref x), .val (.int 3), .val (.ref MO), .unset] [(.int 3)])) _
    refine st2 _ ?_
    show Steps _ _ _ (T2.setTop (mkF m 10 #[.val (.ref x), .val (.int 3), .val (.ref MO), .unset] [(.ref z)])) _
    refine XS.goto X2.here hx rfl rfl (hb hby d_65_120_10) (show (0 : Int) ≤ ((10 : Nat) : Int) + (14) by decide) (show (((10 : Nat) : Int) + (14)).toNat = 24 by decide) ?_
    show Steps _ _ _ (T2.setTop (mkF m 24 #[.val (.ref x), .val (.int 3), .val (.ref MO), .unset] [(.ref z)])) _
    refine XS.astoreN X2.here hx rfl (hb hby d_65_120_24) rfl rfl rfl ?_
    refine XS.aloadN X2.here hx rfl (hb hby d_65_120_25) rfl rfl ?_
    refine XT.iconstV X2.here hx rfl 0 (hb hby d_65_120_26) rfl ?_
    refine XS.aloadN X2.here hx rfl (hb hby d_65_120_27) rfl rfl ?_
    refine XT.iconstV X2.here hx rfl 0 (hb hby d_65_120_28) rfl ?_
    refine XS.aloadN X2.here hx rfl (hb hby d_65_120_29) rfl rfl ?_
    show Steps _ _ _ (T2.setTop (mkF m 30 #[.val (.ref x), .val (.int 3), .val (.ref MO), .val (.ref z)] [(.ref x), (.int 0), (.ref z), (.int 0), (.ref x)])) _
    refine own_len X2 hx hZ e2 Ax (g := (mkF m 30 #[.val (.ref x), .val (.int 3), .val (.ref MO), .val (.ref z)] [(.ref x), (.int 0), (.ref z), (.int 0), (.ref x)])) rfl rfl (hb hby d_65_120_30) _ ?_
    refine XS.iloadN X2.here hx rfl (hb hby d_65_120_31) rfl ?_
    show Steps _ _ _ (T2.setTop (mkF m 32 #[.val (.ref x), .val (.int 3), .val (.ref MO), .val (.ref z)] [(.int 3), (.int 10), (.int 0), (.ref z), (.int 0), (.ref x)])) _
    refine st6 _ ?_
    show Steps _ _ _ (T6.setTop (mkF m 35 #[.val (.ref x), .val (.int 3), .val (.ref MO), .val (.ref z)] [(.int 3), (.int 0), (.ref z), (.int 0), (.ref x)])) _
    refine st9 _ ?_
    refine XS.aloadN X9.here hx rfl (hb hby d_65_120_38) rfl rfl ?_
    show Steps _ _ _ (T9.setTop (mkF m 39 #[.val (.ref x), .val (.int 3), .val (.ref MO), .val (.ref z)] [(.ref z)])) _
    exact retOut X9 hx Bd.returns rfl (Or.inr (Or.inr (Or.inr (Or.inr ⟨rfl, rfl, rfl⟩)))) (hb hby d_65_120_39) hr
  · show own_QCp Z 3 [.ref y1, .ref y2, .ref y3] h0 n0 _ T9.heap _
    rw [e9]
    exact ⟨z, rfl, N9, K13_, gh_z, F9⟩
theorem own_ef_cp2_3 (m : MethodId) (x0 : Addr) (x1 : Int32) : entryFrame m #[(.ref x0), (.int x1)] 2 = mkF m 0 #[.val (.ref x0), .val (.int x1)] [] := by first | (simp [entryFrame, mkF, argsToLocals, Value.category]; done) | rfl
theorem own_cp2_3 (l : Launch) (Z : State) (a0 : Array Value) (hw : ∀ d ∈ tables_1, d.before a0 Z = true) (ws : List Jvm.Cond) {D IC EL EE EM MO b0 b1 : Addr} {cD cI cE : Cell} (G : own_G Z D IC EL EE EM MO b0 b1 cD cI cE) (x y1 y2 y3 : Addr) (r : List Value) (h0 : Heap) (n0 : Nat) (Z0 : n0 ≤ h0.size) (B : own_Oa Z h0 x 10 (.ref y1 :: .ref y2 :: .ref y3 :: r)) (I1 : Ins Z h0 y1 "java/lang/Object" true) (I2 : Ins Z h0 y2 "java/lang/Object" true) (I3 : Ins Z h0 y3 "java/lang/Object" true) :
    MetFree l (⟨"java/util/Arrays", "copyOf", "([Ljava/lang/Object;I)[Ljava/lang/Object;"⟩ : MethodName) (head1 (Jvm.Cond.code (⟨"java/util/Arrays", "copyOf", "([Ljava/lang/Object;I)[Ljava/lang/Object;"⟩ : MethodName) jdk_65_method_119_code 2 (some (.array (.object "java/lang/Object"))) :: ws) ({ frames := 2, cells := 1, slots := 3, locals := 33 } : Room)) (fun av U => av = #[(.ref x), (.int 3)] ∧ Z.Warmed39 U.vm ∧ U.heap = h0) (fun _ _ _ _ _ => True) (fun _ U oc U' => ∃ v L, oc = .returned v ∧ own_QCp Z 3 [.ref y1, .ref y2, .ref y3] h0 n0 v U'.heap L ∧ FrameEnd U oc U' L ({ frames := 2, cells := 1, slots := 3, locals := 33 } : Room).cells ({ frames := 2, cells := 1, slots := 3, locals := 33 } : Room).slots) := by
  refine MetFree.of_bodySF (plainFor_of_name own_pn4) hisR ?_
  intro p e s m args below meth c s₁ Bd hml0 hP hK
  obtain ⟨rfl, hZ, hh⟩ := hP
  have hx := Bd.exec
  have hby := Bd.bytes
  have hml : c.maxLocals = 2 := hml0
  have hown : s.vm.findClass "java/util/Arrays" = some m.cls := findClass_of_methodNamed Bd.named
  have hnm := (name_of_methodNamed Bd.named Bd.method).1
  have X0 : Stand p l e ({ frames := 2, cells := 1, slots := 3, locals := 33 } : Room) s m #[(.ref x), (.int 3)] below meth c s₁ [] 0 0 := Stand.of_body Bd
  have e0 : s₁.heap = h0 := by rw [← hh, Bd.state]; rfl
  have N0 := Fr.nil n0
  have pre0 : ∀ tt, Steps p.tables e below (s₁.setTop (mkF m 0 #[.val (.ref x), .val (.int 3)] [])) tt → Steps p.tables e below (s₁.setTop (entryFrame m #[(.ref x), (.int 3)] 2)) tt := fun tt k' => castTop (own_ef_cp2_3 m x 3) k'
  obtain ⟨T1, X1, e1, st1⟩ := gcls X0 hx hZ hown (ow hw 126 rfl) (ow hw 127 rfl) (ow hw 97 rfl) (ow hw 129 rfl) (ow hw 128 rfl) (ow hw 130 rfl) e0 B.exa G.2.2.2.2.2 (g := (mkF m 3 #[.val (.ref x), .val (.int 3)] [(.ref x), (.int 3), (.ref x)])) rfl (by rw [hml]; rfl) rfl (hb hby d_65_119_3) (by decide) (W := 2) (by show 2 * 0 + _ ≤ _; exact Nat.le_of_eq rfl) (by decide)
  obtain ⟨_, _, ⟨T2, L2, k2, n2⟩, -, X2, ⟨Lc2, hQ2, l2, y2, z2⟩, st2⟩ := Jvm.LawKit.callS X1 hx (y := (⟨"java/util/Arrays", "copyOf", "([Ljava/lang/Object;ILjava/lang/Class;)[Ljava/lang/Object;"⟩ : MethodName)) hown (mvT hZ (ow hw 132 rfl)) (mvT hZ (ow hw 133 rfl)) (mvT hZ (ow hw 124 rfl)) (mvT hZ (ow hw 134 rfl)) (by decide) (backOf (W := 0) (own_cp3_3 l Z a0 hw [] G x y1 y2 y3 r h0 n0 Z0 B I1 I2 I3) hZ (ow hw 134 rfl) (ow hw 124 rfl) (by decide) (by decide)) (g := (mkF m 6 #[.val (.ref x), .val (.int 3)] [(.ref MO), (.int 3), (.ref x)])) rfl (by rw [hml]; rfl) (argsL := [(.ref x), (.int 3), (.ref MO)]) (rest := []) (lenOf own_pd5 rfl) rfl (by show 2 * 0 + _ ≤ _; exact Nat.le_of_eq rfl) (hb hby d_65_119_6) (fun _ _ => ⟨rfl, e1, (by decide : 0 + 1 ≤ _), (by decide : 0 + 3 ≤ _)⟩)
  dsimp only [Pt.U, Pt.locs, Pt.cells, Pt.slots] at X2 l2 y2 z2 st2 hQ2
  subst l2 y2 z2
  obtain ⟨h2, e2⟩ : ∃ z, T2.heap = z := ⟨_, rfl⟩
  rw [e2] at hQ2
  obtain ⟨z2, rfl, N2, K2, g2, F2⟩ := hQ2
  have N3_ := Fr.app N0 N2
  have K4_ := (Keep.refl h0 []).trans K2 all0
  obtain ⟨fs, hr, hrun, hended, hW, hsame⟩ := X2.leave (v := some (.ref z2)) (fun h => by rw [Bd.returns] at h; cases h)
  refine ⟨_, _, pre0 _ ?_, hrun, hended, _, _, rfl, ?_, ⟨_, rfl⟩, hW, hsame.mono (by decide) (by decide)⟩
  · show Steps _ _ _ (s₁.setTop (mkF m 0 #[.val (.ref x), .val (.int 3)] [])) _
    refine XS.aloadN X0.here hx rfl (hb hby d_65_119_0) rfl rfl ?_
    refine XS.iloadN X0.here hx rfl (hb hby d_65_119_1) rfl ?_
    refine XS.aloadN X0.here hx rfl (hb hby d_65_119_2) rfl rfl ?_
    show Steps _ _ _ (s₁.setTop (mkF m 3 #[.val (.ref x), .val (.int 3)] [(.ref x), (.int 3), (.ref x)])) _
    refine st1 _ ?_
    show Steps _ _ _ (T1.setTop (mkF m 6 #[.val (.ref x), .val (.int 3)] [(.ref MO), (.int 3), (.ref x)])) _
    refine st2 _ ?_
    show Steps _ _ _ (T2.setTop (mkF m 9 #[.val (.ref x), .val (.int 3)] [(.ref z2)])) _
    exact retOut X2 hx Bd.returns rfl (Or.inr (Or.inr (Or.inr (Or.inr ⟨rfl, rfl, rfl⟩)))) (hb hby d_65_119_9) hr
  · show own_QCp Z 3 [.ref y1, .ref y2, .ref y3] h0 n0 _ T2.heap _
    rw [e2]
    exact ⟨z2, rfl, N3_, K4_, g2, F2⟩
theorem own_ef_toA_3 (m : MethodId) (x0 : Addr) : entryFrame m #[(.ref x0)] 1 = mkF m 0 #[.val (.ref x0)] [] := by first | (simp [entryFrame, mkF, argsToLocals, Value.category]; done) | rfl
theorem own_toA_3 (l : Launch) (Z : State) (a0 : Array Value) (hw : ∀ d ∈ tables_1, d.before a0 Z = true) (ws : List Jvm.Cond) {D IC EL EE EM MO b0 b1 : Addr} {cD cI cE : Cell} (G : own_G Z D IC EL EE EM MO b0 b1 cD cI cE) (a : Addr) (k : Int32) (x y1 y2 y3 : Addr) (r : List Value) (h0 : Heap) (n0 : Nat) (Z0 : n0 ≤ h0.size) (A : own_Al Z h0 a (.ref x) k 3) (B : own_Oa Z h0 x 10 (.ref y1 :: .ref y2 :: .ref y3 :: r)) (I1 : Ins Z h0 y1 "java/lang/Object" true) (I2 : Ins Z h0 y2 "java/lang/Object" true) (I3 : Ins Z h0 y3 "java/lang/Object" true) :
    MetFree l (⟨"java/util/ArrayList", "toArray", "()[Ljava/lang/Object;"⟩ : MethodName) (head1 (Jvm.Cond.code (⟨"java/util/ArrayList", "toArray", "()[Ljava/lang/Object;"⟩ : MethodName) jdk_38_method_16_code 1 (some (.array (.object "java/lang/Object"))) :: ws) ({ frames := 3, cells := 1, slots := 3, locals := 46 } : Room)) (fun av U => av = #[(.ref a)] ∧ Z.Warmed39 U.vm ∧ U.heap = h0) (fun _ _ _ _ _ => True) (fun _ U oc U' => ∃ v L, oc = .returned v ∧ own_QCp Z 3 [.ref y1, .ref y2, .ref y3] h0 n0 v U'.heap L ∧ FrameEnd U oc U' L ({ frames := 3, cells := 1, slots := 3, locals := 46 } : Room).cells ({ frames := 3, cells := 1, slots := 3, locals := 46 } : Room).slots) := by
  refine MetFree.of_bodySF (plainFor_of_name own_pn2) hisR ?_
  intro p e s m args below meth c s₁ Bd hml0 hP hK
  obtain ⟨rfl, hZ, hh⟩ := hP
  have hx := Bd.exec
  have hby := Bd.bytes
  have hml : c.maxLocals = 1 := hml0
  have hown : s.vm.findClass "java/util/ArrayList" = some m.cls := findClass_of_methodNamed Bd.named
  have hnm := (name_of_methodNamed Bd.named Bd.method).1
  have X0 : Stand p l e ({ frames := 3, cells := 1, slots := 3, locals := 46 } : Room) s m #[(.ref a)] below meth c s₁ [] 0 0 := Stand.of_body Bd
  have e0 : s₁.heap = h0 := by rw [← hh, Bd.state]; rfl
  have N0 := Fr.nil n0
  have pre0 : ∀ tt, Steps p.tables e below (s₁.setTop (mkF m 0 #[.val (.ref a)] [])) tt → Steps p.tables e below (s₁.setTop (entryFrame m #[(.ref a)] 1)) tt := fun tt k' => castTop (own_ef_toA_3 m a) k'
  obtain ⟨T1, X1, e1, st1⟩ := getF X0 hx hZ hown (host := "") (Or.inl (ow hw 24 rfl)) Via.refl e0 A.2.2.1 (g := (mkF m 1 #[.val (.ref a)] [(.ref a)])) rfl rfl (hb hby d_38_16_1)
  obtain ⟨T2, X2, e2, st2⟩ := getF X1 hx hZ hown (host := "") (Or.inl (ow hw 44 rfl)) Via.refl e1 A.2.2.2 (g := (mkF m 5 #[.val (.ref a)] [(.ref a), (.ref x)])) rfl rfl (hb hby d_38_16_5)
  obtain ⟨_, _, ⟨T3, L3, k3, n3⟩, -, X3, ⟨Lc3, hQ3, l3, y3, z3⟩, st3⟩ := Jvm.LawKit.callS X2 hx (y := (⟨"java/util/Arrays", "copyOf", "([Ljava/lang/Object;I)[Ljava/lang/Object;"⟩ : MethodName)) hown (mvT hZ (ow hw 122 rfl)) (mvT hZ (ow hw 123 rfl)) (mvT hZ (ow hw 124 rfl)) (mvT hZ (ow hw 125 rfl)) (by decide) (backOf (W := 0) (own_cp2_3 l Z a0 hw [] G x y1 y2 y3 r h0 n0 Z0 B I1 I2 I3) hZ (ow hw 125 rfl) (ow hw 124 rfl) (by decide) (by decide)) (g := (mkF m 8 #[.val (.ref a)] [(.int 3), (.ref x)])) rfl (by rw [hml]; rfl) (argsL := [(.ref x), (.int 3)]) (rest := []) (lenOf own_pd6 rfl) rfl (by show 2 * 0 + _ ≤ _; exact Nat.le_of_eq rfl) (hb hby d_38_16_8) (fun _ _ => ⟨rfl, e2, (by decide : 0 + 1 ≤ _), (by decide : 0 + 3 ≤ _)⟩)
  dsimp only [Pt.U, Pt.locs, Pt.cells, Pt.slots] at X3 l3 y3 z3 st3 hQ3
  subst l3 y3 z3
  obtain ⟨h3, e3⟩ : ∃ z, T3.heap = z := ⟨_, rfl⟩
  rw [e3] at hQ3
  obtain ⟨z3, rfl, N3, K3, g3, F3⟩ := hQ3
  have N4_ := Fr.app N0 N3
  have K5_ := (Keep.refl h0 []).trans K3 all0
  obtain ⟨fs, hr, hrun, hended, hW, hsame⟩ := X3.leave (v := some (.ref z3)) (fun h => by rw [Bd.returns] at h; cases h)
  refine ⟨_, _, pre0 _ ?_, hrun, hended, _, _, rfl, ?_, ⟨_, rfl⟩, hW, hsame.mono (by decide) (by decide)⟩
  · show Steps _ _ _ (s₁.setTop (mkF m 0 #[.val (.ref a)] [])) _
    refine XS.aloadN X0.here hx rfl (hb hby d_38_16_0) rfl rfl ?_
    show Steps _ _ _ (s₁.setTop (mkF m 1 #[.val (.ref a)] [(.ref a)])) _
    refine st1 _ ?_
    refine XS.aloadN X1.here hx rfl (hb hby d_38_16_4) rfl rfl ?_
    show Steps _ _ _ (T1.setTop (mkF m 5 #[.val (.ref a)] [(.ref a), (.ref x)])) _
    refine st2 _ ?_
    show Steps _ _ _ (T2.setTop (mkF m 8 #[.val (.ref a)] [(.int 3), (.ref x)])) _
    refine st3 _ ?_
    show Steps _ _ _ (T3.setTop (mkF m 11 #[.val (.ref a)] [(.ref z3)])) _
    exact retOut X3 hx Bd.returns rfl (Or.inr (Or.inr (Or.inr (Or.inr ⟨rfl, rfl, rfl⟩)))) (hb hby d_38_16_11) hr
  · show own_QCp Z 3 [.ref y1, .ref y2, .ref y3] h0 n0 _ T3.heap _
    rw [e3]
    exact ⟨z3, rfl, N4_, K5_, g3, F3⟩
theorem d_38_9_0 : decode jdk_38_method_9_code 0 = .ok (.aload_n 0, 1) := by decide +kernel
theorem d_38_9_1 : decode jdk_38_method_9_code 1 = .ok (.getfield 48, 3) := by decide +kernel
theorem d_38_9_4 : decode jdk_38_method_9_code 4 = .ok (.ifCond .ne 7, 3) := by decide +kernel
theorem d_38_9_7 : decode jdk_38_method_9_code 7 = .ok (.iconst 1, 1) := by decide +kernel
theorem d_38_9_8 : decode jdk_38_method_9_code 8 = .ok (.goto 4, 3) := by decide +kernel
theorem d_38_9_12 : decode jdk_38_method_9_code 12 = .ok (.ireturn, 1) := by decide +kernel
theorem own_ef_isE0 (m : MethodId) (x0 : Addr) : entryFrame m #[(.ref x0)] 1 = mkF m 0 #[.val (.ref x0)] [] := by first | (simp [entryFrame, mkF, argsToLocals, Value.category]; done) | rfl
theorem own_isE0 (l : Launch) (Z : State) (a0 : Array Value) (hw : ∀ d ∈ tables_1, d.before a0 Z = true) (ws : List Jvm.Cond) (a : Addr) (ev : Value) (k : Int32) (h0 : Heap) (n0 : Nat) (Z0 : n0 ≤ h0.size) (A : own_Al Z h0 a ev k 0) :
    MetFree l (⟨"java/util/ArrayList", "isEmpty", "()Z"⟩ : MethodName) (head1 (Jvm.Cond.code (⟨"java/util/ArrayList", "isEmpty", "()Z"⟩ : MethodName) jdk_38_method_9_code 1 (some .boolean) :: ws) ({ frames := 0, cells := 0, slots := 0, locals := 0 } : Room)) (fun av U => av = #[(.ref a)] ∧ Z.Warmed39 U.vm ∧ U.heap = h0) (fun _ _ _ _ _ => True) (fun _ U oc U' => ∃ v L, oc = .returned v ∧ own_QV (.int 1) h0 n0 v U'.heap L ∧ FrameEnd U oc U' L ({ frames := 0, cells := 0, slots := 0, locals := 0 } : Room).cells ({ frames := 0, cells := 0, slots := 0, locals := 0 } : Room).slots) := by
  refine MetFree.of_bodySF (plainFor_of_name own_pn2) hisR ?_
  intro p e s m args below meth c s₁ Bd hml0 hP hK
  obtain ⟨rfl, hZ, hh⟩ := hP
  have hx := Bd.exec
  have hby := Bd.bytes
  have hml : c.maxLocals = 1 := hml0
  have hown : s.vm.findClass "java/util/ArrayList" = some m.cls := findClass_of_methodNamed Bd.named
  have hnm := (name_of_methodNamed Bd.named Bd.method).1
  have X0 : Stand p l e ({ frames := 0, cells := 0, slots := 0, locals := 0 } : Room) s m #[(.ref a)] below meth c s₁ [] 0 0 := Stand.of_body Bd
  have e0 : s₁.heap = h0 := by rw [← hh, Bd.state]; rfl
  have N0 := Fr.nil n0
  have pre0 : ∀ tt, Steps p.tables e below (s₁.setTop (mkF m 0 #[.val (.ref a)] [])) tt → Steps p.tables e below (s₁.setTop (entryFrame m #[(.ref a)] 1)) tt := fun tt k' => castTop (own_ef_isE0 m a) k'
  obtain ⟨T1, X1, e1, st1⟩ := getF X0 hx hZ hown (host := "") (Or.inl (ow hw 44 rfl)) Via.refl e0 A.2.2.2 (g := (mkF m 1 #[.val (.ref a)] [(.ref a)])) rfl rfl (hb hby d_38_9_1)
  obtain ⟨fs, hr, hrun, hended, hW, hsame⟩ := X1.leave (v := some (.int 1)) (fun h => by rw [Bd.returns] at h; cases h)
  refine ⟨_, _, pre0 _ ?_, hrun, hended, _, _, rfl, ?_, ⟨_, rfl⟩, hW, hsame.mono (by decide) (by decide)⟩
  · show Steps _ _ _ (s₁.setTop (mkF m 0 #[.val (.ref a)] [])) _
    refine XS.aloadN X0.here hx rfl (hb hby d_38_9_0) rfl rfl ?_
    show Steps _ _ _ (s₁.setTop (mkF m 1 #[.val (.ref a)] [(.ref a)])) _
    refine st1 _ ?_
    show Steps _ _ _ (T1.setTop (mkF m 4 #[.val (.ref a)] [(.int 0)])) _
    refine XS.ifNo X1.here hx rfl (hb hby d_38_9_4) rfl (by decide) ?_
    refine XT.iconstV X1.here hx rfl 1 (hb hby d_38_9_7) rfl ?_
    show Steps _ _ _ (T1.setTop (mkF m 8 #[.val (.ref a)] [(.int 1)])) _
    refine XS.goto X1.here hx rfl rfl (hb hby d_38_9_8) (show (0 : Int) ≤ ((8 : Nat) : Int) + (4) by decide) (show (((8 : Nat) : Int) + (4)).toNat = 12 by decide) ?_
    show Steps _ _ _ (T1.setTop (mkF m 12 #[.val (.ref a)] [(.int 1)])) _
    exact retOut X1 hx Bd.returns rfl (Or.inl ⟨rfl, Or.inr (Or.inl rfl), _, rfl⟩) (hb hby d_38_9_12) hr
  · show own_QV (.int 1) h0 n0 _ T1.heap _
    rw [e1]
    exact ⟨rfl, N0, rfl⟩
theorem d_38_9_11 : decode jdk_38_method_9_code 11 = .ok (.iconst 0, 1) := by decide +kernel
theorem own_ef_isE1 (m : MethodId) (x0 : Addr) : entryFrame m #[(.ref x0)] 1 = mkF m 0 #[.val (.ref x0)] [] := by first | (simp [entryFrame, mkF, argsToLocals, Value.category]; done) | rfl
theorem own_isE1 (l : Launch) (Z : State) (a0 : Array Value) (hw : ∀ d ∈ tables_1, d.before a0 Z = true) (ws : List Jvm.Cond) (a : Addr) (ev : Value) (k : Int32) (h0 : Heap) (n0 : Nat) (Z0 : n0 ≤ h0.size) (A : own_Al Z h0 a ev k 1) :
    MetFree l (⟨"java/util/ArrayList", "isEmpty", "()Z"⟩ : MethodName) (head1 (Jvm.Cond.code (⟨"java/util/ArrayList", "isEmpty", "()Z"⟩ : MethodName) jdk_38_method_9_code 1 (some .boolean) :: ws) ({ frames := 0, cells := 0, slots := 0, locals := 0 } : Room)) (fun av U => av = #[(.ref a)] ∧ Z.Warmed39 U.vm ∧ U.heap = h0) (fun _ _ _ _ _ => True) (fun _ U oc U' => ∃ v L, oc = .returned v ∧ own_QV (.int 0) h0 n0 v U'.heap L ∧ FrameEnd U oc U' L ({ frames := 0, cells := 0, slots := 0, locals := 0 } : Room).cells ({ frames := 0, cells := 0, slots := 0, locals := 0 } : Room).slots) := by
  refine MetFree.of_bodySF (plainFor_of_name own_pn2) hisR ?_
  intro p e s m args below meth c s₁ Bd hml0 hP hK
  obtain ⟨rfl, hZ, hh⟩ := hP
  have hx := Bd.exec
  have hby := Bd.bytes
  have hml : c.maxLocals = 1 := hml0
  have hown : s.vm.findClass "java/util/ArrayList" = some m.cls := findClass_of_methodNamed Bd.named
  have hnm := (name_of_methodNamed Bd.named Bd.method).1
  have X0 : Stand p l e ({ frames := 0, cells := 0, slots := 0, locals := 0 } : Room) s m #[(.ref a)] below meth c s₁ [] 0 0 := Stand.of_body Bd
  have e0 : s₁.heap = h0 := by rw [← hh, Bd.state]; rfl
  have N0 := Fr.nil n0
  have pre0 : ∀ tt, Steps p.tables e below (s₁.setTop (mkF m 0 #[.val (.ref a)] [])) tt → Steps p.tables e below (s₁.setTop (entryFrame m #[(.ref a)] 1)) tt := fun tt k' => castTop (own_ef_isE1 m a) k'
  obtain ⟨T1, X1, e1, st1⟩ := getF X0 hx hZ hown (host := "") (Or.inl (ow hw 44 rfl)) Via.refl e0 A.2.2.2 (g := (mkF m 1 #[.val (.ref a)] [(.ref a)])) rfl rfl (hb hby d_38_9_1)
  obtain ⟨fs, hr, hrun, hended, hW, hsame⟩ := X1.leave (v := some (.int 0)) (fun h => by rw [Bd.returns] at h; cases h)
  refine ⟨_, _, pre0 _ ?_, hrun, hended, _, _, rfl, ?_, ⟨_, rfl⟩, hW, hsame.mono (by decide) (by decide)⟩
  · show Steps _ _ _ (s₁.setTop (mkF m 0 #[.val (.ref a)] [])) _
    refine XS.aloadN X0.here hx rfl (hb hby d_38_9_0) rfl rfl ?_
    show Steps _ _ _ (s₁.setTop (mkF m 1 #[.val (.ref a)] [(.ref a)])) _
    refine st1 _ ?_
    show Steps _ _ _ (T1.setTop (mkF m 4 #[.val (.ref a)] [(.int 1)])) _
    refine XS.ifYes X1.here hx rfl rfl (hb hby d_38_9_4) rfl (by decide) (show (0 : Int) ≤ ((4 : Nat) : Int) + (7) by decide) (show (((4 : Nat) : Int) + (7)).toNat = 11 by decide) ?_
    refine XT.iconstV X1.here hx rfl 0 (hb hby d_38_9_11) rfl ?_
    show Steps _ _ _ (T1.setTop (mkF m 12 #[.val (.ref a)] [(.int 0)])) _
    exact retOut X1 hx Bd.returns rfl (Or.inl ⟨rfl, Or.inr (Or.inl rfl), _, rfl⟩) (hb hby d_38_9_12) hr
  · show own_QV (.int 0) h0 n0 _ T1.heap _
    rw [e1]
    exact ⟨rfl, N0, rfl⟩
theorem own_ef_isE2 (m : MethodId) (x0 : Addr) : entryFrame m #[(.ref x0)] 1 = mkF m 0 #[.val (.ref x0)] [] := by first | (simp [entryFrame, mkF, argsToLocals, Value.category]; done) | rfl
theorem own_isE2 (l : Launch) (Z : State) (a0 : Array Value) (hw : ∀ d ∈ tables_1, d.before a0 Z = true) (ws : List Jvm.Cond) (a : Addr) (ev : Value) (k : Int32) (h0 : Heap) (n0 : Nat) (Z0 : n0 ≤ h0.size) (A : own_Al Z h0 a ev k 2) :
    MetFree l (⟨"java/util/ArrayList", "isEmpty", "()Z"⟩ : MethodName) (head1 (Jvm.Cond.code (⟨"java/util/ArrayList", "isEmpty", "()Z"⟩ : MethodName) jdk_38_method_9_code 1 (some .boolean) :: ws) ({ frames := 0, cells := 0, slots := 0, locals := 0 } : Room)) (fun av U => av = #[(.ref a)] ∧ Z.Warmed39 U.vm ∧ U.heap = h0) (fun _ _ _ _ _ => True) (fun _ U oc U' => ∃ v L, oc = .returned v ∧ own_QV (.int 0) h0 n0 v U'.heap L ∧ FrameEnd U oc U' L ({ frames := 0, cells := 0, slots := 0, locals := 0 } : Room).cells ({ frames := 0, cells := 0, slots := 0, locals := 0 } : Room).slots) := by
  refine MetFree.of_bodySF (plainFor_of_name own_pn2) hisR ?_
  intro p e s m args below meth c s₁ Bd hml0 hP hK
  obtain ⟨rfl, hZ, hh⟩ := hP
  have hx := Bd.exec
  have hby := Bd.bytes
  have hml : c.maxLocals = 1 := hml0
  have hown : s.vm.findClass "java/util/ArrayList" = some m.cls := findClass_of_methodNamed Bd.named
  have hnm := (name_of_methodNamed Bd.named Bd.method).1
  have X0 : Stand p l e ({ frames := 0, cells := 0, slots := 0, locals := 0 } : Room) s m #[(.ref a)] below meth c s₁ [] 0 0 := Stand.of_body Bd
  have e0 : s₁.heap = h0 := by rw [← hh, Bd.state]; rfl
  have N0 := Fr.nil n0
  have pre0 : ∀ tt, Steps p.tables e below (s₁.setTop (mkF m 0 #[.val (.ref a)] [])) tt → Steps p.tables e below (s₁.setTop (entryFrame m #[(.ref a)] 1)) tt := fun tt k' => castTop (own_ef_isE2 m a) k'
  obtain ⟨T1, X1, e1, st1⟩ := getF X0 hx hZ hown (host := "") (Or.inl (ow hw 44 rfl)) Via.refl e0 A.2.2.2 (g := (mkF m 1 #[.val (.ref a)] [(.ref a)])) rfl rfl (hb hby d_38_9_1)
  obtain ⟨fs, hr, hrun, hended, hW, hsame⟩ := X1.leave (v := some (.int 0)) (fun h => by rw [Bd.returns] at h; cases h)
  refine ⟨_, _, pre0 _ ?_, hrun, hended, _, _, rfl, ?_, ⟨_, rfl⟩, hW, hsame.mono (by decide) (by decide)⟩
  · show Steps _ _ _ (s₁.setTop (mkF m 0 #[.val (.ref a)] [])) _
    refine XS.aloadN X0.here hx rfl (hb hby d_38_9_0) rfl rfl ?_
    show Steps _ _ _ (s₁.setTop (mkF m 1 #[.val (.ref a)] [(.ref a)])) _
    refine st1 _ ?_
    show Steps _ _ _ (T1.setTop (mkF m 4 #[.val (.ref a)] [(.int 2)])) _
    refine XS.ifYes X1.here hx rfl rfl (hb hby d_38_9_4) rfl (by decide) (show (0 : Int) ≤ ((4 : Nat) : Int) + (7) by decide) (show (((4 : Nat) : Int) + (7)).toNat = 11 by decide) ?_
    refine XT.iconstV X1.here hx rfl 0 (hb hby d_38_9_11) rfl ?_
    show Steps _ _ _ (T1.setTop (mkF m 12 #[.val (.ref a)] [(.int 0)])) _
    exact retOut X1 hx Bd.returns rfl (Or.inl ⟨rfl, Or.inr (Or.inl rfl), _, rfl⟩) (hb hby d_38_9_12) hr
  · show own_QV (.int 0) h0 n0 _ T1.heap _
    rw [e1]
    exact ⟨rfl, N0, rfl⟩
theorem own_ef_isE3 (m : MethodId) (x0 : Addr) : entryFrame m #[(.ref x0)] 1 = mkF m 0 #[.val (.ref x0)] [] := by first | (simp [entryFrame, mkF, argsToLocals, Value.category]; done) | rfl
theorem own_isE3 (l : Launch) (Z : State) (a0 : Array Value) (hw : ∀ d ∈ tables_1, d.before a0 Z = true) (ws : List Jvm.Cond) (a : Addr) (ev : Value) (k : Int32) (h0 : Heap) (n0 : Nat) (Z0 : n0 ≤ h0.size) (A : own_Al Z h0 a ev k 3) :
    MetFree l (⟨"java/util/ArrayList", "isEmpty", "()Z"⟩ : MethodName) (head1 (Jvm.Cond.code (⟨"java/util/ArrayList", "isEmpty", "()Z"⟩ : MethodName) jdk_38_method_9_code 1 (some .boolean) :: ws) ({ frames := 0, cells := 0, slots := 0, locals := 0 } : Room)) (fun av U => av = #[(.ref a)] ∧ Z.Warmed39 U.vm ∧ U.heap = h0) (fun _ _ _ _ _ => True) (fun _ U oc U' => ∃ v L, oc = .returned v ∧ own_QV (.int 0) h0 n0 v U'.heap L ∧ FrameEnd U oc U' L ({ frames := 0, cells := 0, slots := 0, locals := 0 } : Room).cells ({ frames := 0, cells := 0, slots := 0, locals := 0 } : Room).slots) := by
  refine MetFree.of_bodySF (plainFor_of_name own_pn2) hisR ?_
  intro p e s m args below meth c s₁ Bd hml0 hP hK
  obtain ⟨rfl, hZ, hh⟩ := hP
  have hx := Bd.exec
  have hby := Bd.bytes
  have hml : c.maxLocals = 1 := hml0
  have hown : s.vm.findClass "java/util/ArrayList" = some m.cls := findClass_of_methodNamed Bd.named
  have hnm := (name_of_methodNamed Bd.named Bd.method).1
  have X0 : Stand p l e ({ frames := 0, cells := 0, slots := 0, locals := 0 } : Room) s m #[(.ref a)] below meth c s₁ [] 0 0 := Stand.of_body Bd
  have e0 : s₁.heap = h0 := by rw [← hh, Bd.state]; rfl
  have N0 := Fr.nil n0
  have pre0 : ∀ tt, Steps p.tables e below (s₁.setTop (mkF m 0 #[.val (.ref a)] [])) tt → Steps p.tables e below (s₁.setTop (entryFrame m #[(.ref a)] 1)) tt := fun tt k' => castTop (own_ef_isE3 m a) k'
  obtain ⟨T1, X1, e1, st1⟩ := getF X0 hx hZ hown (host := "") (Or.inl (ow hw 44 rfl)) Via.refl e0 A.2.2.2 (g := (mkF m 1 #[.val (.ref a)] [(.ref a)])) rfl rfl (hb hby d_38_9_1)
  obtain ⟨fs, hr, hrun, hended, hW, hsame⟩ := X1.leave (v := some (.int 0)) (fun h => by rw [Bd.returns] at h; cases h)
  refine ⟨_, _, pre0 _ ?_, hrun, hended, _, _, rfl, ?_, ⟨_, rfl⟩, hW, hsame.mono (by decide) (by decide)⟩
  · show Steps _ _ _ (s₁.setTop (mkF m 0 #[.val (.ref a)] [])) _
    refine XS.aloadN X0.here hx rfl (hb hby d_38_9_0) rfl rfl ?_
    show Steps _ _ _ (s₁.setTop (mkF m 1 #[.val (.ref a)] [(.ref a)])) _
    refine st1 _ ?_
    show Steps _ _ _ (T1.setTop (mkF m 4 #[.val (.ref a)] [(.int 3)])) _
    refine XS.ifYes X1.here hx rfl rfl (hb hby d_38_9_4) rfl (by decide) (show (0 : Int) ≤ ((4 : Nat) : Int) + (7) by decide) (show (((4 : Nat) : Int) + (7)).toNat = 11 by decide) ?_
    refine XT.iconstV X1.here hx rfl 0 (hb hby d_38_9_11) rfl ?_
    show Steps _ _ _ (T1.setTop (mkF m 12 #[.val (.ref a)] [(.int 0)])) _
    exact retOut X1 hx Bd.returns rfl (Or.inl ⟨rfl, Or.inr (Or.inl rfl), _, rfl⟩) (hb hby d_38_9_12) hr
  · show own_QV (.int 0) h0 n0 _ T1.heap _
    rw [e1]
    exact ⟨rfl, N0, rfl⟩
theorem own_pn5 : plainName "java/util/List" = true := by first | (simp [plainName, overriddenIn]; done) | decide +kernel
theorem d_40_36_0 : decode jdk_40_method_36_code 0 = .ok (.getstatic 90, 3) := by decide +kernel
theorem d_40_36_3 : decode jdk_40_method_36_code 3 = .ok (.areturn, 1) := by decide +kernel
theorem own_ef_of0 (m : MethodId)  : entryFrame m #[] 0 = mkF m 0 #[] [] := by first | (simp [entryFrame, mkF, argsToLocals, Value.category]; done) | rfl
theorem own_of0 (l : Launch) (Z : State) (a0 : Array Value) (hw : ∀ d ∈ tables_1, d.before a0 Z = true) (ws : List Jvm.Cond) {D IC EL EE EM MO b0 b1 : Addr} {cD cI cE : Cell} (G : own_G Z D IC EL EE EM MO b0 b1 cD cI cE)  (h0 : Heap) (n0 : Nat) (Z0 : n0 ≤ h0.size)  (O : Old Z n0 h0) :
    MetFree l (⟨"java/util/List", "of", "()Ljava/util/List;"⟩ : MethodName) (head1 (Jvm.Cond.code (⟨"java/util/List", "of", "()Ljava/util/List;"⟩ : MethodName) jdk_40_method_36_code 0 (some (.object "java/util/List")) :: ws) ({ frames := 0, cells := 0, slots := 0, locals := 0 } : Room)) (fun av U => av = #[] ∧ Z.Warmed39 U.vm ∧ U.heap = h0) (fun _ _ _ _ _ => True) (fun _ U oc U' => ∃ v L, oc = .returned v ∧ own_QV (.ref EL) h0 n0 v U'.heap L ∧ FrameEnd U oc U' L ({ frames := 0, cells := 0, slots := 0, locals := 0 } : Room).cells ({ frames := 0, cells := 0, slots := 0, locals := 0 } : Room).slots) := by
  refine MetFree.of_bodySF (plainFor_of_name own_pn5) hisR ?_
  intro p e s m args below meth c s₁ Bd hml0 hP hK
  obtain ⟨rfl, hZ, hh⟩ := hP
  have hx := Bd.exec
  have hby := Bd.bytes
  have hml : c.maxLocals = 0 := hml0
  have hown : s.vm.findClass "java/util/List" = some m.cls := findClass_of_methodNamed Bd.named
  have hnm := (name_of_methodNamed Bd.named Bd.method).1
  have X0 : Stand p l e ({ frames := 0, cells := 0, slots := 0, locals := 0 } : Room) s m #[] below meth c s₁ [] 0 0 := Stand.of_body Bd
  have e0 : s₁.heap = h0 := by rw [← hh, Bd.state]; rfl
  have N0 := Fr.nil n0
  have pre0 : ∀ tt, Steps p.tables e below (s₁.setTop (mkF m 0 #[] [])) tt → Steps p.tables e below (s₁.setTop (entryFrame m #[] 0)) tt := fun tt k' => castTop (own_ef_of0 m ) k'
  obtain ⟨T1, X1, e1, st1⟩ := getS2 X0 hx hZ hown (host := "") (Or.inl (ow hw 111 rfl)) Via.refl e0 (G.2.2.2.1.1.ext O.2) (g := (mkF m 0 #[] [])) rfl (hb hby d_40_36_0)
  obtain ⟨fs, hr, hrun, hended, hW, hsame⟩ := X1.leave (v := some (.ref EL)) (fun h => by rw [Bd.returns] at h; cases h)
  refine ⟨_, _, pre0 _ ?_, hrun, hended, _, _, rfl, ?_, ⟨_, rfl⟩, hW, hsame.mono (by decide) (by decide)⟩
  · show Steps _ _ _ (s₁.setTop (mkF m 0 #[] [])) _
    refine st1 _ ?_
    show Steps _ _ _ (T1.setTop (mkF m 3 #[] [(.ref EL)])) _
    exact retOut X1 hx Bd.returns rfl (Or.inr (Or.inr (Or.inr (Or.inr ⟨rfl, rfl, rfl⟩)))) (hb hby d_40_36_3) hr
  · show own_QV (.ref EL) h0 n0 _ T1.heap _
    rw [e1]
    exact ⟨rfl, N0, rfl⟩
theorem own_pn6 : plainName "java/util/Objects" = true := by first | (simp [plainName, overriddenIn]; done) | decide +kernel
theorem d_31_10_0 : decode jdk_31_method_10_code 0 = .ok (.aload_n 0, 1) := by decide +kernel
theorem d_31_10_1 : decode jdk_31_method_10_code 1 = .ok (.ifnonnull 11, 3) := by decide +kernel
theorem d_31_10_12 : decode jdk_31_method_10_code 12 = .ok (.aload_n 0, 1) := by decide +kernel
theorem d_31_10_13 : decode jdk_31_method_10_code 13 = .ok (.areturn, 1) := by decide +kernel
theorem own_ef_rnn (m : MethodId) (x0 : Addr) : entryFrame m #[(.ref x0)] 1 = mkF m 0 #[.val (.ref x0)] [] := by first | (simp [entryFrame, mkF, argsToLocals, Value.category]; done) | rfl
theorem own_rnn (l : Launch) (Z : State) (a0 : Array Value) (hw : ∀ d ∈ tables_1, d.before a0 Z = true) (ws : List Jvm.Cond) (y : Addr) (h0 : Heap) (n0 : Nat) (Z0 : n0 ≤ h0.size)  :
    MetFree l (⟨"java/util/Objects", "requireNonNull", "(Ljava/lang/Object;)Ljava/lang/Object;"⟩ : MethodName) (head1 (Jvm.Cond.code (⟨"java/util/Objects", "requireNonNull", "(Ljava/lang/Object;)Ljava/lang/Object;"⟩ : MethodName) jdk_31_method_10_code 1 (some (.object "java/lang/Object")) :: ws) ({ frames := 0, cells := 0, slots := 0, locals := 0 } : Room)) (fun av U => av = #[(.ref y)] ∧ Z.Warmed39 U.vm ∧ U.heap = h0) (fun _ _ _ _ _ => True) (fun _ U oc U' => ∃ v L, oc = .returned v ∧ own_QV (.ref y) h0 n0 v U'.heap L ∧ FrameEnd U oc U' L ({ frames := 0, cells := 0, slots := 0, locals := 0 } : Room).cells ({ frames := 0, cells := 0, slots := 0, locals := 0 } : Room).slots) := by
  refine MetFree.of_bodySF (plainFor_of_name own_pn6) hisR ?_
  intro p e s m args below meth c s₁ Bd hml0 hP hK
  obtain ⟨rfl, hZ, hh⟩ := hP
  have hx := Bd.exec
  have hby := Bd.bytes
  have hml : c.maxLocals = 1 := hml0
  have hown : s.vm.findClass "java/util/Objects" = some m.cls := findClass_of_methodNamed Bd.named
  have hnm := (name_of_methodNamed Bd.named Bd.method).1
  have X0 : Stand p l e ({ frames := 0, cells := 0, slots := 0, locals := 0 } : Room) s m #[(.ref y)] below meth c s₁ [] 0 0 := Stand.of_body Bd
  have e0 : s₁.heap = h0 := by rw [← hh, Bd.state]; rfl
  have N0 := Fr.nil n0
  have pre0 : ∀ tt, Steps p.tables e below (s₁.setTop (mkF m 0 #[.val (.ref y)] [])) tt → Steps p.tables e below (s₁.setTop (entryFrame m #[(.ref y)] 1)) tt := fun tt k' => castTop (own_ef_rnn m y) k'
  obtain ⟨fs, hr, hrun, hended, hW, hsame⟩ := X0.leave (v := some (.ref y)) (fun h => by rw [Bd.returns] at h; cases h)
  refine ⟨_, _, pre0 _ ?_, hrun, hended, _, _, rfl, ?_, ⟨_, rfl⟩, hW, hsame.mono (by decide) (by decide)⟩
  · show Steps _ _ _ (s₁.setTop (mkF m 0 #[.val (.ref y)] [])) _
    refine XS.aloadN X0.here hx rfl (hb hby d_31_10_0) rfl rfl ?_
    show Steps _ _ _ (s₁.setTop (mkF m 1 #[.val (.ref y)] [(.ref y)])) _
    refine XT.ifnonnullYes X0.here hx rfl rfl (hb hby d_31_10_1) rfl (show (0 : Int) ≤ ((1 : Nat) : Int) + (11) by decide) (show (((1 : Nat) : Int) + (11)).toNat = 12 by decide) ?_
    refine XS.aloadN X0.here hx rfl (hb hby d_31_10_12) rfl rfl ?_
    show Steps _ _ _ (s₁.setTop (mkF m 13 #[.val (.ref y)] [(.ref y)])) _
    exact retOut X0 hx Bd.returns rfl (Or.inr (Or.inr (Or.inr (Or.inr ⟨rfl, rfl, rfl⟩)))) (hb hby d_31_10_13) hr
  · show own_QV (.ref y) h0 n0 _ s₁.heap _
    rw [e0]
    exact ⟨rfl, N0, rfl⟩
theorem own_pn7 : plainName "java/util/ImmutableCollections$AbstractImmutableCollection" = true := by first | (simp [plainName, overriddenIn]; done) | decide +kernel
theorem d_47_1_0 : decode jdk_47_method_1_code 0 = .ok (.aload_n 0, 1) := by decide +kernel
theorem d_47_1_1 : decode jdk_47_method_1_code 1 = .ok (.invokespecial 1, 3) := by decide +kernel
theorem d_47_1_4 : decode jdk_47_method_1_code 4 = .ok (.return_, 1) := by decide +kernel
theorem own_ef_aic (m : MethodId) (x0 : Addr) : entryFrame m #[(.ref x0)] 1 = mkF m 0 #[.val (.ref x0)] [] := by first | (simp [entryFrame, mkF, argsToLocals, Value.category]; done) | rfl
theorem own_aic (l : Launch) (Z : State) (a0 : Array Value) (hw : ∀ d ∈ tables_1, d.before a0 Z = true) (ws : List Jvm.Cond) (a : Addr) (h0 : Heap) (n0 : Nat) (Z0 : n0 ≤ h0.size)  :
    MetFree l (⟨"java/util/ImmutableCollections$AbstractImmutableCollection", "<init>", "()V"⟩ : MethodName) (head1 (Jvm.Cond.code (⟨"java/util/ImmutableCollections$AbstractImmutableCollection", "<init>", "()V"⟩ : MethodName) jdk_47_method_1_code 1 none :: ws) ({ frames := 2, cells := 0, slots := 0, locals := 24 } : Room)) (fun av U => av = #[(.ref a)] ∧ Z.Warmed39 U.vm ∧ U.heap = h0) (fun _ _ _ _ _ => True) (fun _ U oc U' => ∃ v L, oc = .returned v ∧ own_QN h0 n0 v U'.heap L ∧ FrameEnd U oc U' L ({ frames := 2, cells := 0, slots := 0, locals := 24 } : Room).cells ({ frames := 2, cells := 0, slots := 0, locals := 24 } : Room).slots) := by
  refine MetFree.of_bodySF (plainFor_of_name own_pn7) hisR ?_
  intro p e s m args below meth c s₁ Bd hml0 hP hK
  obtain ⟨rfl, hZ, hh⟩ := hP
  have hx := Bd.exec
  have hby := Bd.bytes
  have hml : c.maxLocals = 1 := hml0
  have hown : s.vm.findClass "java/util/ImmutableCollections$AbstractImmutableCollection" = some m.cls := findClass_of_methodNamed Bd.named
  have hnm := (name_of_methodNamed Bd.named Bd.method).1
  have X0 : Stand p l e ({ frames := 2, cells := 0, slots := 0, locals := 24 } : Room) s m #[(.ref a)] below meth c s₁ [] 0 0 := Stand.of_body Bd
  have e0 : s₁.heap = h0 := by rw [← hh, Bd.state]; rfl
  have N0 := Fr.nil n0
  have pre0 : ∀ tt, Steps p.tables e below (s₁.setTop (mkF m 0 #[.val (.ref a)] [])) tt → Steps p.tables e below (s₁.setTop (entryFrame m #[(.ref a)] 1)) tt := fun tt k' => castTop (own_ef_aic m a) k'
  obtain ⟨_, _, ⟨T1, L1, k1, n1⟩, -, X1, ⟨Lc1, hQ1, l1, y1, z1⟩, st1⟩ := X0.specialBack hx (y := (⟨"java/util/AbstractCollection", "<init>", "()V"⟩ : MethodName)) rfl hown (mvT hZ (ow hw 166 rfl)) (mvT hZ (ow hw 13 rfl)) (mvT hZ (ow hw 17 rfl)) (by decide) (backOf (W := 0) (own_aci l Z a0 hw [] a h0 n0 Z0) hZ (ow hw 17 rfl) (ow hw 16 rfl) (by decide) (by decide)) (g := (mkF m 1 #[.val (.ref a)] [(.ref a)])) rfl (by rw [hml]; rfl) (Steps.refl _) (a := a) (argsL := []) (rest := []) (lenOf own_pd0 rfl) rfl (by show 2 * 0 + _ ≤ _; exact Nat.le_of_eq rfl) (hb hby d_47_1_1) (fun _ _ => ⟨rfl, e0, (by decide : 0 + 0 ≤ _), (by decide : 0 + 0 ≤ _)⟩)
  dsimp only [Pt.U, Pt.locs, Pt.cells, Pt.slots] at X1 l1 y1 z1 st1 hQ1
  subst l1 y1 z1
  obtain ⟨rfl, N1, e1⟩ := hQ1
  have N2_ := Fr.app N0 N1
  obtain ⟨fs, hr, hrun, hended, hW, hsame⟩ := X1.leave (v := none) (fun _ => rfl)
  refine ⟨_, _, pre0 _ ?_, hrun, hended, _, _, rfl, ?_, ⟨_, rfl⟩, hW, hsame.mono (by decide) (by decide)⟩
  · show Steps _ _ _ (s₁.setTop (mkF m 0 #[.val (.ref a)] [])) _
    refine XS.aloadN X0.here hx rfl (hb hby d_47_1_0) rfl rfl ?_
    show Steps _ _ _ (s₁.setTop (mkF m 1 #[.val (.ref a)] [(.ref a)])) _
    refine st1.trans ?_
    show Steps _ _ _ (T1.setTop (mkF m 4 #[.val (.ref a)] [])) _
    exact X1.returnOut hx Bd.returns (hb hby d_47_1_4) hr
  · show own_QN h0 n0 _ T1.heap _
    rw [e1]
    exact ⟨rfl, N2_, rfl⟩
theorem own_pn8 : plainName "java/util/ImmutableCollections$AbstractImmutableList" = true := by first | (simp [plainName, overriddenIn]; done) | decide +kernel
theorem d_46_1_0 : decode jdk_46_method_1_code 0 = .ok (.aload_n 0, 1) := by decide +kernel
theorem d_46_1_1 : decode jdk_46_method_1_code 1 = .ok (.invokespecial 1, 3) := by decide +kernel
theorem d_46_1_4 : decode jdk_46_method_1_code 4 = .ok (.return_, 1) := by decide +kernel
theorem own_ef_ail (m : MethodId) (x0 : Addr) : entryFrame m #[(.ref x0)] 1 = mkF m 0 #[.val (.ref x0)] [] := by first | (simp [entryFrame, mkF, argsToLocals, Value.category]; done) | rfl
theorem own_ail (l : Launch) (Z : State) (a0 : Array Value) (hw : ∀ d ∈ tables_1, d.before a0 Z = true) (ws : List Jvm.Cond) (a : Addr) (h0 : Heap) (n0 : Nat) (Z0 : n0 ≤ h0.size)  :
    MetFree l (⟨"java/util/ImmutableCollections$AbstractImmutableList", "<init>", "()V"⟩ : MethodName) (head1 (Jvm.Cond.code (⟨"java/util/ImmutableCollections$AbstractImmutableList", "<init>", "()V"⟩ : MethodName) jdk_46_method_1_code 1 none :: ws) ({ frames := 3, cells := 0, slots := 0, locals := 36 } : Room)) (fun av U => av = #[(.ref a)] ∧ Z.Warmed39 U.vm ∧ U.heap = h0) (fun _ _ _ _ _ => True) (fun _ U oc U' => ∃ v L, oc = .returned v ∧ own_QN h0 n0 v U'.heap L ∧ FrameEnd U oc U' L ({ frames := 3, cells := 0, slots := 0, locals := 36 } : Room).cells ({ frames := 3, cells := 0, slots := 0, locals := 36 } : Room).slots) := by
  refine MetFree.of_bodySF (plainFor_of_name own_pn8) hisR ?_
  intro p e s m args below meth c s₁ Bd hml0 hP hK
  obtain ⟨rfl, hZ, hh⟩ := hP
  have hx := Bd.exec
  have hby := Bd.bytes
  have hml : c.maxLocals = 1 := hml0
  have hown : s.vm.findClass "java/util/ImmutableCollections$AbstractImmutableList" = some m.cls := findClass_of_methodNamed Bd.named
  have hnm := (name_of_methodNamed Bd.named Bd.method).1
  have X0 : Stand p l e ({ frames := 3, cells := 0, slots := 0, locals := 36 } : Room) s m #[(.ref a)] below meth c s₁ [] 0 0 := Stand.of_body Bd
  have e0 : s₁.heap = h0 := by rw [← hh, Bd.state]; rfl
  have N0 := Fr.nil n0
  have pre0 : ∀ tt, Steps p.tables e below (s₁.setTop (mkF m 0 #[.val (.ref a)] [])) tt → Steps p.tables e below (s₁.setTop (entryFrame m #[(.ref a)] 1)) tt := fun tt k' => castTop (own_ef_ail m a) k'
  obtain ⟨_, _, ⟨T1, L1, k1, n1⟩, -, X1, ⟨Lc1, hQ1, l1, y1, z1⟩, st1⟩ := X0.specialBack hx (y := (⟨"java/util/ImmutableCollections$AbstractImmutableCollection", "<init>", "()V"⟩ : MethodName)) rfl hown (mvT hZ (ow hw 160 rfl)) (mvT hZ (ow hw 161 rfl)) (mvT hZ (ow hw 165 rfl)) (by decide) (backOf (W := 0) (own_aic l Z a0 hw [] a h0 n0 Z0) hZ (ow hw 165 rfl) (ow hw 164 rfl) (by decide) (by decide)) (g := (mkF m 1 #[.val (.ref a)] [(.ref a)])) rfl (by rw [hml]; rfl) (Steps.refl _) (a := a) (argsL := []) (rest := []) (lenOf own_pd0 rfl) rfl (by show 2 * 0 + _ ≤ _; exact Nat.le_of_eq rfl) (hb hby d_46_1_1) (fun _ _ => ⟨rfl, e0, (by decide : 0 + 0 ≤ _), (by decide : 0 + 0 ≤ _)⟩)
  dsimp only [Pt.U, Pt.locs, Pt.cells, Pt.slots] at X1 l1 y1 z1 st1 hQ1
  subst l1 y1 z1
  obtain ⟨rfl, N1, e1⟩ := hQ1
  have N2_ := Fr.app N0 N1
  obtain ⟨fs, hr, hrun, hended, hW, hsame⟩ := X1.leave (v := none) (fun _ => rfl)
  refine ⟨_, _, pre0 _ ?_, hrun, hended, _, _, rfl, ?_, ⟨_, rfl⟩, hW, hsame.mono (by decide) (by decide)⟩
  · show Steps _ _ _ (s₁.setTop (mkF m 0 #[.val (.ref a)] [])) _
    refine XS.aloadN X0.here hx rfl (hb hby d_46_1_0) rfl rfl ?_
    show Steps _ _ _ (s₁.setTop (mkF m 1 #[.val (.ref a)] [(.ref a)])) _
    refine st1.trans ?_
    show Steps _ _ _ (T1.setTop (mkF m 4 #[.val (.ref a)] [])) _
    exact X1.returnOut hx Bd.returns (hb hby d_46_1_4) hr
  · show own_QN h0 n0 _ T1.heap _
    rw [e1]
    exact ⟨rfl, N2_, rfl⟩
theorem own_pd7 : parseMethodDescriptor "(Ljava/lang/Object;)Ljava/lang/Object;" = some ⟨[(.object "java/lang/Object")], some (.object "java/lang/Object")⟩ := by decide +kernel
theorem own_pn9 : plainName "java/util/ImmutableCollections$List12" = true := by first | (simp [plainName, overriddenIn]; done) | decide +kernel
theorem d_44_1_0 : decode jdk_44_method_1_code 0 = .ok (.aload_n 0, 1) := by decide +kernel
theorem d_44_1_1 : decode jdk_44_method_1_code 1 = .ok (.invokespecial 1, 3) := by decide +kernel
theorem d_44_1_4 : decode jdk_44_method_1_code 4 = .ok (.aload_n 0, 1) := by decide +kernel
theorem d_44_1_5 : decode jdk_44_method_1_code 5 = .ok (.aload_n 1, 1) := by decide +kernel
theorem d_44_1_6 : decode jdk_44_method_1_code 6 = .ok (.invokestatic 7, 3) := by decide +kernel
theorem d_44_1_9 : decode jdk_44_method_1_code 9 = .ok (.putfield 13, 3) := by decide +kernel
theorem d_44_1_12 : decode jdk_44_method_1_code 12 = .ok (.aload_n 0, 1) := by decide +kernel
theorem d_44_1_13 : decode jdk_44_method_1_code 13 = .ok (.getstatic 19, 3) := by decide +kernel
theorem d_44_1_16 : decode jdk_44_method_1_code 16 = .ok (.putfield 24, 3) := by decide +kernel
theorem d_44_1_19 : decode jdk_44_method_1_code 19 = .ok (.return_, 1) := by decide +kernel
theorem own_ef_L1i (m : MethodId) (x0 : Addr) (x1 : Addr) : entryFrame m #[(.ref x0), (.ref x1)] 2 = mkF m 0 #[.val (.ref x0), .val (.ref x1)] [] := by first | (simp [entryFrame, mkF, argsToLocals, Value.category]; done) | rfl
theorem own_L1i (l : Launch) (Z : State) (a0 : Array Value) (hw : ∀ d ∈ tables_1, d.before a0 Z = true) (ws : List Jvm.Cond) {D IC EL EE EM MO b0 b1 : Addr} {cD cI cE : Cell} (G : own_G Z D IC EL EE EM MO b0 b1 cD cI cE) (o y : Addr) (v0 v1 : Value) (h0 : Heap) (n0 : Nat) (Z0 : n0 ≤ h0.size) (A : own_L12 Z h0 o v0 v1) (go : n0 ≤ o) (O : Old Z n0 h0) :
    MetFree l (⟨"java/util/ImmutableCollections$List12", "<init>", "(Ljava/lang/Object;)V"⟩ : MethodName) (head1 (Jvm.Cond.code (⟨"java/util/ImmutableCollections$List12", "<init>", "(Ljava/lang/Object;)V"⟩ : MethodName) jdk_44_method_1_code 2 none :: ws) ({ frames := 4, cells := 0, slots := 0, locals := 48 } : Room)) (fun av U => av = #[(.ref o), (.ref y)] ∧ Z.Warmed39 U.vm ∧ U.heap = h0) (fun _ _ _ _ _ => True) (fun _ U oc U' => ∃ v L, oc = .returned v ∧ own_QL12 Z o (.ref y) (.ref EM) h0 n0 v U'.heap L ∧ FrameEnd U oc U' L ({ frames := 4, cells := 0, slots := 0, locals := 48 } : Room).cells ({ frames := 4, cells := 0, slots := 0, locals := 48 } : Room).slots) := by
  refine MetFree.of_bodySF (plainFor_of_name own_pn9) hisR ?_
  intro p e s m args below meth c s₁ Bd hml0 hP hK
  obtain ⟨rfl, hZ, hh⟩ := hP
  have hx := Bd.exec
  have hby := Bd.bytes
  have hml : c.maxLocals = 2 := hml0
  have hown : s.vm.findClass "java/util/ImmutableCollections$List12" = some m.cls := findClass_of_methodNamed Bd.named
  have hnm := (name_of_methodNamed Bd.named Bd.method).1
  have X0 : Stand p l e ({ frames := 4, cells := 0, slots := 0, locals := 48 } : Room) s m #[(.ref o), (.ref y)] below meth c s₁ [] 0 0 := Stand.of_body Bd
  have e0 : s₁.heap = h0 := by rw [← hh, Bd.state]; rfl
  have N0 := Fr.nil n0
  have pre0 : ∀ tt, Steps p.tables e below (s₁.setTop (mkF m 0 #[.val (.ref o), .val (.ref y)] [])) tt → Steps p.tables e below (s₁.setTop (entryFrame m #[(.ref o), (.ref y)] 2)) tt := fun tt k' => castTop (own_ef_L1i m o y) k'
  obtain ⟨_, _, ⟨T1, L1, k1, n1⟩, -, X1, ⟨Lc1, hQ1, l1, y1, z1⟩, st1⟩ := X0.specialBack hx (y := (⟨"java/util/ImmutableCollections$AbstractImmutableList", "<init>", "()V"⟩ : MethodName)) rfl hown (mvT hZ (ow hw 154 rfl)) (mvT hZ (ow hw 155 rfl)) (mvT hZ (ow hw 159 rfl)) (by decide) (backOf (W := 0) (own_ail l Z a0 hw [] o h0 n0 Z0) hZ (ow hw 159 rfl) (ow hw 158 rfl) (by decide) (by decide)) (g := (mkF m 1 #[.val (.ref o), .val (.ref y)] [(.ref o)])) rfl (by rw [hml]; rfl) (Steps.refl _) (a := o) (argsL := []) (rest := []) (lenOf own_pd0 rfl) rfl (by show 2 * 0 + _ ≤ _; exact Nat.le_of_eq rfl) (hb hby d_44_1_1) (fun _ _ => ⟨rfl, e0, (by decide : 0 + 0 ≤ _), (by decide : 0 + 0 ≤ _)⟩)
  dsimp only [Pt.U, Pt.locs, Pt.cells, Pt.slots] at X1 l1 y1 z1 st1 hQ1
  subst l1 y1 z1
  obtain ⟨rfl, N1, e1⟩ := hQ1
  have N2_ := Fr.app N0 N1
  obtain ⟨_, _, ⟨T3, L3, k3, n3⟩, -, X3, ⟨Lc3, hQ3, l3, y3, z3⟩, st3⟩ := Jvm.LawKit.callS X1 hx (y := (⟨"java/util/Objects", "requireNonNull", "(Ljava/lang/Object;)Ljava/lang/Object;"⟩ : MethodName)) hown (mvT hZ (ow hw 168 rfl)) (mvT hZ (ow hw 169 rfl)) (mvT hZ (ow hw 170 rfl)) (mvT hZ (ow hw 171 rfl)) (by decide) (backOf (W := 1) (own_rnn l Z a0 hw [] y h0 n0 Z0) hZ (ow hw 171 rfl) (ow hw 170 rfl) (by decide) (by decide)) (g := (mkF m 6 #[.val (.ref o), .val (.ref y)] [(.ref y), (.ref o)])) rfl (by rw [hml]; rfl) (argsL := [(.ref y)]) (rest := [(.ref o)]) (lenOf own_pd7 rfl) rfl (by show 2 * 0 + _ ≤ _; exact Nat.le_of_eq rfl) (hb hby d_44_1_6) (fun _ _ => ⟨rfl, e1, (by decide : 0 + 0 ≤ _), (by decide : 0 + 0 ≤ _)⟩)
  dsimp only [Pt.U, Pt.locs, Pt.cells, Pt.slots] at X3 l3 y3 z3 st3 hQ3
  subst l3 y3 z3
  obtain ⟨rfl, N3, e3⟩ := hQ3
  have N4_ := Fr.app N2_ N3
  obtain ⟨T5, h5, X5, e5, W5, st5⟩ := putF X3 hx hZ hown (host := "") (Or.inl (ow hw 172 rfl)) Via.refl e3 A.2.1 A.1 (Or.inr ⟨(ow hw 173 rfl), rfl, hnm⟩) (ow hw 148 rfl) (ty := (.object "java/lang/Object")) (by decide) rfl rfl (g := (mkF m 9 #[.val (.ref o), .val (.ref y)] [(.ref y), (.ref o)])) rfl rfl (hb hby d_44_1_9)
  have N5 := Fr.snoc X5 N4_ go
  have K6_ := (Keep.refl h0 [o]).wr W5 (Or.inl (List.mem_of_getElem? (i := 0) rfl))
  have F5 := A.2.1.same W5
  have f7_ := (O.wr W5 go)
  obtain ⟨T8, X8, e8, st8⟩ := getS2 X5 hx hZ hown (Or.inr (ow hw 174 rfl)) Via.refl e5 (G.2.2.2.2.1.1.ext f7_.2) (g := (mkF m 13 #[.val (.ref o), .val (.ref y)] [(.ref o)])) rfl (hb hby d_44_1_13)
  have f10_ := (A.2.2.other W5 (Or.inr (slot_ne (Or.inr (ow hw 176 rfl)) (Or.inr (ow hw 173 rfl)) (by decide) (t := (.object "java/lang/Object")) (by decide) (t' := (.object "java/lang/Object")) (by decide))))
  have f11_ := (A.1.wr W5)
  obtain ⟨T9, h9, X9, e9, W9, st9⟩ := putF X8 hx hZ hown (host := "") (Or.inl (ow hw 175 rfl)) Via.refl e8 f10_ f11_ (Or.inr ⟨(ow hw 176 rfl), rfl, hnm⟩) (ow hw 148 rfl) (ty := (.object "java/lang/Object")) (by decide) rfl rfl (g := (mkF m 16 #[.val (.ref o), .val (.ref y)] [(.ref EM), (.ref o)])) rfl rfl (hb hby d_44_1_16)
  have N9 := Fr.snoc X9 N5 go
  have K12_ := K6_.wr W9 (Or.inl (List.mem_of_getElem? (i := 0) rfl))
  have F9 := f10_.same W9
  have f13_ := (f11_.wr W9)
  have f14_ := (F5.other W9 (Or.inr (slot_ne (Or.inr (ow hw 173 rfl)) (Or.inr (ow hw 176 rfl)) (by decide) (t := (.object "java/lang/Object")) (by decide) (t' := (.object "java/lang/Object")) (by decide))))
  obtain ⟨fs, hr, hrun, hended, hW, hsame⟩ := X9.leave (v := none) (fun _ => rfl)
  refine ⟨_, _, pre0 _ ?_, hrun, hended, _, _, rfl, ?_, ⟨_, rfl⟩, hW, hsame.mono (by decide) (by decide)⟩
  · show Steps _ _ _ (s₁.setTop (mkF m 0 #[.val (.ref o), .val (.ref y)] [])) _
    refine XS.aloadN X0.here hx rfl (hb hby d_44_1_0) rfl rfl ?_
    show Steps _ _ _ (s₁.setTop (mkF m 1 #[.val (.ref o), .val (.ref y)] [(.ref o)])) _
    refine st1.trans ?_
    refine XS.aloadN X1.here hx rfl (hb hby d_44_1_4) rfl rfl ?_
    refine XS.aloadN X1.here hx rfl (hb hby d_44_1_5) rfl rfl ?_
    show Steps _ _ _ (T1.setTop (mkF m 6 #[.val (.ref o), .val (.ref y)] [(.ref y), (.ref o)])) _
    refine st3 _ ?_
    show Steps _ _ _ (T3.setTop (mkF m 9 #[.val (.ref o), .val (.ref y)] [(.ref y), (.ref o)])) _
    refine st5 _ ?_
    refine XS.aloadN X5.here hx rfl (hb hby d_44_1_12) rfl rfl ?_
    show Steps _ _ _ (T5.setTop (mkF m 13 #[.val (.ref o), .val (.ref y)] [(.ref o)])) _
    refine st8 _ ?_
    show Steps _ _ _ (T8.setTop (mkF m 16 #[.val (.ref o), .val (.ref y)] [(.ref EM), (.ref o)])) _
    refine st9 _ ?_
    show Steps _ _ _ (T9.setTop (mkF m 19 #[.val (.ref o), .val (.ref y)] [])) _
    exact X9.returnOut hx Bd.returns (hb hby d_44_1_19) hr
  · show own_QL12 Z o (.ref y) (.ref EM) h0 n0 _ T9.heap _
    rw [e9]
    exact ⟨rfl, N9, K12_, ⟨f13_, f14_, F9⟩⟩
theorem d_44_2_0 : decode jdk_44_method_2_code 0 = .ok (.aload_n 0, 1) := by decide +kernel
theorem d_44_2_1 : decode jdk_44_method_2_code 1 = .ok (.invokespecial 1, 3) := by decide +kernel
theorem d_44_2_4 : decode jdk_44_method_2_code 4 = .ok (.aload_n 0, 1) := by decide +kernel
theorem d_44_2_5 : decode jdk_44_method_2_code 5 = .ok (.aload_n 1, 1) := by decide +kernel
theorem d_44_2_6 : decode jdk_44_method_2_code 6 = .ok (.invokestatic 7, 3) := by decide +kernel
theorem d_44_2_9 : decode jdk_44_method_2_code 9 = .ok (.putfield 13, 3) := by decide +kernel
theorem d_44_2_12 : decode jdk_44_method_2_code 12 = .ok (.aload_n 0, 1) := by decide +kernel
theorem d_44_2_13 : decode jdk_44_method_2_code 13 = .ok (.aload_n 2, 1) := by decide +kernel
theorem d_44_2_14 : decode jdk_44_method_2_code 14 = .ok (.invokestatic 7, 3) := by decide +kernel
theorem d_44_2_17 : decode jdk_44_method_2_code 17 = .ok (.putfield 24, 3) := by decide +kernel
theorem d_44_2_20 : decode jdk_44_method_2_code 20 = .ok (.return_, 1) := by decide +kernel
theorem own_ef_L2i (m : MethodId) (x0 : Addr) (x1 : Addr) (x2 : Addr) : entryFrame m #[(.ref x0), (.ref x1), (.ref x2)] 3 = mkF m 0 #[.val (.ref x0), .val (.ref x1), .val (.ref x2)] [] := by first | (simp [entryFrame, mkF, argsToLocals, Value.category]; done) | rfl
theorem own_L2i (l : Launch) (Z : State) (a0 : Array Value) (hw : ∀ d ∈ tables_1, d.before a0 Z = true) (ws : List Jvm.Cond) (o y y' : Addr) (v0 v1 : Value) (h0 : Heap) (n0 : Nat) (Z0 : n0 ≤ h0.size) (A : own_L12 Z h0 o v0 v1) (go : n0 ≤ o) :
    MetFree l (⟨"java/util/ImmutableCollections$List12", "<init>", "(Ljava/lang/Object;Ljava/lang/Object;)V"⟩ : MethodName) (head1 (Jvm.Cond.code (⟨"java/util/ImmutableCollections$List12", "<init>", "(Ljava/lang/Object;Ljava/lang/Object;)V"⟩ : MethodName) jdk_44_method_2_code 3 none :: ws) ({ frames := 4, cells := 0, slots := 0, locals := 48 } : Room)) (fun av U => av = #[(.ref o), (.ref y), (.ref y')] ∧ Z.Warmed39 U.vm ∧ U.heap = h0) (fun _ _ _ _ _ => True) (fun _ U oc U' => ∃ v L, oc = .returned v ∧ own_QL12 Z o (.ref y) (.ref y') h0 n0 v U'.heap L ∧ FrameEnd U oc U' L ({ frames := 4, cells := 0, slots := 0, locals := 48 } : Room).cells ({ frames := 4, cells := 0, slots := 0, locals := 48 } : Room).slots) := by
  refine MetFree.of_bodySF (plainFor_of_name own_pn9) hisR ?_
  intro p e s m args below meth c s₁ Bd hml0 hP hK
  obtain ⟨rfl, hZ, hh⟩ := hP
  have hx := Bd.exec
  have hby := Bd.bytes
  have hml : c.maxLocals = 3 := hml0
  have hown : s.vm.findClass "java/util/ImmutableCollections$List12" = some m.cls := findClass_of_methodNamed Bd.named
  have hnm := (name_of_methodNamed Bd.named Bd.method).1
  have X0 : Stand p l e ({ frames := 4, cells := 0, slots := 0, locals := 48 } : Room) s m #[(.ref o), (.ref y), (.ref y')] below meth c s₁ [] 0 0 := Stand.of_body Bd
  have e0 : s₁.heap = h0 := by rw [← hh, Bd.state]; rfl
  have N0 := Fr.nil n0
  have pre0 : ∀ tt, Steps p.tables e below (s₁.setTop (mkF m 0 #[.val (.ref o), .val (.ref y), .val (.ref y')] [])) tt → Steps p.tables e below (s₁.setTop (entryFrame m #[(.ref o), (.ref y), (.ref y')] 3)) tt := fun tt k' => castTop (own_ef_L2i m o y y') k'
  obtain ⟨_, _, ⟨T1, L1, k1, n1⟩, -, X1, ⟨Lc1, hQ1, l1, y1, z1⟩, st1⟩ := X0.specialBack hx (y := (⟨"java/util/ImmutableCollections$AbstractImmutableList", "<init>", "()V"⟩ : MethodName)) rfl hown (mvT hZ (ow hw 154 rfl)) (mvT hZ (ow hw 155 rfl)) (mvT hZ (ow hw 159 rfl)) (by decide) (backOf (W := 0) (own_ail l Z a0 hw [] o h0 n0 Z0) hZ (ow hw 159 rfl) (ow hw 158 rfl) (by decide) (by decide)) (g := (mkF m 1 #[.val (.ref o), .val (.ref y), .val (.ref y')] [(.ref o)])) rfl (by rw [hml]; rfl) (Steps.refl _) (a := o) (argsL := []) (rest := []) (lenOf own_pd0 rfl) rfl (by show 2 * 0 + _ ≤ _; exact Nat.le_of_eq rfl) (hb hby d_44_2_1) (fun _ _ => ⟨rfl, e0, (by decide : 0 + 0 ≤ _), (by decide : 0 + 0 ≤ _)⟩)
  dsimp only [Pt.U, Pt.locs, Pt.cells, Pt.slots] at X1 l1 y1 z1 st1 hQ1
  subst l1 y1 z1
  obtain ⟨rfl, N1, e1⟩ := hQ1
  have N2_ := Fr.app N0 N1
  obtain ⟨_, _, ⟨T3, L3, k3, n3⟩, -, X3, ⟨Lc3, hQ3, l3, y3, z3⟩, st3⟩ := Jvm.LawKit.callS X1 hx (y := (⟨"java/util/Objects", "requireNonNull", "(Ljava/lang/Object;)Ljava/lang/Object;"⟩ : MethodName)) hown (mvT hZ (ow hw 168 rfl)) (mvT hZ (ow hw 169 rfl)) (mvT hZ (ow hw 170 rfl)) (mvT hZ (ow hw 171 rfl)) (by decide) (backOf (W := 1) (own_rnn l Z a0 hw [] y h0 n0 Z0) hZ (ow hw 171 rfl) (ow hw 170 rfl) (by decide) (by decide)) (g := (mkF m 6 #[.val (.ref o), .val (.ref y), .val (.ref y')] [(.ref y), (.ref o)])) rfl (by rw [hml]; rfl) (argsL := [(.ref y)]) (rest := [(.ref o)]) (lenOf own_pd7 rfl) rfl (by show 2 * 0 + _ ≤ _; exact Nat.le_of_eq rfl) (hb hby d_44_2_6) (fun _ _ => ⟨rfl, e1, (by decide : 0 + 0 ≤ _), (by decide : 0 + 0 ≤ _)⟩)
  dsimp only [Pt.U, Pt.locs, Pt.cells, Pt.slots] at X3 l3 y3 z3 st3 hQ3
  subst l3 y3 z3
  obtain ⟨rfl, N3, e3⟩ := hQ3
  have N4_ := Fr.app N2_ N3
  obtain ⟨T5, h5, X5, e5, W5, st5⟩ := putF X3 hx hZ hown (host := "") (Or.inl (ow hw 172 rfl)) Via.refl e3 A.2.1 A.1 (Or.inr ⟨(ow hw 173 rfl), rfl, hnm⟩) (ow hw 148 rfl) (ty := (.object "java/lang/Object")) (by decide) rfl rfl (g := (mkF m 9 #[.val (.ref o), .val (.ref y), .val (.ref y')] [(.ref y), (.ref o)])) rfl rfl (hb hby d_44_2_9)
  have N5 := Fr.snoc X5 N4_ go
  have K6_ := (Keep.refl h0 [o]).wr W5 (Or.inl (List.mem_of_getElem? (i := 0) rfl))
  have F5 := A.2.1.same W5
  have Z8_ := (Nat.le_trans Z0 K6_.1)
  obtain ⟨_, _, ⟨T7, L7, k7, n7⟩, -, X7, ⟨Lc7, hQ7, l7, y7, z7⟩, st7⟩ := Jvm.LawKit.callS X5 hx (y := (⟨"java/util/Objects", "requireNonNull", "(Ljava/lang/Object;)Ljava/lang/Object;"⟩ : MethodName)) hown (mvT hZ (ow hw 168 rfl)) (mvT hZ (ow hw 169 rfl)) (mvT hZ (ow hw 170 rfl)) (mvT hZ (ow hw 171 rfl)) (by decide) (backOf (W := 1) (own_rnn l Z a0 hw [] y' h5 n0 Z8_) hZ (ow hw 171 rfl) (ow hw 170 rfl) (by decide) (by decide)) (g := (mkF m 14 #[.val (.ref o), .val (.ref y), .val (.ref y')] [(.ref y'), (.ref o)])) rfl (by rw [hml]; rfl) (argsL := [(.ref y')]) (rest := [(.ref o)]) (lenOf own_pd7 rfl) rfl (by show 2 * 0 + _ ≤ _; exact Nat.le_of_eq rfl) (hb hby d_44_2_14) (fun _ _ => ⟨rfl, e5, (by decide : 0 + 0 ≤ _), (by decide : 0 + 0 ≤ _)⟩)
  dsimp only [Pt.U, Pt.locs, Pt.cells, Pt.slots] at X7 l7 y7 z7 st7 hQ7
  subst l7 y7 z7
  obtain ⟨rfl, N7, e7⟩ := hQ7
  have N9_ := Fr.app N5 N7
  have f11_ := (A.2.2.other W5 (Or.inr (slot_ne (Or.inr (ow hw 176 rfl)) (Or.inr (ow hw 173 rfl)) (by decide) (t := (.object "java/lang/Object")) (by decide) (t' := (.object "java/lang/Object")) (by decide))))
  have f12_ := (A.1.wr W5)
  obtain ⟨T10, h10, X10, e10, W10, st10⟩ := putF X7 hx hZ hown (host := "") (Or.inl (ow hw 175 rfl)) Via.refl e7 f11_ f12_ (Or.inr ⟨(ow hw 176 rfl), rfl, hnm⟩) (ow hw 148 rfl) (ty := (.object "java/lang/Object")) (by decide) rfl rfl (g := (mkF m 17 #[.val (.ref o), .val (.ref y), .val (.ref y')] [(.ref y'), (.ref o)])) rfl rfl (hb hby d_44_2_17)
  have N10 := Fr.snoc X10 N9_ go
  have K13_ := K6_.wr W10 (Or.inl (List.mem_of_getElem? (i := 0) rfl))
  have F10 := f11_.same W10
  have f14_ := (f12_.wr W10)
  have f15_ := (F5.other W10 (Or.inr (slot_ne (Or.inr (ow hw 173 rfl)) (Or.inr (ow hw 176 rfl)) (by decide) (t := (.object "java/lang/Object")) (by decide) (t' := (.object "java/lang/Object")) (by decide))))
  obtain ⟨fs, hr, hrun, hended, hW, hsame⟩ := X10.leave (v := none) (fun _ => rfl)
  refine ⟨_, _, pre0 _ ?_, hrun, hended, _, _, rfl, ?_, ⟨_, rfl⟩, hW, hsame.mono (by decide) (by decide)⟩
  · show Steps _ _ _ (s₁.setTop (mkF m 0 #[.val (.ref o), .val (.ref y), .val (.ref y')] [])) _
    refine XS.aloadN X0.here hx rfl (hb hby d_44_2_0) rfl rfl ?_
    show Steps _ _ _ (s₁.setTop (mkF m 1 #[.val (.ref o), .val (.ref y), .val (.ref y')] [(.ref o)])) _
    refine st1.trans ?_
    refine XS.aloadN X1.here hx rfl (hb hby d_44_2_4) rfl rfl ?_
    refine XS.aloadN X1.here hx rfl (hb hby d_44_2_5) rfl rfl ?_
    show Steps _ _ _ (T1.setTop (mkF m 6 #[.val (.ref o), .val (.ref y), .val (.ref y')] [(.ref y), (.ref o)])) _
    refine st3 _ ?_
    show Steps _ _ _ (T3.setTop (mkF m 9 #[.val (.ref o), .val (.ref y), .val (.ref y')] [(.ref y), (.ref o)])) _
    refine st5 _ ?_
    refine XS.aloadN X5.here hx rfl (hb hby d_44_2_12) rfl rfl ?_
    refine XS.aloadN X5.here hx rfl (hb hby d_44_2_13) rfl rfl ?_
    show Steps _ _ _ (T5.setTop (mkF m 14 #[.val (.ref o), .val (.ref y), .val (.ref y')] [(.ref y'), (.ref o)])) _
    refine st7 _ ?_
    show Steps _ _ _ (T7.setTop (mkF m 17 #[.val (.ref o), .val (.ref y), .val (.ref y')] [(.ref y'), (.ref o)])) _
    refine st10 _ ?_
    show Steps _ _ _ (T10.setTop (mkF m 20 #[.val (.ref o), .val (.ref y), .val (.ref y')] [])) _
    exact X10.returnOut hx Bd.returns (hb hby d_44_2_20) hr
  · show own_QL12 Z o (.ref y) (.ref y') h0 n0 _ T10.heap _
    rw [e10]
    exact ⟨rfl, N10, K13_, ⟨f14_, f15_, F10⟩⟩
theorem own_pn10 : plainName "java/util/ImmutableCollections$ListN" = true := by first | (simp [plainName, overriddenIn]; done) | decide +kernel
theorem d_45_1_0 : decode jdk_45_method_1_code 0 = .ok (.aload_n 0, 1) := by decide +kernel
theorem d_45_1_1 : decode jdk_45_method_1_code 1 = .ok (.invokespecial 1, 3) := by decide +kernel
theorem d_45_1_4 : decode jdk_45_method_1_code 4 = .ok (.aload_n 0, 1) := by decide +kernel
theorem d_45_1_5 : decode jdk_45_method_1_code 5 = .ok (.aload_n 1, 1) := by decide +kernel
theorem d_45_1_6 : decode jdk_45_method_1_code 6 = .ok (.putfield 7, 3) := by decide +kernel
theorem d_45_1_9 : decode jdk_45_method_1_code 9 = .ok (.aload_n 0, 1) := by decide +kernel
theorem d_45_1_10 : decode jdk_45_method_1_code 10 = .ok (.iload_n 2, 1) := by decide +kernel
theorem d_45_1_11 : decode jdk_45_method_1_code 11 = .ok (.putfield 13, 3) := by decide +kernel
theorem d_45_1_14 : decode jdk_45_method_1_code 14 = .ok (.return_, 1) := by decide +kernel
theorem own_ef_LNi (m : MethodId) (x0 : Addr) (x1 : Addr) (x2 : Int32) : entryFrame m #[(.ref x0), (.ref x1), (.int x2)] 3 = mkF m 0 #[.val (.ref x0), .val (.ref x1), .val (.int x2)] [] := by first | (simp [entryFrame, mkF, argsToLocals, Value.category]; done) | rfl
theorem own_LNi (l : Launch) (Z : State) (a0 : Array Value) (hw : ∀ d ∈ tables_1, d.before a0 Z = true) (ws : List Jvm.Cond) (o x : Addr) (v0 v1 : Value) (h0 : Heap) (n0 : Nat) (Z0 : n0 ≤ h0.size) (A : own_LN Z h0 o v0 v1) (go : n0 ≤ o) :
    MetFree l (⟨"java/util/ImmutableCollections$ListN", "<init>", "([Ljava/lang/Object;Z)V"⟩ : MethodName) (head1 (Jvm.Cond.code (⟨"java/util/ImmutableCollections$ListN", "<init>", "([Ljava/lang/Object;Z)V"⟩ : MethodName) jdk_45_method_1_code 3 none :: ws) ({ frames := 4, cells := 0, slots := 0, locals := 48 } : Room)) (fun av U => av = #[(.ref o), (.ref x), (.int 0)] ∧ Z.Warmed39 U.vm ∧ U.heap = h0) (fun _ _ _ _ _ => True) (fun _ U oc U' => ∃ v L, oc = .returned v ∧ own_QLN Z o (.ref x) (.int 0) h0 n0 v U'.heap L ∧ FrameEnd U oc U' L ({ frames := 4, cells := 0, slots := 0, locals := 48 } : Room).cells ({ frames := 4, cells := 0, slots := 0, locals := 48 } : Room).slots) := by
  refine MetFree.of_bodySF (plainFor_of_name own_pn10) hisR ?_
  intro p e s m args below meth c s₁ Bd hml0 hP hK
  obtain ⟨rfl, hZ, hh⟩ := hP
  have hx := Bd.exec
  have hby := Bd.bytes
  have hml : c.maxLocals = 3 := hml0
  have hown : s.vm.findClass "java/util/ImmutableCollections$ListN" = some m.cls := findClass_of_methodNamed Bd.named
  have hnm := (name_of_methodNamed Bd.named Bd.method).1
  have X0 : Stand p l e ({ frames := 4, cells := 0, slots := 0, locals := 48 } : Room) s m #[(.ref o), (.ref x), (.int 0)] below meth c s₁ [] 0 0 := Stand.of_body Bd
  have e0 : s₁.heap = h0 := by rw [← hh, Bd.state]; rfl
  have N0 := Fr.nil n0
  have pre0 : ∀ tt, Steps p.tables e below (s₁.setTop (mkF m 0 #[.val (.ref o), .val (.ref x), .val (.int 0)] [])) tt → Steps p.tables e below (s₁.setTop (entryFrame m #[(.ref o), (.ref x), (.int 0)] 3)) tt := fun tt k' => castTop (own_ef_LNi m o x 0) k'
  obtain ⟨_, _, ⟨T1, L1, k1, n1⟩, -, X1, ⟨Lc1, hQ1, l1, y1, z1⟩, st1⟩ := X0.specialBack hx (y := (⟨"java/util/ImmutableCollections$AbstractImmutableList", "<init>", "()V"⟩ : MethodName)) rfl hown (mvT hZ (ow hw 312 rfl)) (mvT hZ (ow hw 155 rfl)) (mvT hZ (ow hw 159 rfl)) (by decide) (backOf (W := 0) (own_ail l Z a0 hw [] o h0 n0 Z0) hZ (ow hw 159 rfl) (ow hw 158 rfl) (by decide) (by decide)) (g := (mkF m 1 #[.val (.ref o), .val (.ref x), .val (.int 0)] [(.ref o)])) rfl (by rw [hml]; rfl) (Steps.refl _) (a := o) (argsL := []) (rest := []) (lenOf own_pd0 rfl) rfl (by show 2 * 0 + _ ≤ _; exact Nat.le_of_eq rfl) (hb hby d_45_1_1) (fun _ _ => ⟨rfl, e0, (by decide : 0 + 0 ≤ _), (by decide : 0 + 0 ≤ _)⟩)
  dsimp only [Pt.U, Pt.locs, Pt.cells, Pt.slots] at X1 l1 y1 z1 st1 hQ1
  subst l1 y1 z1
  obtain ⟨rfl, N1, e1⟩ := hQ1
  have N2_ := Fr.app N0 N1
  obtain ⟨T3, h3, X3, e3, W3, st3⟩ := putF X1 hx hZ hown (host := "") (Or.inl (ow hw 221 rfl)) Via.refl e1 A.2.1 A.1 (Or.inr ⟨(ow hw 222 rfl), rfl, hnm⟩) (ow hw 307 rfl) (ty := (.array (.object "java/lang/Object"))) (by decide) rfl rfl (g := (mkF m 6 #[.val (.ref o), .val (.ref x), .val (.int 0)] [(.ref x), (.ref o)])) rfl rfl (hb hby d_45_1_6)
  have N3 := Fr.snoc X3 N2_ go
  have K4_ := (Keep.refl h0 [o]).wr W3 (Or.inl (List.mem_of_getElem? (i := 0) rfl))
  have F3 := A.2.1.same W3
  have f6_ := (A.2.2.other W3 (Or.inr (slot_ne (Or.inr (ow hw 317 rfl)) (Or.inr (ow hw 222 rfl)) (by decide) (t := .boolean) (by decide) (t' := (.array (.object "java/lang/Object"))) (by decide))))
  have f7_ := (A.1.wr W3)
  obtain ⟨T5, h5, X5, e5, W5, st5⟩ := putF X3 hx hZ hown (host := "") (Or.inl (ow hw 316 rfl)) Via.refl e3 f6_ f7_ (Or.inr ⟨(ow hw 317 rfl), rfl, hnm⟩) (ow hw 307 rfl) (ty := .boolean) (by decide) rfl rfl (g := (mkF m 11 #[.val (.ref o), .val (.ref x), .val (.int 0)] [(.int 0), (.ref o)])) rfl rfl (hb hby d_45_1_11)
  have N5 := Fr.snoc X5 N3 go
  have K8_ := K4_.wr W5 (Or.inl (List.mem_of_getElem? (i := 0) rfl))
  have F5 := f6_.same W5
  have f9_ := (f7_.wr W5)
  have f10_ := (F3.other W5 (Or.inr (slot_ne (Or.inr (ow hw 222 rfl)) (Or.inr (ow hw 317 rfl)) (by decide) (t := (.array (.object "java/lang/Object"))) (by decide) (t' := .boolean) (by decide))))
  obtain ⟨fs, hr, hrun, hended, hW, hsame⟩ := X5.leave (v := none) (fun _ => rfl)
  refine ⟨_, _, pre0 _ ?_, hrun, hended, _, _, rfl, ?_, ⟨_, rfl⟩, hW, hsame.mono (by decide) (by decide)⟩
  · show Steps _ _ _ (s₁.setTop (mkF m 0 #[.val (.ref o), .val (.ref x), .val (.int 0)] [])) _
    refine XS.aloadN X0.here hx rfl (hb hby d_45_1_0) rfl rfl ?_
    show Steps _ _ _ (s₁.setTop (mkF m 1 #[.val (.ref o), .val (.ref x), .val (.int 0)] [(.ref o)])) _
    refine st1.trans ?_
    refine XS.aloadN X1.here hx rfl (hb hby d_45_1_4) rfl rfl ?_
    refine XS.aloadN X1.here hx rfl (hb hby d_45_1_5) rfl rfl ?_
    show Steps _ _ _ (T1.setTop (mkF m 6 #[.val (.ref o), .val (.ref x), .val (.int 0)] [(.ref x), (.ref o)])) _
    refine st3 _ ?_
    refine XS.aloadN X3.here hx rfl (hb hby d_45_1_9) rfl rfl ?_
    refine XS.iloadN X3.here hx rfl (hb hby d_45_1_10) rfl ?_
    show Steps _ _ _ (T3.setTop (mkF m 11 #[.val (.ref o), .val (.ref x), .val (.int 0)] [(.int 0), (.ref o)])) _
    refine st5 _ ?_
    show Steps _ _ _ (T5.setTop (mkF m 14 #[.val (.ref o), .val (.ref x), .val (.int 0)] [])) _
    exact X5.returnOut hx Bd.returns (hb hby d_45_1_14) hr
  · show own_QLN Z o (.ref x) (.int 0) h0 n0 _ T5.heap _
    rw [e5]
    exact ⟨rfl, N5, K8_, ⟨f9_, f10_, F5⟩⟩
theorem own_pd8 : parseMethodDescriptor "([Ljava/lang/Object;Z)V" = some ⟨[(.array (.object "java/lang/Object")), .boolean], none⟩ := by decide +kernel
def own_QLf (Z : State) (y1 y2 y3 : Addr) (h0 : Heap) (n0 : Nat) (v : Option Value) (h : Heap) (L : List Loc) : Prop := ∃ o, v = some (.ref o) ∧ Fr n0 L ∧ Keep h0 h [] ∧ ∃ q, own_LN Z h o (.ref q) (.int 0) ∧ own_Oa Z h q 3 [.ref y1, .ref y2, .ref y3]
theorem own_pn11 : plainName "java/util/ImmutableCollections" = true := by first | (simp [plainName, overriddenIn]; done) | decide +kernel
theorem d_56_4_0 : decode jdk_56_method_4_code 0 = .ok (.aload_n 0, 1) := by decide +kernel
theorem d_56_4_1 : decode jdk_56_method_4_code 1 = .ok (.arraylength, 1) := by decide +kernel
theorem d_56_4_2 : decode jdk_56_method_4_code 2 = .ok (.anewarray 2, 3) := by decide +kernel
theorem d_56_4_5 : decode jdk_56_method_4_code 5 = .ok (.astore_n 1, 1) := by decide +kernel
theorem d_56_4_6 : decode jdk_56_method_4_code 6 = .ok (.iconst 0, 1) := by decide +kernel
theorem d_56_4_7 : decode jdk_56_method_4_code 7 = .ok (.istore_n 2, 1) := by decide +kernel
theorem d_56_4_8 : decode jdk_56_method_4_code 8 = .ok (.iload_n 2, 1) := by decide +kernel
theorem d_56_4_9 : decode jdk_56_method_4_code 9 = .ok (.aload_n 0, 1) := by decide +kernel
theorem d_56_4_10 : decode jdk_56_method_4_code 10 = .ok (.arraylength, 1) := by decide +kernel
theorem d_56_4_11 : decode jdk_56_method_4_code 11 = .ok (.if_icmp .ge 18, 3) := by decide +kernel
theorem d_56_4_14 : decode jdk_56_method_4_code 14 = .ok (.aload_n 1, 1) := by decide +kernel
theorem d_56_4_15 : decode jdk_56_method_4_code 15 = .ok (.iload_n 2, 1) := by decide +kernel
theorem d_56_4_16 : decode jdk_56_method_4_code 16 = .ok (.aload_n 0, 1) := by decide +kernel
theorem d_56_4_17 : decode jdk_56_method_4_code 17 = .ok (.iload_n 2, 1) := by decide +kernel
theorem d_56_4_18 : decode jdk_56_method_4_code 18 = .ok (.aaload, 1) := by decide +kernel
theorem d_56_4_19 : decode jdk_56_method_4_code 19 = .ok (.invokestatic 37, 3) := by decide +kernel
theorem d_56_4_22 : decode jdk_56_method_4_code 22 = .ok (.aastore, 1) := by decide +kernel
theorem d_56_4_23 : decode jdk_56_method_4_code 23 = .ok (.iinc 2 1, 3) := by decide +kernel
theorem d_56_4_26 : decode jdk_56_method_4_code 26 = .ok (.goto (-18), 3) := by decide +kernel
theorem d_56_4_29 : decode jdk_56_method_4_code 29 = .ok (.new 12, 3) := by decide +kernel
theorem d_56_4_32 : decode jdk_56_method_4_code 32 = .ok (.dup, 1) := by decide +kernel
theorem d_56_4_33 : decode jdk_56_method_4_code 33 = .ok (.aload_n 1, 1) := by decide +kernel
theorem d_56_4_34 : decode jdk_56_method_4_code 34 = .ok (.iconst 0, 1) := by decide +kernel
theorem d_56_4_35 : decode jdk_56_method_4_code 35 = .ok (.invokespecial 43, 3) := by decide +kernel
theorem d_56_4_38 : decode jdk_56_method_4_code 38 = .ok (.areturn, 1) := by decide +kernel
theorem own_ef_lfa (m : MethodId) (x0 : Addr) : entryFrame m #[(.ref x0)] 3 = mkF m 0 #[.val (.ref x0), .unset, .unset] [] := by first | (simp [entryFrame, mkF, argsToLocals, Value.category]; done) | rfl
theorem own_lfa (l : Launch) (Z : State) (a0 : Array Value) (hw : ∀ d ∈ tables_1, d.before a0 Z = true) (ws : List Jvm.Cond) (x y1 y2 y3 : Addr) (h0 : Heap) (n0 : Nat) (Z0 : n0 ≤ h0.size) (B : own_Oa Z h0 x 3 [.ref y1, .ref y2, .ref y3]) (I1 : Ins Z h0 y1 "java/lang/Object" true) (I2 : Ins Z h0 y2 "java/lang/Object" true) (I3 : Ins Z h0 y3 "java/lang/Object" true) :
    MetFree l (⟨"java/util/ImmutableCollections", "listFromArray", "([Ljava/lang/Object;)Ljava/util/List;"⟩ : MethodName) (head1 (Jvm.Cond.code (⟨"java/util/ImmutableCollections", "listFromArray", "([Ljava/lang/Object;)Ljava/util/List;"⟩ : MethodName) jdk_56_method_4_code 3 (some (.object "java/util/List")) :: ws) ({ frames := 5, cells := 2, slots := 5, locals := 63 } : Room)) (fun av U => av = #[(.ref x)] ∧ Z.Warmed39 U.vm ∧ U.heap = h0) (fun _ _ _ _ _ => True) (fun _ U oc U' => ∃ v L, oc = .returned v ∧ own_QLf Z y1 y2 y3 h0 n0 v U'.heap L ∧ FrameEnd U oc U' L ({ frames := 5, cells := 2, slots := 5, locals := 63 } : Room).cells ({ frames := 5, cells := 2, slots := 5, locals := 63 } : Room).slots) := by
  refine MetFree.of_bodySF (plainFor_of_name own_pn11) hisR ?_
  intro p e s m args below meth c s₁ Bd hml0 hP hK
  obtain ⟨rfl, hZ, hh⟩ := hP
  have hx := Bd.exec
  have hby := Bd.bytes
  have hml : c.maxLocals = 3 := hml0
  have hown : s.vm.findClass "java/util/ImmutableCollections" = some m.cls := findClass_of_methodNamed Bd.named
  have hnm := (name_of_methodNamed Bd.named Bd.method).1
  have X0 : Stand p l e ({ frames := 5, cells := 2, slots := 5, locals := 63 } : Room) s m #[(.ref x)] below meth c s₁ [] 0 0 := Stand.of_body Bd
  have e0 : s₁.heap = h0 := by rw [← hh, Bd.state]; rfl
  have N0 := Fr.nil n0
  have pre0 : ∀ tt, Steps p.tables e below (s₁.setTop (mkF m 0 #[.val (.ref x), .unset, .unset] [])) tt → Steps p.tables e below (s₁.setTop (entryFrame m #[(.ref x)] 3)) tt := fun tt k' => castTop (own_ef_lfa m x) k'
  obtain ⟨kx1, Ax1, -⟩ := id B
  have ltx := B.lt
  obtain ⟨T2, h2, X2, e2, E2, A2, st2⟩ := own_newOa X0 hx hZ hown (ow hw 305 rfl) (ow hw 66 rfl) e0 (g := (mkF m 2 #[.val (.ref x), .unset, .unset] [(.int 3)])) rfl (hb hby d_56_4_2) rfl (by decide) (cap := 3) rfl (by decide) (by decide) (by decide)
  obtain ⟨q, go_q⟩ : ∃ z, z = h0.size := ⟨_, rfl⟩
  rw [← go_q] at A2 st2
  have gh_q := (Nat.le_of_eq go_q.symm : h0.size ≤ q)
  have ge_q := Nat.le_trans Z0 gh_q
  have K3_ := (Keep.refl h0 []).ext E2
  have ne4_ := (Nat.ne_of_lt (Nat.lt_of_lt_of_le ltx (Nat.le_of_eq go_q.symm)) : x ≠ q)
  have f5_ := (B.ext E2)
  obtain ⟨kx6, Ax6, -⟩ := id f5_
  obtain ⟨kx7, Ax7, -⟩ := id f5_
  have Z9_ := (Nat.le_trans Z0 K3_.1)
  obtain ⟨_, _, ⟨T8, L8, k8, n8⟩, -, X8, ⟨Lc8, hQ8, l8, y8, z8⟩, st8⟩ := Jvm.LawKit.callS X2 hx (y := (⟨"java/util/Objects", "requireNonNull", "(Ljava/lang/Object;)Ljava/lang/Object;"⟩ : MethodName)) hown (mvT hZ (ow hw 306 rfl)) (mvT hZ (ow hw 169 rfl)) (mvT hZ (ow hw 170 rfl)) (mvT hZ (ow hw 171 rfl)) (by decide) (backOf (W := 2) (own_rnn l Z a0 hw [] y1 h2 n0 Z9_) hZ (ow hw 171 rfl) (ow hw 170 rfl) (by decide) (by decide)) (g := (mkF m 19 #[.val (.ref x), .val (.ref q), .val (.int 0)] [(.ref y1), (.int 0), (.ref q)])) rfl (by rw [hml]; rfl) (argsL := [(.ref y1)]) (rest := [(.int 0), (.ref q)]) (lenOf own_pd7 rfl) rfl (by show 2 * 0 + _ ≤ _; exact Nat.le_of_eq rfl) (hb hby d_56_4_19) (fun _ _ => ⟨rfl, e2, (by decide : 1 + 0 ≤ _), (by decide : 3 + 0 ≤ _)⟩)
  dsimp only [Pt.U, Pt.locs, Pt.cells, Pt.slots] at X8 l8 y8 z8 st8 hQ8
  subst l8 y8 z8
  obtain ⟨rfl, N8, e8⟩ := hQ8
  have N10_ := Fr.app N0 N8
  have f12_ := (I1.ext E2)
  obtain ⟨T11, h11, X11, e11, W11, F11, st11⟩ := own_aast X8 hx hZ e8 A2 0 (by decide) rfl (by simp) f12_ (g := (mkF m 22 #[.val (.ref x), .val (.ref q), .val (.int 0)] [(.ref y1), (.int 0), (.ref q)])) rfl rfl (hb hby d_56_4_22)
  have N11 := Fr.snoc X11 N10_ ge_q
  have K13_ := K3_.wr W11 (Or.inr gh_q)
  have f14_ := (f5_.other W11 ne4_)
  obtain ⟨kx15, Ax15, -⟩ := id f14_
  obtain ⟨kx16, Ax16, -⟩ := id f14_
  have Z18_ := (Nat.le_trans Z0 K13_.1)
  obtain ⟨_, _, ⟨T17, L17, k17, n17⟩, -, X17, ⟨Lc17, hQ17, l17, y17, z17⟩, st17⟩ := Jvm.LawKit.callS X11 hx (y := (⟨"java/util/Objects", "requireNonNull", "(Ljava/lang/Object;)Ljava/lang/Object;"⟩ : MethodName)) hown (mvT hZ (ow hw 306 rfl)) (mvT hZ (ow hw 169 rfl)) (mvT hZ (ow hw 170 rfl)) (mvT hZ (ow hw 171 rfl)) (by decide) (backOf (W := 2) (own_rnn l Z a0 hw [] y2 h11 n0 Z18_) hZ (ow hw 171 rfl) (ow hw 170 rfl) (by decide) (by decide)) (g := (mkF m 19 #[.val (.ref x), .val (.ref q), .val (.int (0 + 1))] [(.ref y2), (.int (0 + 1)), (.ref q)])) rfl (by rw [hml]; rfl) (argsL := [(.ref y2)]) (rest := [(.int (0 + 1)), (.ref q)]) (lenOf own_pd7 rfl) rfl (by show 2 * 0 + _ ≤ _; exact Nat.le_of_eq rfl) (hb hby d_56_4_19) (fun _ _ => ⟨rfl, e11, (by decide : 1 + 0 ≤ _), (by decide : 3 + 0 ≤ _)⟩)
  dsimp only [Pt.U, Pt.locs, Pt.cells, Pt.slots] at X17 l17 y17 z17 st17 hQ17
  subst l17 y17 z17
  obtain ⟨rfl, N17, e17⟩ := hQ17
  have N19_ := Fr.app N11 N17
  have f21_ := ((I2.ext E2).wr W11)
  obtain ⟨T20, h20, X20, e20, W20, F20, st20⟩ := own_aast X17 hx hZ e17 F11 1 (by decide) rfl (by simp) f21_ (g := (mkF m 22 #[.val (.ref x), .val (.ref q), .val (.int (0 + 1))] [(.ref y2), (.int (0 + 1)), (.ref q)])) rfl rfl (hb hby d_56_4_22)
  have N20 := Fr.snoc X20 N19_ ge_q
  have K22_ := K13_.wr W20 (Or.inr gh_q)
  have f23_ := (f14_.other W20 ne4_)
  obtain ⟨kx24, Ax24, -⟩ := id f23_
  obtain ⟨kx25, Ax25, -⟩ := id f23_
  have Z27_ := (Nat.le_trans Z0 K22_.1)
  obtain ⟨_, _, ⟨T26, L26, k26, n26⟩, -, X26, ⟨Lc26, hQ26, l26, y26, z26⟩, st26⟩ := Jvm.LawKit.callS X20 hx (y := (⟨"java/util/Objects", "requireNonNull", "(Ljava/lang/Object;)Ljava/lang/Object;"⟩ : MethodName)) hown (mvT hZ (ow hw 306 rfl)) (mvT hZ (ow hw 169 rfl)) (mvT hZ (ow hw 170 rfl)) (mvT hZ (ow hw 171 rfl)) (by decide) (backOf (W := 2) (own_rnn l Z a0 hw [] y3 h20 n0 Z27_) hZ (ow hw 171 rfl) (ow hw 170 rfl) (by decide) (by decide)) (g := (mkF m 19 #[.val (.ref x), .val (.ref q), .val (.int ((0 + 1) + 1))] [(.ref y3), (.int ((0 + 1) + 1)), (.ref q)])) rfl (by rw [hml]; rfl) (argsL := [(.ref y3)]) (rest := [(.int ((0 + 1) + 1)), (.ref q)]) (lenOf own_pd7 rfl) rfl (by show 2 * 0 + _ ≤ _; exact Nat.le_of_eq rfl) (hb hby d_56_4_19) (fun _ _ => ⟨rfl, e20, (by decide : 1 + 0 ≤ _), (by decide : 3 + 0 ≤ _)⟩)
  dsimp only [Pt.U, Pt.locs, Pt.cells, Pt.slots] at X26 l26 y26 z26 st26 hQ26
  subst l26 y26 z26
  obtain ⟨rfl, N26, e26⟩ := hQ26
  have N28_ := Fr.app N20 N26
  have f30_ := (((I3.ext E2).wr W11).wr W20)
  obtain ⟨T29, h29, X29, e29, W29, F29, st29⟩ := own_aast X26 hx hZ e26 F20 2 (by decide) rfl (by simp) f30_ (g := (mkF m 22 #[.val (.ref x), .val (.ref q), .val (.int ((0 + 1) + 1))] [(.ref y3), (.int ((0 + 1) + 1)), (.ref q)])) rfl rfl (hb hby d_56_4_22)
  have N29 := Fr.snoc X29 N28_ ge_q
  have K31_ := K22_.wr W29 (Or.inr gh_q)
  have f32_ := (f23_.other W29 ne4_)
  obtain ⟨kx33, Ax33, -⟩ := id f32_
  have ltx2 := f32_.lt
  have ltq2 := F29.lt
  obtain ⟨T34, h34, X34, e34, E34, A34, D34, -, st34⟩ := newO X29 hx hZ hown (ow hw 98 rfl) (ow hw 307 rfl) (ow hw 219 rfl) e29 (g := (mkF m 29 #[.val (.ref x), .val (.ref q), .val (.int (((0 + 1) + 1) + 1))] [])) rfl (hb hby d_56_4_29) (by decide) (by decide)
  obtain ⟨o, go_o⟩ : ∃ z, z = h29.size := ⟨_, rfl⟩
  rw [← go_o] at A34 D34 st34
  have gh_o := Nat.le_trans K31_.1 (Nat.le_of_eq go_o.symm)
  have ge_o := Nat.le_trans Z0 gh_o
  have K35_ := K31_.ext E34
  have ne36_ := (Nat.ne_of_lt (Nat.lt_of_lt_of_le ltx2 (Nat.le_of_eq go_o.symm)) : x ≠ o)
  have ne37_ := (Nat.ne_of_lt (Nat.lt_of_lt_of_le ltq2 (Nat.le_of_eq go_o.symm)) : q ≠ o)
  have A_o := (⟨A34, (D34 (Or.inr (ow hw 222 rfl)) (ty := (.array (.object "java/lang/Object"))) (by decide)), (D34 (Or.inr (ow hw 317 rfl)) (ty := .boolean) (by decide))⟩ : own_LN Z h34 o .null (.int 0))
  have Z39_ := (Nat.le_trans Z0 K35_.1)
  obtain ⟨_, _, ⟨T38, L38, k38, n38⟩, -, X38, ⟨Lc38, hQ38, l38, y38, z38⟩, st38⟩ := X34.specialBackNest hx (y := (⟨"java/util/ImmutableCollections$ListN", "<init>", "([Ljava/lang/Object;Z)V"⟩ : MethodName)) rfl hown (own_mvNest hZ (ow hw 308 rfl)) (mvT hZ (ow hw 309 rfl)) (mvT hZ (ow hw 311 rfl)) (by decide) (backOf (W := 1) (own_LNi l Z a0 hw [] o q .null (.int 0) h34 n0 Z39_ A_o ge_o) hZ (ow hw 311 rfl) (ow hw 219 rfl) (by decide) (by decide)) (g := (mkF m 35 #[.val (.ref x), .val (.ref q), .val (.int (((0 + 1) + 1) + 1))] [(.int 0), (.ref q), (.ref o), (.ref o)])) rfl (by rw [hml]; rfl) (Steps.refl _) (a := o) (argsL := [(.ref q), (.int 0)]) (rest := [(.ref o)]) (lenOf own_pd8 rfl) rfl (by show 2 * 0 + _ ≤ _; exact Nat.le_of_eq rfl) (hb hby d_56_4_35) (fun _ _ => ⟨rfl, e34, (by decide : 2 + 0 ≤ _), (by decide : 5 + 0 ≤ _)⟩)
  dsimp only [Pt.U, Pt.locs, Pt.cells, Pt.slots] at X38 l38 y38 z38 st38 hQ38
  subst l38 y38 z38
  obtain ⟨h38, e38⟩ : ∃ z, T38.heap = z := ⟨_, rfl⟩
  rw [e38] at hQ38
  obtain ⟨rfl, N38, K38, A38⟩ := hQ38
  have N40_ := Fr.app N29 N38
  have K41_ := K35_.trans K38 (allS (Or.inr gh_o) all0)
  have f42_ := ((F29.ext E34).keep K38 (ninS ne37_ nin0))
  obtain ⟨fs, hr, hrun, hended, hW, hsame⟩ := X38.leave (v := some (.ref o)) (fun h => by rw [Bd.returns] at h; cases h)
  refine ⟨_, _, pre0 _ ?_, hrun, hended, _, _, rfl, ?_, ⟨_, rfl⟩, hW, hsame.mono (by decide) (by decide)⟩
  · show Steps _ _ _ (s₁.setTop (mkF m 0 #[.val (.ref x), .unset, .unset] [])) _
    refine XS.aloadN X0.here hx rfl (hb hby d_56_4_0) rfl rfl ?_
    show Steps _ _ _ (s₁.setTop (mkF m 1 #[.val (.ref x), .unset, .unset] [(.ref x)])) _
    refine own_len X0 hx hZ e0 Ax1 (g := (mkF m 1 #[.val (.ref x), .unset, .unset] [(.ref x)])) rfl rfl (hb hby d_56_4_1) _ ?_
    show Steps _ _ _ (s₁.setTop (mkF m 2 #[.val (.ref x), .unset, .unset] [(.int 3)])) _
    refine st2 _ ?_
    show Steps _ _ _ (T2.setTop (mkF m 5 #[.val (.ref x), .unset, .unset] [(.ref q)])) _
    refine XS.astoreN X2.here hx rfl (hb hby d_56_4_5) rfl rfl rfl ?_
    refine XT.iconstV X2.here hx rfl 0 (hb hby d_56_4_6) rfl ?_
    show Steps _ _ _ (T2.setTop (mkF m 7 #[.val (.ref x), .val (.ref q), .unset] [(.int 0)])) _
    refine XS.istoreN X2.here hx rfl (hb hby d_56_4_7) rfl rfl ?_
    refine XS.iloadN X2.here hx rfl (hb hby d_56_4_8) rfl ?_
    refine XS.aloadN X2.here hx rfl (hb hby d_56_4_9) rfl rfl ?_
    show Steps _ _ _ (T2.setTop (mkF m 10 #[.val (.ref x), .val (.ref q), .val (.int 0)] [(.ref x), (.int 0)])) _
    refine own_len X2 hx hZ e2 Ax6 (g := (mkF m 10 #[.val (.ref x), .val (.ref q), .val (.int 0)] [(.ref x), (.int 0)])) rfl rfl (hb hby d_56_4_10) _ ?_
    show Steps _ _ _ (T2.setTop (mkF m 11 #[.val (.ref x), .val (.ref q), .val (.int 0)] [(.int 3), (.int 0)])) _
    refine XS.icmpNo X2.here hx rfl (hb hby d_56_4_11) rfl (by decide) ?_
    refine XS.aloadN X2.here hx rfl (hb hby d_56_4_14) rfl rfl ?_
    refine XS.iloadN X2.here hx rfl (hb hby d_56_4_15) rfl ?_
    refine XS.aloadN X2.here hx rfl (hb hby d_56_4_16) rfl rfl ?_
    refine XS.iloadN X2.here hx rfl (hb hby d_56_4_17) rfl ?_
    show Steps _ _ _ (T2.setTop (mkF m 18 #[.val (.ref x), .val (.ref q), .val (.int 0)] [(.int 0), (.ref x), (.int 0), (.ref q)])) _
    refine own_aald X2 hx hZ e2 Ax7 rfl (by decide) rfl (g := (mkF m 18 #[.val (.ref x), .val (.ref q), .val (.int 0)] [(.int 0), (.ref x), (.int 0), (.ref q)])) rfl rfl (hb hby d_56_4_18) _ ?_
    show Steps _ _ _ (T2.setTop (mkF m 19 #[.val (.ref x), .val (.ref q), .val (.int 0)] [(.ref y1), (.int 0), (.ref q)])) _
    refine st8 _ ?_
    show Steps _ _ _ (T8.setTop (mkF m 22 #[.val (.ref x), .val (.ref q), .val (.int 0)] [(.ref y1), (.int 0), (.ref q)])) _
    refine st11 _ ?_
    show Steps _ _ _ (T11.setTop (mkF m 23 #[.val (.ref x), .val (.ref q), .val (.int 0)] [])) _
    refine XT.iincV X11.here hx rfl 1 (hb hby d_56_4_23) rfl rfl rfl ?_
    show Steps _ _ _ (T11.setTop (mkF m 26 #[.val (.ref x), .val (.ref q), .val (.int (0 + 1))] [])) _
    refine XS.goto X11.here hx rfl rfl (hb hby d_56_4_26) (show (0 : Int) ≤ ((26 : Nat) : Int) + (-18) by decide) (show (((26 : Nat) : Int) + (-18)).toNat = 8 by decide) ?_
    refine XS.iloadN X11.here hx rfl (hb hby d_56_4_8) rfl ?_
    refine XS.aloadN X11.here hx rfl (hb hby d_56_4_9) rfl rfl ?_
    show Steps _ _ _ (T11.setTop (mkF m 10 #[.val (.ref x), .val (.ref q), .val (.int (0 + 1))] [(.ref x), (.int (0 + 1))])) _
    refine own_len X11 hx hZ e11 Ax15 (g := (mkF m 10 #[.val (.ref x), .val (.ref q), .val (.int (0 + 1))] [(.ref x), (.int (0 + 1))])) rfl rfl (hb hby d_56_4_10) _ ?_
    show Steps _ _ _ (T11.setTop (mkF m 11 #[.val (.ref x), .val (.ref q), .val (.int (0 + 1))] [(.int 3), (.int (0 + 1))])) _
    refine XS.icmpNo X11.here hx rfl (hb hby d_56_4_11) rfl (by decide) ?_
    refine XS.aloadN X11.here hx rfl (hb hby d_56_4_14) rfl rfl ?_
    refine XS.iloadN X11.here hx rfl (hb hby d_56_4_15) rfl ?_
    refine XS.aloadN X11.here hx rfl (hb hby d_56_4_16) rfl rfl ?_
    refine XS.iloadN X11.here hx rfl (hb hby d_56_4_17) rfl ?_
    show Steps _ _ _ (T11.setTop (mkF m 18 #[.val (.ref x), .val (.ref q), .val (.int (0 + 1))] [(.int (0 + 1)), (.ref x), (.int (0 + 1)), (.ref q)])) _
    refine own_aald X11 hx hZ e11 Ax16 rfl (by decide) rfl (g := (mkF m 18 #[.val (.ref x), .val (.ref q), .val (.int (0 + 1))] [(.int (0 + 1)), (.ref x), (.int (0 + 1)), (.ref q)])) rfl rfl (hb hby d_56_4_18) _ ?_
    show Steps _ _ _ (T11.setTop (mkF m 19 #[.val (.ref x), .val (.ref q), .val (.int (0 + 1))] [(.ref y2), (.int (0 + 1)), (.ref q)])) _
    refine st17 _ ?_
    show Steps _ _ _ (T17.setTop (mkF m 22 #[.val (.ref x), .val (.ref q), .val (.int (0 + 1))] [(.ref y2), (.int (0 + 1)), (.ref q)])) _
    refine st20 _ ?_
    show Steps _ _ _ (T20.setTop (mkF m 23 #[.val (.ref x), .val (.ref q), .val (.int (0 + 1))] [])) _
    refine XT.iincV X20.here hx rfl 1 (hb hby d_56_4_23) rfl rfl rfl ?_
    show Steps _ _ _ (T20.setTop (mkF m 26 #[.val (.ref x), .val (.ref q), .val (.int ((0 + 1) + 1))] [])) _
    refine XS.goto X20.here hx rfl rfl (hb hby d_56_4_26) (show (0 : Int) ≤ ((26 : Nat) : Int) + (-18) by decide) (show (((26 : Nat) : Int) + (-18)).toNat = 8 by decide) ?_
    refine XS.iloadN X20.here hx rfl (hb hby d_56_4_8) rfl ?_
    refine XS.aloadN X20.here hx rfl (hb hby d_56_4_9) rfl rfl ?_
    show Steps _ _ _ (T20.setTop (mkF m 10 #[.val (.ref x), .val (.ref q), .val (.int ((0 + 1) + 1))] [(.ref x), (.int ((0 + 1) + 1))])) _
    refine own_len X20 hx hZ e20 Ax24 (g := (mkF m 10 #[.val (.ref x), .val (.ref q), .val (.int ((0 + 1) + 1))] [(.ref x), (.int ((0 + 1) + 1))])) rfl rfl (hb hby d_56_4_10) _ ?_
    show Steps _ _ _ (T20.setTop (mkF m 11 #[.val (.ref x), .val (.ref q), .val (.int ((0 + 1) + 1))] [(.int 3), (.int ((0 + 1) + 1))])) _
    refine XS.icmpNo X20.here hx rfl (hb hby d_56_4_11) rfl (by decide) ?_
    refine XS.aloadN X20.here hx rfl (hb hby d_56_4_14) rfl rfl ?_
    refine XS.iloadN X20.here hx rfl (hb hby d_56_4_15) rfl ?_
    refine XS.aloadN X20.here hx rfl (hb hby d_56_4_16) rfl rfl ?_
    refine XS.iloadN X20.here hx rfl (hb hby d_56_4_17) rfl ?_
    show Steps _ _ _ (T20.setTop (mkF m 18 #[.val (.ref x), .val (.ref q), .val (.int ((0 + 1) + 1))] [(.int ((0 + 1) + 1)), (.ref x), (.int ((0 + 1) + 1)), (.ref q)])) _
    refine own_aald X20 hx hZ e20 Ax25 rfl (by decide) rfl (g := (mkF m 18 #[.val (.ref x), .val (.ref q), .val (.int ((0 + 1) + 1))] [(.int ((0 + 1) + 1)), (.ref x), (.int ((0 + 1) + 1)), (.ref q)])) rfl rfl (hb hby d_56_4_18) _ ?_
    show Steps _ _ _ (T20.setTop (mkF m 19 #[.val (.ref x), .val (.ref q), .val (.int ((0 + 1) + 1))] [(.ref y3), (.int ((0 + 1) + 1)), (.ref q)])) _
    refine st26 _ ?_
    show Steps _ _ _ (T26.setTop (mkF m 22 #[.val (.ref x), .val (.ref q), .val (.int ((0 + 1) + 1))] [(.ref y3), (.int ((0 + 1) + 1)), (.ref q)])) _
    refine st29 _ ?_
    show Steps _ _ _ (T29.setTop (mkF m 23 #[.val (.ref x), .val (.ref q), .val (.int ((0 + 1) + 1))] [])) _
    refine XT.iincV X29.here hx rfl 1 (hb hby d_56_4_23) rfl rfl rfl ?_
    show Steps _ _ _ (T29.setTop (mkF m 26 #[.val (.ref x), .val (.ref q), .val (.int (((0 + 1) + 1) + 1))] [])) _
    refine XS.goto X29.here hx rfl rfl (hb hby d_56_4_26) (show (0 : Int) ≤ ((26 : Nat) : Int) + (-18) by decide) (show (((26 : Nat) : Int) + (-18)).toNat = 8 by decide) ?_
    refine XS.iloadN X29.here hx rfl (hb hby d_56_4_8) rfl ?_
    refine XS.aloadN X29.here hx rfl (hb hby d_56_4_9) rfl rfl ?_
    show Steps _ _ _ (T29.setTop (mkF m 10 #[.val (.ref x), .val (.ref q), .val (.int (((0 + 1) + 1) + 1))] [(.ref x), (.int (((0 + 1) + 1) + 1))])) _
    refine own_len X29 hx hZ e29 Ax33 (g := (mkF m 10 #[.val (.ref x), .val (.ref q), .val (.int (((0 + 1) + 1) + 1))] [(.ref x), (.int (((0 + 1) + 1) + 1))])) rfl rfl (hb hby d_56_4_10) _ ?_
    show Steps _ _ _ (T29.setTop (mkF m 11 #[.val (.ref x), .val (.ref q), .val (.int (((0 + 1) + 1) + 1))] [(.int 3), (.int (((0 + 1) + 1) + 1))])) _
    refine XS.icmpYes X29.here hx rfl rfl (hb hby d_56_4_11) rfl (by decide) (show (0 : Int) ≤ ((11 : Nat) : Int) + (18) by decide) (show (((11 : Nat) : Int) + (18)).toNat = 29 by decide) ?_
    show Steps _ _ _ (T29.setTop (mkF m 29 #[.val (.ref x), .val (.ref q), .val (.int (((0 + 1) + 1) + 1))] [])) _
    refine st34 _ ?_
    refine XS.dup X34.here hx rfl (hb hby d_56_4_32) rfl rfl ?_
    refine XS.aloadN X34.here hx rfl (hb hby d_56_4_33) rfl rfl ?_
    refine XT.iconstV X34.here hx rfl 0 (hb hby d_56_4_34) rfl ?_
    show Steps _ _ _ (T34.setTop (mkF m 35 #[.val (.ref x), .val (.ref q), .val (.int (((0 + 1) + 1) + 1))] [(.int 0), (.ref q), (.ref o), (.ref o)])) _
    refine st38.trans ?_
    show Steps _ _ _ (T38.setTop (mkF m 38 #[.val (.ref x), .val (.ref q), .val (.int (((0 + 1) + 1) + 1))] [(.ref o)])) _
    exact retOut X38 hx Bd.returns rfl (Or.inr (Or.inr (Or.inr (Or.inr ⟨rfl, rfl, rfl⟩)))) (hb hby d_56_4_38) hr
  · show own_QLf Z y1 y2 y3 h0 n0 _ T38.heap _
    rw [e38]
    exact ⟨o, rfl, N40_, K41_, q, A38, f42_⟩
theorem own_pd9 : parseMethodDescriptor "(Ljava/lang/Object;)V" = some ⟨[(.object "java/lang/Object")], none⟩ := by decide +kernel
theorem d_40_47_0 : decode jdk_40_method_47_code 0 = .ok (.aload_n 0, 1) := by decide +kernel
theorem d_40_47_1 : decode jdk_40_method_47_code 1 = .ok (.arraylength, 1) := by decide +kernel
theorem d_40_47_2 : decode jdk_40_method_47_code 2 = .ok (.tableswitch 57 0 2 #[26, 32, 43], 26) := by decide +kernel
theorem d_40_47_34 : decode jdk_40_method_47_code 34 = .ok (.new 96, 3) := by decide +kernel
theorem d_40_47_37 : decode jdk_40_method_47_code 37 = .ok (.dup, 1) := by decide +kernel
theorem d_40_47_38 : decode jdk_40_method_47_code 38 = .ok (.aload_n 0, 1) := by decide +kernel
theorem d_40_47_39 : decode jdk_40_method_47_code 39 = .ok (.iconst 0, 1) := by decide +kernel
theorem d_40_47_40 : decode jdk_40_method_47_code 40 = .ok (.aaload, 1) := by decide +kernel
theorem d_40_47_41 : decode jdk_40_method_47_code 41 = .ok (.invokespecial 98, 3) := by decide +kernel
theorem d_40_47_44 : decode jdk_40_method_47_code 44 = .ok (.areturn, 1) := by decide +kernel
theorem own_ef_of_1 (m : MethodId) (x0 : Addr) : entryFrame m #[(.ref x0)] 2 = mkF m 0 #[.val (.ref x0), .unset] [] := by first | (simp [entryFrame, mkF, argsToLocals, Value.category]; done) | rfl
theorem own_of_1 (l : Launch) (Z : State) (a0 : Array Value) (hw : ∀ d ∈ tables_1, d.before a0 Z = true) (ws : List Jvm.Cond) {D IC EL EE EM MO b0 b1 : Addr} {cD cI cE : Cell} (G : own_G Z D IC EL EE EM MO b0 b1 cD cI cE) (x y1 : Addr) (h0 : Heap) (n0 : Nat) (Z0 : n0 ≤ h0.size) (B : own_Oa Z h0 x 1 [.ref y1]) (I1 : Ins Z h0 y1 "java/lang/Object" true) (O : Old Z n0 h0) :
    MetFree l (⟨"java/util/List", "of", "([Ljava/lang/Object;)Ljava/util/List;"⟩ : MethodName) (head1 (Jvm.Cond.code (⟨"java/util/List", "of", "([Ljava/lang/Object;)Ljava/util/List;"⟩ : MethodName) jdk_40_method_47_code 2 (some (.object "java/util/List")) :: ws) ({ frames := 5, cells := 1, slots := 2, locals := 62 } : Room)) (fun av U => av = #[(.ref x)] ∧ Z.Warmed39 U.vm ∧ U.heap = h0) (fun _ _ _ _ _ => True) (fun _ U oc U' => ∃ v L, oc = .returned v ∧ own_QIL Z EL EM [y1] h0 n0 v U'.heap L ∧ FrameEnd U oc U' L ({ frames := 5, cells := 1, slots := 2, locals := 62 } : Room).cells ({ frames := 5, cells := 1, slots := 2, locals := 62 } : Room).slots) := by
  refine MetFree.of_bodySF (plainFor_of_name own_pn5) hisR ?_
  intro p e s m args below meth c s₁ Bd hml0 hP hK
  obtain ⟨rfl, hZ, hh⟩ := hP
  have hx := Bd.exec
  have hby := Bd.bytes
  have hml : c.maxLocals = 2 := hml0
  have hown : s.vm.findClass "java/util/List" = some m.cls := findClass_of_methodNamed Bd.named
  have hnm := (name_of_methodNamed Bd.named Bd.method).1
  have X0 : Stand p l e ({ frames := 5, cells := 1, slots := 2, locals := 62 } : Room) s m #[(.ref x)] below meth c s₁ [] 0 0 := Stand.of_body Bd
  have e0 : s₁.heap = h0 := by rw [← hh, Bd.state]; rfl
  have N0 := Fr.nil n0
  have pre0 : ∀ tt, Steps p.tables e below (s₁.setTop (mkF m 0 #[.val (.ref x), .unset] [])) tt → Steps p.tables e below (s₁.setTop (entryFrame m #[(.ref x)] 2)) tt := fun tt k' => castTop (own_ef_of_1 m x) k'
  obtain ⟨kx, Ax, -⟩ := id B
  have ltx := B.lt
  obtain ⟨T1, h1, X1, e1, E1, A1, D1, -, st1⟩ := newO X0 hx hZ hown (ow hw 147 rfl) (ow hw 148 rfl) (ow hw 149 rfl) e0 (g := (mkF m 34 #[.val (.ref x), .unset] [])) rfl (hb hby d_40_47_34) (by decide) (by decide)
  obtain ⟨o, go_o⟩ : ∃ z, z = h0.size := ⟨_, rfl⟩
  rw [← go_o] at A1 D1 st1
  have gh_o := (Nat.le_of_eq go_o.symm : h0.size ≤ o)
  have ge_o := Nat.le_trans Z0 gh_o
  have K2_ := (Keep.refl h0 []).ext E1
  have ne3_ := (Nat.ne_of_lt (Nat.lt_of_lt_of_le ltx (Nat.le_of_eq go_o.symm)) : x ≠ o)
  have A_o := (⟨A1, (D1 (Or.inr (ow hw 173 rfl)) (ty := (.object "java/lang/Object")) (by decide)), (D1 (Or.inr (ow hw 176 rfl)) (ty := (.object "java/lang/Object")) (by decide))⟩ : own_L12 Z h1 o .null .null)
  have f4_ := (B.ext E1)
  obtain ⟨kx5, Ax5, -⟩ := id f4_
  have f7_ := (O.ext E1)
  have Z8_ := (Nat.le_trans Z0 K2_.1)
  obtain ⟨_, _, ⟨T6, L6, k6, n6⟩, -, X6, ⟨Lc6, hQ6, l6, y6, z6⟩, st6⟩ := X1.specialBack hx (y := (⟨"java/util/ImmutableCollections$List12", "<init>", "(Ljava/lang/Object;)V"⟩ : MethodName)) rfl hown (mvT hZ (ow hw 150 rfl)) (mvT hZ (ow hw 151 rfl)) (mvT hZ (ow hw 153 rfl)) (by decide) (backOf (W := 1) (own_L1i l Z a0 hw [] G o y1 .null .null h1 n0 Z8_ A_o ge_o f7_) hZ (ow hw 153 rfl) (ow hw 149 rfl) (by decide) (by decide)) (g := (mkF m 41 #[.val (.ref x), .unset] [(.ref y1), (.ref o), (.ref o)])) rfl (by rw [hml]; rfl) (Steps.refl _) (a := o) (argsL := [(.ref y1)]) (rest := [(.ref o)]) (lenOf own_pd9 rfl) rfl (by show 2 * 0 + _ ≤ _; exact Nat.le_of_eq rfl) (hb hby d_40_47_41) (fun _ _ => ⟨rfl, e1, (by decide : 1 + 0 ≤ _), (by decide : 2 + 0 ≤ _)⟩)
  dsimp only [Pt.U, Pt.locs, Pt.cells, Pt.slots] at X6 l6 y6 z6 st6 hQ6
  subst l6 y6 z6
  obtain ⟨h6, e6⟩ : ∃ z, T6.heap = z := ⟨_, rfl⟩
  rw [e6] at hQ6
  obtain ⟨rfl, N6, K6, A6⟩ := hQ6
  have N9_ := Fr.app N0 N6
  have K10_ := K2_.trans K6 (allS (Or.inr gh_o) all0)
  obtain ⟨fs, hr, hrun, hended, hW, hsame⟩ := X6.leave (v := some (.ref o)) (fun h => by rw [Bd.returns] at h; cases h)
  refine ⟨_, _, pre0 _ ?_, hrun, hended, _, _, rfl, ?_, ⟨_, rfl⟩, hW, hsame.mono (by decide) (by decide)⟩
  · show Steps _ _ _ (s₁.setTop (mkF m 0 #[.val (.ref x), .unset] [])) _
    refine XS.aloadN X0.here hx rfl (hb hby d_40_47_0) rfl rfl ?_
    show Steps _ _ _ (s₁.setTop (mkF m 1 #[.val (.ref x), .unset] [(.ref x)])) _
    refine own_len X0 hx hZ e0 Ax (g := (mkF m 1 #[.val (.ref x), .unset] [(.ref x)])) rfl rfl (hb hby d_40_47_1) _ ?_
    show Steps _ _ _ (s₁.setTop (mkF m 2 #[.val (.ref x), .unset] [(.int 1)])) _
    refine XS.tswIn X0.here hx rfl (o := 32) (pc0 := 2) (pc' := 34) rfl (hb hby d_40_47_2) rfl (by decide) rfl (by decide) (by decide) ?_
    show Steps _ _ _ (s₁.setTop (mkF m 34 #[.val (.ref x), .unset] [])) _
    refine st1 _ ?_
    refine XS.dup X1.here hx rfl (hb hby d_40_47_37) rfl rfl ?_
    refine XS.aloadN X1.here hx rfl (hb hby d_40_47_38) rfl rfl ?_
    refine XT.iconstV X1.here hx rfl 0 (hb hby d_40_47_39) rfl ?_
    show Steps _ _ _ (T1.setTop (mkF m 40 #[.val (.ref x), .unset] [(.int 0), (.ref x), (.ref o), (.ref o)])) _
    refine own_aald X1 hx hZ e1 Ax5 rfl (by decide) rfl (g := (mkF m 40 #[.val (.ref x), .unset] [(.int 0), (.ref x), (.ref o), (.ref o)])) rfl rfl (hb hby d_40_47_40) _ ?_
    show Steps _ _ _ (T1.setTop (mkF m 41 #[.val (.ref x), .unset] [(.ref y1), (.ref o), (.ref o)])) _
    refine st6.trans ?_
    show Steps _ _ _ (T6.setTop (mkF m 44 #[.val (.ref x), .unset] [(.ref o)])) _
    exact retOut X6 hx Bd.returns rfl (Or.inr (Or.inr (Or.inr (Or.inr ⟨rfl, rfl, rfl⟩)))) (hb hby d_40_47_44) hr
  · show own_QIL Z EL EM [y1] h0 n0 _ T6.heap _
    rw [e6]
    exact ⟨o, rfl, N9_, K10_, A6⟩
theorem own_pd10 : parseMethodDescriptor "(Ljava/lang/Object;Ljava/lang/Object;)V" = some ⟨[(.object "java/lang/Object"), (.object "java/lang/Object")], none⟩ := by decide +kernel
theorem d_40_47_45 : decode jdk_40_method_47_code 45 = .ok (.new 96, 3) := by decide +kernel
theorem d_40_47_48 : decode jdk_40_method_47_code 48 = .ok (.dup, 1) := by decide +kernel
theorem d_40_47_49 : decode jdk_40_method_47_code 49 = .ok (.aload_n 0, 1) := by decide +kernel
theorem d_40_47_50 : decode jdk_40_method_47_code 50 = .ok (.iconst 0, 1) := by decide +kernel
theorem d_40_47_51 : decode jdk_40_method_47_code 51 = .ok (.aaload, 1) := by decide +kernel
theorem d_40_47_52 : decode jdk_40_method_47_code 52 = .ok (.aload_n 0, 1) := by decide +kernel
theorem d_40_47_53 : decode jdk_40_method_47_code 53 = .ok (.iconst 1, 1) := by decide +kernel
theorem d_40_47_54 : decode jdk_40_method_47_code 54 = .ok (.aaload, 1) := by decide +kernel
theorem d_40_47_55 : decode jdk_40_method_47_code 55 = .ok (.invokespecial 100, 3) := by decide +kernel
theorem d_40_47_58 : decode jdk_40_method_47_code 58 = .ok (.areturn, 1) := by decide +kernel
theorem own_ef_of_2 (m : MethodId) (x0 : Addr) : entryFrame m #[(.ref x0)] 2 = mkF m 0 #[.val (.ref x0), .unset] [] := by first | (simp [entryFrame, mkF, argsToLocals, Value.category]; done) | rfl
theorem own_of_2 (l : Launch) (Z : State) (a0 : Array Value) (hw : ∀ d ∈ tables_1, d.before a0 Z = true) (ws : List Jvm.Cond) {D IC EL EE EM MO b0 b1 : Addr} {cD cI cE : Cell} (G : own_G Z D IC EL EE EM MO b0 b1 cD cI cE) (x y1 y2 : Addr) (h0 : Heap) (n0 : Nat) (Z0 : n0 ≤ h0.size) (B : own_Oa Z h0 x 2 [.ref y1, .ref y2]) (I1 : Ins Z h0 y1 "java/lang/Object" true) (I2 : Ins Z h0 y2 "java/lang/Object" true) (hE : y2 ≠ EM) :
    MetFree l (⟨"java/util/List", "of", "([Ljava/lang/Object;)Ljava/util/List;"⟩ : MethodName) (head1 (Jvm.Cond.code (⟨"java/util/List", "of", "([Ljava/lang/Object;)Ljava/util/List;"⟩ : MethodName) jdk_40_method_47_code 2 (some (.object "java/util/List")) :: ws) ({ frames := 5, cells := 1, slots := 2, locals := 63 } : Room)) (fun av U => av = #[(.ref x)] ∧ Z.Warmed39 U.vm ∧ U.heap = h0) (fun _ _ _ _ _ => True) (fun _ U oc U' => ∃ v L, oc = .returned v ∧ own_QIL Z EL EM [y1, y2] h0 n0 v U'.heap L ∧ FrameEnd U oc U' L ({ frames := 5, cells := 1, slots := 2, locals := 63 } : Room).cells ({ frames := 5, cells := 1, slots := 2, locals := 63 } : Room).slots) := by
  refine MetFree.of_bodySF (plainFor_of_name own_pn5) hisR ?_
  intro p e s m args below meth c s₁ Bd hml0 hP hK
  obtain ⟨rfl, hZ, hh⟩ := hP
  have hx := Bd.exec
  have hby := Bd.bytes
  have hml : c.maxLocals = 2 := hml0
  have hown : s.vm.findClass "java/util/List" = some m.cls := findClass_of_methodNamed Bd.named
  have hnm := (name_of_methodNamed Bd.named Bd.method).1
  have X0 : Stand p l e ({ frames := 5, cells := 1, slots := 2, locals := 63 } : Room) s m #[(.ref x)] below meth c s₁ [] 0 0 := Stand.of_body Bd
  have e0 : s₁.heap = h0 := by rw [← hh, Bd.state]; rfl
  have N0 := Fr.nil n0
  have pre0 : ∀ tt, Steps p.tables e below (s₁.setTop (mkF m 0 #[.val (.ref x), .unset] [])) tt → Steps p.tables e below (s₁.setTop (entryFrame m #[(.ref x)] 2)) tt := fun tt k' => castTop (own_ef_of_2 m x) k'
  obtain ⟨kx, Ax, -⟩ := id B
  have ltx := B.lt
  obtain ⟨T1, h1, X1, e1, E1, A1, D1, -, st1⟩ := newO X0 hx hZ hown (ow hw 147 rfl) (ow hw 148 rfl) (ow hw 149 rfl) e0 (g := (mkF m 45 #[.val (.ref x), .unset] [])) rfl (hb hby d_40_47_45) (by decide) (by decide)
  obtain ⟨o, go_o⟩ : ∃ z, z = h0.size := ⟨_, rfl⟩
  rw [← go_o] at A1 D1 st1
  have gh_o := (Nat.le_of_eq go_o.symm : h0.size ≤ o)
  have ge_o := Nat.le_trans Z0 gh_o
  have K2_ := (Keep.refl h0 []).ext E1
  have ne3_ := (Nat.ne_of_lt (Nat.lt_of_lt_of_le ltx (Nat.le_of_eq go_o.symm)) : x ≠ o)
  have A_o := (⟨A1, (D1 (Or.inr (ow hw 173 rfl)) (ty := (.object "java/lang/Object")) (by decide)), (D1 (Or.inr (ow hw 176 rfl)) (ty := (.object "java/lang/Object")) (by decide))⟩ : own_L12 Z h1 o .null .null)
  have f4_ := (B.ext E1)
  obtain ⟨kx5, Ax5, -⟩ := id f4_
  obtain ⟨kx6, Ax6, -⟩ := id f4_
  have Z8_ := (Nat.le_trans Z0 K2_.1)
  obtain ⟨_, _, ⟨T7, L7, k7, n7⟩, -, X7, ⟨Lc7, hQ7, l7, y7, z7⟩, st7⟩ := X1.specialBack hx (y := (⟨"java/util/ImmutableCollections$List12", "<init>", "(Ljava/lang/Object;Ljava/lang/Object;)V"⟩ : MethodName)) rfl hown (mvT hZ (ow hw 249 rfl)) (mvT hZ (ow hw 250 rfl)) (mvT hZ (ow hw 251 rfl)) (by decide) (backOf (W := 1) (own_L2i l Z a0 hw [] o y1 y2 .null .null h1 n0 Z8_ A_o ge_o) hZ (ow hw 251 rfl) (ow hw 149 rfl) (by decide) (by decide)) (g := (mkF m 55 #[.val (.ref x), .unset] [(.ref y2), (.ref y1), (.ref o), (.ref o)])) rfl (by rw [hml]; rfl) (Steps.refl _) (a := o) (argsL := [(.ref y1), (.ref y2)]) (rest := [(.ref o)]) (lenOf own_pd10 rfl) rfl (by show 2 * 0 + _ ≤ _; exact Nat.le_of_eq rfl) (hb hby d_40_47_55) (fun _ _ => ⟨rfl, e1, (by decide : 1 + 0 ≤ _), (by decide : 2 + 0 ≤ _)⟩)
  dsimp only [Pt.U, Pt.locs, Pt.cells, Pt.slots] at X7 l7 y7 z7 st7 hQ7
  subst l7 y7 z7
  obtain ⟨h7, e7⟩ : ∃ z, T7.heap = z := ⟨_, rfl⟩
  rw [e7] at hQ7
  obtain ⟨rfl, N7, K7, A7⟩ := hQ7
  have N9_ := Fr.app N0 N7
  have K10_ := K2_.trans K7 (allS (Or.inr gh_o) all0)
  obtain ⟨fs, hr, hrun, hended, hW, hsame⟩ := X7.leave (v := some (.ref o)) (fun h => by rw [Bd.returns] at h; cases h)
  refine ⟨_, _, pre0 _ ?_, hrun, hended, _, _, rfl, ?_, ⟨_, rfl⟩, hW, hsame.mono (by decide) (by decide)⟩
  · show Steps _ _ _ (s₁.setTop (mkF m 0 #[.val (.ref x), .unset] [])) _
    refine XS.aloadN X0.here hx rfl (hb hby d_40_47_0) rfl rfl ?_
    show Steps _ _ _ (s₁.setTop (mkF m 1 #[.val (.ref x), .unset] [(.ref x)])) _
    refine own_len X0 hx hZ e0 Ax (g := (mkF m 1 #[.val (.ref x), .unset] [(.ref x)])) rfl rfl (hb hby d_40_47_1) _ ?_
    show Steps _ _ _ (s₁.setTop (mkF m 2 #[.val (.ref x), .unset] [(.int 2)])) _
    refine XS.tswIn X0.here hx rfl (o := 43) (pc0 := 2) (pc' := 45) rfl (hb hby d_40_47_2) rfl (by decide) rfl (by decide) (by decide) ?_
    show Steps _ _ _ (s₁.setTop (mkF m 45 #[.val (.ref x), .unset] [])) _
    refine st1 _ ?_
    refine XS.dup X1.here hx rfl (hb hby d_40_47_48) rfl rfl ?_
    refine XS.aloadN X1.here hx rfl (hb hby d_40_47_49) rfl rfl ?_
    refine XT.iconstV X1.here hx rfl 0 (hb hby d_40_47_50) rfl ?_
    show Steps _ _ _ (T1.setTop (mkF m 51 #[.val (.ref x), .unset] [(.int 0), (.ref x), (.ref o), (.ref o)])) _
    refine own_aald X1 hx hZ e1 Ax5 rfl (by decide) rfl (g := (mkF m 51 #[.val (.ref x), .unset] [(.int 0), (.ref x), (.ref o), (.ref o)])) rfl rfl (hb hby d_40_47_51) _ ?_
    refine XS.aloadN X1.here hx rfl (hb hby d_40_47_52) rfl rfl ?_
    refine XT.iconstV X1.here hx rfl 1 (hb hby d_40_47_53) rfl ?_
    show Steps _ _ _ (T1.setTop (mkF m 54 #[.val (.ref x), .unset] [(.int 1), (.ref x), (.ref y1), (.ref o), (.ref o)])) _
    refine own_aald X1 hx hZ e1 Ax6 rfl (by decide) rfl (g := (mkF m 54 #[.val (.ref x), .unset] [(.int 1), (.ref x), (.ref y1), (.ref o), (.ref o)])) rfl rfl (hb hby d_40_47_54) _ ?_
    show Steps _ _ _ (T1.setTop (mkF m 55 #[.val (.ref x), .unset] [(.ref y2), (.ref y1), (.ref o), (.ref o)])) _
    refine st7.trans ?_
    show Steps _ _ _ (T7.setTop (mkF m 58 #[.val (.ref x), .unset] [(.ref o)])) _
    exact retOut X7 hx Bd.returns rfl (Or.inr (Or.inr (Or.inr (Or.inr ⟨rfl, rfl, rfl⟩)))) (hb hby d_40_47_58) hr
  · show own_QIL Z EL EM [y1, y2] h0 n0 _ T7.heap _
    rw [e7]
    exact ⟨o, rfl, N9_, K10_, (⟨A7, hE⟩ : _ ∧ _)⟩
theorem own_pd11 : parseMethodDescriptor "([Ljava/lang/Object;)Ljava/util/List;" = some ⟨[(.array (.object "java/lang/Object"))], some (.object "java/util/List")⟩ := by decide +kernel
theorem d_40_47_59 : decode jdk_40_method_47_code 59 = .ok (.aload_n 0, 1) := by decide +kernel
theorem d_40_47_60 : decode jdk_40_method_47_code 60 = .ok (.invokestatic 109, 3) := by decide +kernel
theorem d_40_47_63 : decode jdk_40_method_47_code 63 = .ok (.areturn, 1) := by decide +kernel
theorem own_ef_of_3 (m : MethodId) (x0 : Addr) : entryFrame m #[(.ref x0)] 2 = mkF m 0 #[.val (.ref x0), .unset] [] := by first | (simp [entryFrame, mkF, argsToLocals, Value.category]; done) | rfl
theorem own_of_3 (l : Launch) (Z : State) (a0 : Array Value) (hw : ∀ d ∈ tables_1, d.before a0 Z = true) (ws : List Jvm.Cond) {D IC EL EE EM MO b0 b1 : Addr} {cD cI cE : Cell} (G : own_G Z D IC EL EE EM MO b0 b1 cD cI cE) (x y1 y2 y3 : Addr) (h0 : Heap) (n0 : Nat) (Z0 : n0 ≤ h0.size) (B : own_Oa Z h0 x 3 [.ref y1, .ref y2, .ref y3]) (I1 : Ins Z h0 y1 "java/lang/Object" true) (I2 : Ins Z h0 y2 "java/lang/Object" true) (I3 : Ins Z h0 y3 "java/lang/Object" true) :
    MetFree l (⟨"java/util/List", "of", "([Ljava/lang/Object;)Ljava/util/List;"⟩ : MethodName) (head1 (Jvm.Cond.code (⟨"java/util/List", "of", "([Ljava/lang/Object;)Ljava/util/List;"⟩ : MethodName) jdk_40_method_47_code 2 (some (.object "java/util/List")) :: ws) ({ frames := 6, cells := 2, slots := 5, locals := 77 } : Room)) (fun av U => av = #[(.ref x)] ∧ Z.Warmed39 U.vm ∧ U.heap = h0) (fun _ _ _ _ _ => True) (fun _ U oc U' => ∃ v L, oc = .returned v ∧ own_QIL Z EL EM [y1, y2, y3] h0 n0 v U'.heap L ∧ FrameEnd U oc U' L ({ frames := 6, cells := 2, slots := 5, locals := 77 } : Room).cells ({ frames := 6, cells := 2, slots := 5, locals := 77 } : Room).slots) := by
  refine MetFree.of_bodySF (plainFor_of_name own_pn5) hisR ?_
  intro p e s m args below meth c s₁ Bd hml0 hP hK
  obtain ⟨rfl, hZ, hh⟩ := hP
  have hx := Bd.exec
  have hby := Bd.bytes
  have hml : c.maxLocals = 2 := hml0
  have hown : s.vm.findClass "java/util/List" = some m.cls := findClass_of_methodNamed Bd.named
  have hnm := (name_of_methodNamed Bd.named Bd.method).1
  have X0 : Stand p l e ({ frames := 6, cells := 2, slots := 5, locals := 77 } : Room) s m #[(.ref x)] below meth c s₁ [] 0 0 := Stand.of_body Bd
  have e0 : s₁.heap = h0 := by rw [← hh, Bd.state]; rfl
  have N0 := Fr.nil n0
  have pre0 : ∀ tt, Steps p.tables e below (s₁.setTop (mkF m 0 #[.val (.ref x), .unset] [])) tt → Steps p.tables e below (s₁.setTop (entryFrame m #[(.ref x)] 2)) tt := fun tt k' => castTop (own_ef_of_3 m x) k'
  obtain ⟨kx, Ax, -⟩ := id B
  obtain ⟨_, _, ⟨T1, L1, k1, n1⟩, -, X1, ⟨Lc1, hQ1, l1, y1, z1⟩, st1⟩ := Jvm.LawKit.callS X0 hx (y := (⟨"java/util/ImmutableCollections", "listFromArray", "([Ljava/lang/Object;)Ljava/util/List;"⟩ : MethodName)) hown (mvT hZ (ow hw 302 rfl)) (mvT hZ (ow hw 303 rfl)) (mvT hZ (ow hw 91 rfl)) (mvT hZ (ow hw 304 rfl)) (by decide) (backOf (W := 0) (own_lfa l Z a0 hw [] x y1 y2 y3 h0 n0 Z0 B I1 I2 I3) hZ (ow hw 304 rfl) (ow hw 91 rfl) (by decide) (by decide)) (g := (mkF m 60 #[.val (.ref x), .unset] [(.ref x)])) rfl (by rw [hml]; rfl) (argsL := [(.ref x)]) (rest := []) (lenOf own_pd11 rfl) rfl (by show 2 * 0 + _ ≤ _; exact Nat.le_of_eq rfl) (hb hby d_40_47_60) (fun _ _ => ⟨rfl, e0, (by decide : 0 + 2 ≤ _), (by decide : 0 + 5 ≤ _)⟩)
  dsimp only [Pt.U, Pt.locs, Pt.cells, Pt.slots] at X1 l1 y1 z1 st1 hQ1
  subst l1 y1 z1
  obtain ⟨h1, e1⟩ : ∃ z, T1.heap = z := ⟨_, rfl⟩
  rw [e1] at hQ1
  obtain ⟨o, rfl, N1, K1, A1⟩ := hQ1
  have N2_ := Fr.app N0 N1
  have K3_ := (Keep.refl h0 []).trans K1 all0
  obtain ⟨fs, hr, hrun, hended, hW, hsame⟩ := X1.leave (v := some (.ref o)) (fun h => by rw [Bd.returns] at h; cases h)
  refine ⟨_, _, pre0 _ ?_, hrun, hended, _, _, rfl, ?_, ⟨_, rfl⟩, hW, hsame.mono (by decide) (by decide)⟩
  · show Steps _ _ _ (s₁.setTop (mkF m 0 #[.val (.ref x), .unset] [])) _
    refine XS.aloadN X0.here hx rfl (hb hby d_40_47_0) rfl rfl ?_
    show Steps _ _ _ (s₁.setTop (mkF m 1 #[.val (.ref x), .unset] [(.ref x)])) _
    refine own_len X0 hx hZ e0 Ax (g := (mkF m 1 #[.val (.ref x), .unset] [(.ref x)])) rfl rfl (hb hby d_40_47_1) _ ?_
    show Steps _ _ _ (s₁.setTop (mkF m 2 #[.val (.ref x), .unset] [(.int 3)])) _
    refine XS.tswOut X0.here hx rfl (pc0 := 2) (pc' := 59) rfl (hb hby d_40_47_2) rfl (by decide) (by decide) (by decide) ?_
    refine XS.aloadN X0.here hx rfl (hb hby d_40_47_59) rfl rfl ?_
    show Steps _ _ _ (s₁.setTop (mkF m 60 #[.val (.ref x), .unset] [(.ref x)])) _
    refine st1 _ ?_
    show Steps _ _ _ (T1.setTop (mkF m 63 #[.val (.ref x), .unset] [(.ref o)])) _
    exact retOut X1 hx Bd.returns rfl (Or.inr (Or.inr (Or.inr (Or.inr ⟨rfl, rfl, rfl⟩)))) (hb hby d_40_47_63) hr
  · show own_QIL Z EL EM [y1, y2, y3] h0 n0 _ T1.heap _
    rw [e1]
    exact ⟨o, rfl, N2_, K3_, A1⟩
theorem own_pd12 : parseMethodDescriptor "()Z" = some ⟨[], some .boolean⟩ := by decide +kernel
theorem own_pd13 : parseMethodDescriptor "()Ljava/util/List;" = some ⟨[], some (.object "java/util/List")⟩ := by decide +kernel
theorem d_56_3_0 : decode jdk_56_method_3_code 0 = .ok (.aload_n 0, 1) := by decide +kernel
theorem d_56_3_1 : decode jdk_56_method_3_code 1 = .ok (.instanceof 10, 3) := by decide +kernel
theorem d_56_3_4 : decode jdk_56_method_3_code 4 = .ok (.ifCond .ne 22, 3) := by decide +kernel
theorem d_56_3_7 : decode jdk_56_method_3_code 7 = .ok (.aload_n 0, 1) := by decide +kernel
theorem d_56_3_8 : decode jdk_56_method_3_code 8 = .ok (.instanceof 12, 3) := by decide +kernel
theorem d_56_3_11 : decode jdk_56_method_3_code 11 = .ok (.ifCond .eq 20, 3) := by decide +kernel
theorem d_56_3_31 : decode jdk_56_method_3_code 31 = .ok (.aload_n 0, 1) := by decide +kernel
theorem d_56_3_32 : decode jdk_56_method_3_code 32 = .ok (.invokeinterface 20 1, 5) := by decide +kernel
theorem d_56_3_37 : decode jdk_56_method_3_code 37 = .ok (.ifCond .eq 7, 3) := by decide +kernel
theorem d_56_3_40 : decode jdk_56_method_3_code 40 = .ok (.invokestatic 26, 3) := by decide +kernel
theorem d_56_3_43 : decode jdk_56_method_3_code 43 = .ok (.areturn, 1) := by decide +kernel
theorem own_ef_lc_0 (m : MethodId) (x0 : Addr) : entryFrame m #[(.ref x0)] 2 = mkF m 0 #[.val (.ref x0), .unset] [] := by first | (simp [entryFrame, mkF, argsToLocals, Value.category]; done) | rfl
theorem own_lc_0 (l : Launch) (Z : State) (a0 : Array Value) (hw : ∀ d ∈ tables_1, d.before a0 Z = true) (ws : List Jvm.Cond) {D IC EL EE EM MO b0 b1 : Addr} {cD cI cE : Cell} (G : own_G Z D IC EL EE EM MO b0 b1 cD cI cE) (a : Addr) (k : Int32) (h0 : Heap) (n0 : Nat) (Z0 : n0 ≤ h0.size) (A : own_Al Z h0 a (.ref D) k 0) (O : Old Z n0 h0) :
    MetFree l (⟨"java/util/ImmutableCollections", "listCopy", "(Ljava/util/Collection;)Ljava/util/List;"⟩ : MethodName) (head1 (Jvm.Cond.code (⟨"java/util/ImmutableCollections", "listCopy", "(Ljava/util/Collection;)Ljava/util/List;"⟩ : MethodName) jdk_56_method_3_code 2 (some (.object "java/util/List")) :: ws) ({ frames := 7, cells := 4, slots := 16, locals := 90 } : Room)) (fun av U => av = #[(.ref a)] ∧ Z.Warmed39 U.vm ∧ U.heap = h0) (fun _ _ _ _ _ => True) (fun _ U oc U' => ∃ v L, oc = .returned v ∧ own_QIL Z EL EM [] h0 n0 v U'.heap L ∧ FrameEnd U oc U' L ({ frames := 7, cells := 4, slots := 16, locals := 90 } : Room).cells ({ frames := 7, cells := 4, slots := 16, locals := 90 } : Room).slots) := by
  refine MetFree.of_bodySF (plainFor_of_name own_pn11) hisR ?_
  intro p e s m args below meth c s₁ Bd hml0 hP hK
  obtain ⟨rfl, hZ, hh⟩ := hP
  have hx := Bd.exec
  have hby := Bd.bytes
  have hml : c.maxLocals = 2 := hml0
  have hown : s.vm.findClass "java/util/ImmutableCollections" = some m.cls := findClass_of_methodNamed Bd.named
  have hnm := (name_of_methodNamed Bd.named Bd.method).1
  have X0 : Stand p l e ({ frames := 7, cells := 4, slots := 16, locals := 90 } : Room) s m #[(.ref a)] below meth c s₁ [] 0 0 := Stand.of_body Bd
  have e0 : s₁.heap = h0 := by rw [← hh, Bd.state]; rfl
  have N0 := Fr.nil n0
  have pre0 : ∀ tt, Steps p.tables e below (s₁.setTop (mkF m 0 #[.val (.ref a), .unset] [])) tt → Steps p.tables e below (s₁.setTop (entryFrame m #[(.ref a)] 2)) tt := fun tt k' => castTop (own_ef_lc_0 m a) k'
  obtain ⟨T1, X1, e1, st1⟩ := instNo X0 hx hZ hown (ow hw 93 rfl) e0 A.1 (own_NSno (ow hw 94 rfl) (ow hw 148 rfl) (NS.step (ow hw 94 rfl) (NS.step (ow hw 95 rfl) (NS.step (ow hw 96 rfl) (own_NSroot (ow hw 97 rfl) (ow hw 148 rfl) (by decide)) (by decide)) (by decide)) (by decide)) (by decide)) (g := (mkF m 1 #[.val (.ref a), .unset] [(.ref a)])) rfl rfl (hb hby d_56_3_1)
  obtain ⟨T2, X2, e2, st2⟩ := instNo X1 hx hZ hown (ow hw 98 rfl) e1 A.1 (own_NSno (ow hw 94 rfl) (ow hw 307 rfl) (NS.step (ow hw 94 rfl) (NS.step (ow hw 95 rfl) (NS.step (ow hw 96 rfl) (own_NSroot (ow hw 97 rfl) (ow hw 307 rfl) (by decide)) (by decide)) (by decide)) (by decide)) (by decide)) (g := (mkF m 8 #[.val (.ref a), .unset] [(.ref a)])) rfl rfl (hb hby d_56_3_8)
  obtain ⟨cq3, kq3, q3a, q3b, q3c⟩ := isOf hZ e2 A.1
  obtain ⟨_, _, ⟨T3, L3, k3, n3⟩, -, X3, ⟨Lc3, hQ3, l3, y3, z3⟩, st3⟩ := X2.interfaceBack hx (xi := (⟨"java/util/Collection", "isEmpty", "()Z"⟩ : MethodName)) (y := (⟨"java/util/ArrayList", "isEmpty", "()Z"⟩ : MethodName)) hown (mvT hZ (ow hw 99 rfl)) (mvT hZ (ow hw 100 rfl)) (mvT hZ (ow hw 101 rfl)) (mvT hZ (ow hw 102 rfl)) (mvT hZ (ow hw 103 rfl)) (mvT hZ (ow hw 104 rfl)) (mvT hZ (ow hw 105 rfl)) (mvT hZ (ow hw 106 rfl)) (by decide) (backOf (W := 0) (own_isE0 l Z a0 hw [] a (.ref D) k h0 n0 Z0 A) hZ (ow hw 107 rfl) (ow hw 2 rfl) (by decide) (by decide)) q3a q3b q3c (g := (mkF m 32 #[.val (.ref a), .unset] [(.ref a)])) rfl (by rw [hml]; rfl) (Steps.refl _) (argsL := []) (rest := []) (lenOf own_pd12 rfl) rfl (by show 2 * 0 + _ ≤ _; exact Nat.le_of_eq rfl) (hb hby d_56_3_32) (fun _ _ => ⟨rfl, e2, (by decide : 0 + 0 ≤ _), (by decide : 0 + 0 ≤ _)⟩)
  dsimp only [Pt.U, Pt.locs, Pt.cells, Pt.slots] at X3 l3 y3 z3 st3 hQ3
  subst l3 y3 z3
  obtain ⟨rfl, N3, e3⟩ := hQ3
  have N4_ := Fr.app N0 N3
  obtain ⟨_, _, ⟨T5, L5, k5, n5⟩, -, X5, ⟨Lc5, hQ5, l5, y5, z5⟩, st5⟩ := Jvm.LawKit.callS X3 hx (y := (⟨"java/util/List", "of", "()Ljava/util/List;"⟩ : MethodName)) hown (mvT hZ (ow hw 108 rfl)) (mvT hZ (ow hw 109 rfl)) (mvT hZ (ow hw 87 rfl)) (mvT hZ (ow hw 110 rfl)) (by decide) (backOf (W := 0) (own_of0 l Z a0 hw [] G h0 n0 Z0  O) hZ (ow hw 110 rfl) (ow hw 87 rfl) (by decide) (by decide)) (g := (mkF m 40 #[.val (.ref a), .unset] [])) rfl (by rw [hml]; rfl) (argsL := []) (rest := []) (lenOf own_pd13 rfl) rfl (by show 2 * 0 + _ ≤ _; exact Nat.le_of_eq rfl) (hb hby d_56_3_40) (fun _ _ => ⟨rfl, e3, (by decide : 0 + 0 ≤ _), (by decide : 0 + 0 ≤ _)⟩)
  dsimp only [Pt.U, Pt.locs, Pt.cells, Pt.slots] at X5 l5 y5 z5 st5 hQ5
  subst l5 y5 z5
  obtain ⟨rfl, N5, e5⟩ := hQ5
  have N6_ := Fr.app N4_ N5
  obtain ⟨fs, hr, hrun, hended, hW, hsame⟩ := X5.leave (v := some (.ref EL)) (fun h => by rw [Bd.returns] at h; cases h)
  refine ⟨_, _, pre0 _ ?_, hrun, hended, _, _, rfl, ?_, ⟨_, rfl⟩, hW, hsame.mono (by decide) (by decide)⟩
  · show Steps _ _ _ (s₁.setTop (mkF m 0 #[.val (.ref a), .unset] [])) _
    refine XS.aloadN X0.here hx rfl (hb hby d_56_3_0) rfl rfl ?_
    show Steps _ _ _ (s₁.setTop (mkF m 1 #[.val (.ref a), .unset] [(.ref a)])) _
    refine st1 _ ?_
    show Steps _ _ _ (T1.setTop (mkF m 4 #[.val (.ref a), .unset] [(.int 0)])) _
    refine XS.ifNo X1.here hx rfl (hb hby d_56_3_4) rfl (by decide) ?_
    refine XS.aloadN X1.here hx rfl (hb hby d_56_3_7) rfl rfl ?_
    show Steps _ _ _ (T1.setTop (mkF m 8 #[.val (.ref a), .unset] [(.ref a)])) _
    refine st2 _ ?_
    show Steps _ _ _ (T2.setTop (mkF m 11 #[.val (.ref a), .unset] [(.int 0)])) _
    refine XS.ifYes X2.here hx rfl rfl (hb hby d_56_3_11) rfl (by decide) (show (0 : Int) ≤ ((11 : Nat) : Int) + (20) by decide) (show (((11 : Nat) : Int) + (20)).toNat = 31 by decide) ?_
    refine XS.aloadN X2.here hx rfl (hb hby d_56_3_31) rfl rfl ?_
    show Steps _ _ _ (T2.setTop (mkF m 32 #[.val (.ref a), .unset] [(.ref a)])) _
    refine st3.trans ?_
    show Steps _ _ _ (T3.setTop (mkF m 37 #[.val (.ref a), .unset] [(.int 1)])) _
    refine XS.ifNo X3.here hx rfl (hb hby d_56_3_37) rfl (by decide) ?_
    show Steps _ _ _ (T3.setTop (mkF m 40 #[.val (.ref a), .unset] [])) _
    refine st5 _ ?_
    show Steps _ _ _ (T5.setTop (mkF m 43 #[.val (.ref a), .unset] [(.ref EL)])) _
    exact retOut X5 hx Bd.returns rfl (Or.inr (Or.inr (Or.inr (Or.inr ⟨rfl, rfl, rfl⟩)))) (hb hby d_56_3_43) hr
  · show own_QIL Z EL EM [] h0 n0 _ T5.heap _
    rw [e5]
    exact ⟨EL, rfl, N6_, Keep.refl h0 [], rfl⟩
theorem own_pd14 : parseMethodDescriptor "(Ljava/util/Collection;)Ljava/util/List;" = some ⟨[(.object "java/util/Collection")], some (.object "java/util/List")⟩ := by decide +kernel
theorem d_40_48_0 : decode jdk_40_method_48_code 0 = .ok (.aload_n 0, 1) := by decide +kernel
theorem d_40_48_1 : decode jdk_40_method_48_code 1 = .ok (.invokestatic 112, 3) := by decide +kernel
theorem d_40_48_4 : decode jdk_40_method_48_code 4 = .ok (.areturn, 1) := by decide +kernel
theorem own_ef_co_0 (m : MethodId) (x0 : Addr) : entryFrame m #[(.ref x0)] 1 = mkF m 0 #[.val (.ref x0)] [] := by first | (simp [entryFrame, mkF, argsToLocals, Value.category]; done) | rfl
theorem own_co_0 (l : Launch) (Z : State) (a0 : Array Value) (hw : ∀ d ∈ tables_1, d.before a0 Z = true) (ws : List Jvm.Cond) {D IC EL EE EM MO b0 b1 : Addr} {cD cI cE : Cell} (G : own_G Z D IC EL EE EM MO b0 b1 cD cI cE) (a : Addr) (k : Int32) (h0 : Heap) (n0 : Nat) (Z0 : n0 ≤ h0.size) (A : own_Al Z h0 a (.ref D) k 0) (O : Old Z n0 h0) :
    MetFree l (⟨"java/util/List", "copyOf", "(Ljava/util/Collection;)Ljava/util/List;"⟩ : MethodName) (head1 (Jvm.Cond.code (⟨"java/util/List", "copyOf", "(Ljava/util/Collection;)Ljava/util/List;"⟩ : MethodName) jdk_40_method_48_code 1 (some (.object "java/util/List")) :: ws) ({ frames := 8, cells := 4, slots := 16, locals := 103 } : Room)) (fun av U => av = #[(.ref a)] ∧ Z.Warmed39 U.vm ∧ U.heap = h0) (fun _ _ _ _ _ => True) (fun _ U oc U' => ∃ v L, oc = .returned v ∧ own_QIL Z EL EM [] h0 n0 v U'.heap L ∧ FrameEnd U oc U' L ({ frames := 8, cells := 4, slots := 16, locals := 103 } : Room).cells ({ frames := 8, cells := 4, slots := 16, locals := 103 } : Room).slots) := by
  refine MetFree.of_bodySF (plainFor_of_name own_pn5) hisR ?_
  intro p e s m args below meth c s₁ Bd hml0 hP hK
  obtain ⟨rfl, hZ, hh⟩ := hP
  have hx := Bd.exec
  have hby := Bd.bytes
  have hml : c.maxLocals = 1 := hml0
  have hown : s.vm.findClass "java/util/List" = some m.cls := findClass_of_methodNamed Bd.named
  have hnm := (name_of_methodNamed Bd.named Bd.method).1
  have X0 : Stand p l e ({ frames := 8, cells := 4, slots := 16, locals := 103 } : Room) s m #[(.ref a)] below meth c s₁ [] 0 0 := Stand.of_body Bd
  have e0 : s₁.heap = h0 := by rw [← hh, Bd.state]; rfl
  have N0 := Fr.nil n0
  have pre0 : ∀ tt, Steps p.tables e below (s₁.setTop (mkF m 0 #[.val (.ref a)] [])) tt → Steps p.tables e below (s₁.setTop (entryFrame m #[(.ref a)] 1)) tt := fun tt k' => castTop (own_ef_co_0 m a) k'
  obtain ⟨_, _, ⟨T1, L1, k1, n1⟩, -, X1, ⟨Lc1, hQ1, l1, y1, z1⟩, st1⟩ := Jvm.LawKit.callS X0 hx (y := (⟨"java/util/ImmutableCollections", "listCopy", "(Ljava/util/Collection;)Ljava/util/List;"⟩ : MethodName)) hown (mvT hZ (ow hw 89 rfl)) (mvT hZ (ow hw 90 rfl)) (mvT hZ (ow hw 91 rfl)) (mvT hZ (ow hw 92 rfl)) (by decide) (backOf (W := 0) (own_lc_0 l Z a0 hw [] G a k h0 n0 Z0 A O) hZ (ow hw 92 rfl) (ow hw 91 rfl) (by decide) (by decide)) (g := (mkF m 1 #[.val (.ref a)] [(.ref a)])) rfl (by rw [hml]; rfl) (argsL := [(.ref a)]) (rest := []) (lenOf own_pd14 rfl) rfl (by show 2 * 0 + _ ≤ _; exact Nat.le_of_eq rfl) (hb hby d_40_48_1) (fun _ _ => ⟨rfl, e0, (by decide : 0 + 4 ≤ _), (by decide : 0 + 16 ≤ _)⟩)
  dsimp only [Pt.U, Pt.locs, Pt.cells, Pt.slots] at X1 l1 y1 z1 st1 hQ1
  subst l1 y1 z1
  obtain ⟨h1, e1⟩ : ∃ z, T1.heap = z := ⟨_, rfl⟩
  rw [e1] at hQ1
  obtain ⟨r', rfl, N1, K1, F1⟩ := hQ1
  have N2_ := Fr.app N0 N1
  have K3_ := (Keep.refl h0 []).trans K1 all0
  obtain ⟨fs, hr, hrun, hended, hW, hsame⟩ := X1.leave (v := some (.ref r')) (fun h => by rw [Bd.returns] at h; cases h)
  refine ⟨_, _, pre0 _ ?_, hrun, hended, _, _, rfl, ?_, ⟨_, rfl⟩, hW, hsame.mono (by decide) (by decide)⟩
  · show Steps _ _ _ (s₁.setTop (mkF m 0 #[.val (.ref a)] [])) _
    refine XS.aloadN X0.here hx rfl (hb hby d_40_48_0) rfl rfl ?_
    show Steps _ _ _ (s₁.setTop (mkF m 1 #[.val (.ref a)] [(.ref a)])) _
    refine st1 _ ?_
    show Steps _ _ _ (T1.setTop (mkF m 4 #[.val (.ref a)] [(.ref r')])) _
    exact retOut X1 hx Bd.returns rfl (Or.inr (Or.inr (Or.inr (Or.inr ⟨rfl, rfl, rfl⟩)))) (hb hby d_40_48_4) hr
  · show own_QIL Z EL EM [] h0 n0 _ T1.heap _
    rw [e1]
    exact ⟨r', rfl, N2_, K3_, F1⟩
theorem d_56_3_44 : decode jdk_56_method_3_code 44 = .ok (.aload_n 0, 1) := by decide +kernel
theorem d_56_3_45 : decode jdk_56_method_3_code 45 = .ok (.invokeinterface 30 1, 5) := by decide +kernel
theorem d_56_3_50 : decode jdk_56_method_3_code 50 = .ok (.invokestatic 34, 3) := by decide +kernel
theorem d_56_3_53 : decode jdk_56_method_3_code 53 = .ok (.areturn, 1) := by decide +kernel
theorem own_ef_lc_1 (m : MethodId) (x0 : Addr) : entryFrame m #[(.ref x0)] 2 = mkF m 0 #[.val (.ref x0), .unset] [] := by first | (simp [entryFrame, mkF, argsToLocals, Value.category]; done) | rfl
theorem own_lc_1 (l : Launch) (Z : State) (a0 : Array Value) (hw : ∀ d ∈ tables_1, d.before a0 Z = true) (ws : List Jvm.Cond) {D IC EL EE EM MO b0 b1 : Addr} {cD cI cE : Cell} (G : own_G Z D IC EL EE EM MO b0 b1 cD cI cE) (a : Addr) (k : Int32) (x y1 : Addr) (r : List Value) (h0 : Heap) (n0 : Nat) (Z0 : n0 ≤ h0.size) (A : own_Al Z h0 a (.ref x) k 1) (B : own_Oa Z h0 x 10 (.ref y1 :: r)) (I1 : Ins Z h0 y1 "java/lang/Object" true) (O : Old Z n0 h0) :
    MetFree l (⟨"java/util/ImmutableCollections", "listCopy", "(Ljava/util/Collection;)Ljava/util/List;"⟩ : MethodName) (head1 (Jvm.Cond.code (⟨"java/util/ImmutableCollections", "listCopy", "(Ljava/util/Collection;)Ljava/util/List;"⟩ : MethodName) jdk_56_method_3_code 2 (some (.object "java/util/List")) :: ws) ({ frames := 7, cells := 4, slots := 16, locals := 90 } : Room)) (fun av U => av = #[(.ref a)] ∧ Z.Warmed39 U.vm ∧ U.heap = h0) (fun _ _ _ _ _ => True) (fun _ U oc U' => ∃ v L, oc = .returned v ∧ own_QIL Z EL EM [y1] h0 n0 v U'.heap L ∧ FrameEnd U oc U' L ({ frames := 7, cells := 4, slots := 16, locals := 90 } : Room).cells ({ frames := 7, cells := 4, slots := 16, locals := 90 } : Room).slots) := by
  refine MetFree.of_bodySF (plainFor_of_name own_pn11) hisR ?_
  intro p e s m args below meth c s₁ Bd hml0 hP hK
  obtain ⟨rfl, hZ, hh⟩ := hP
  have hx := Bd.exec
  have hby := Bd.bytes
  have hml : c.maxLocals = 2 := hml0
  have hown : s.vm.findClass "java/util/ImmutableCollections" = some m.cls := findClass_of_methodNamed Bd.named
  have hnm := (name_of_methodNamed Bd.named Bd.method).1
  have X0 : Stand p l e ({ frames := 7, cells := 4, slots := 16, locals := 90 } : Room) s m #[(.ref a)] below meth c s₁ [] 0 0 := Stand.of_body Bd
  have e0 : s₁.heap = h0 := by rw [← hh, Bd.state]; rfl
  have N0 := Fr.nil n0
  have pre0 : ∀ tt, Steps p.tables e below (s₁.setTop (mkF m 0 #[.val (.ref a), .unset] [])) tt → Steps p.tables e below (s₁.setTop (entryFrame m #[(.ref a)] 2)) tt := fun tt k' => castTop (own_ef_lc_1 m a) k'
  obtain ⟨T1, X1, e1, st1⟩ := instNo X0 hx hZ hown (ow hw 93 rfl) e0 A.1 (own_NSno (ow hw 94 rfl) (ow hw 148 rfl) (NS.step (ow hw 94 rfl) (NS.step (ow hw 95 rfl) (NS.step (ow hw 96 rfl) (own_NSroot (ow hw 97 rfl) (ow hw 148 rfl) (by decide)) (by decide)) (by decide)) (by decide)) (by decide)) (g := (mkF m 1 #[.val (.ref a), .unset] [(.ref a)])) rfl rfl (hb hby d_56_3_1)
  obtain ⟨T2, X2, e2, st2⟩ := instNo X1 hx hZ hown (ow hw 98 rfl) e1 A.1 (own_NSno (ow hw 94 rfl) (ow hw 307 rfl) (NS.step (ow hw 94 rfl) (NS.step (ow hw 95 rfl) (NS.step (ow hw 96 rfl) (own_NSroot (ow hw 97 rfl) (ow hw 307 rfl) (by decide)) (by decide)) (by decide)) (by decide)) (by decide)) (g := (mkF m 8 #[.val (.ref a), .unset] [(.ref a)])) rfl rfl (hb hby d_56_3_8)
  obtain ⟨cq3, kq3, q3a, q3b, q3c⟩ := isOf hZ e2 A.1
  obtain ⟨_, _, ⟨T3, L3, k3, n3⟩, -, X3, ⟨Lc3, hQ3, l3, y3, z3⟩, st3⟩ := X2.interfaceBack hx (xi := (⟨"java/util/Collection", "isEmpty", "()Z"⟩ : MethodName)) (y := (⟨"java/util/ArrayList", "isEmpty", "()Z"⟩ : MethodName)) hown (mvT hZ (ow hw 99 rfl)) (mvT hZ (ow hw 100 rfl)) (mvT hZ (ow hw 101 rfl)) (mvT hZ (ow hw 102 rfl)) (mvT hZ (ow hw 103 rfl)) (mvT hZ (ow hw 104 rfl)) (mvT hZ (ow hw 105 rfl)) (mvT hZ (ow hw 106 rfl)) (by decide) (backOf (W := 0) (own_isE1 l Z a0 hw [] a (.ref x) k h0 n0 Z0 A) hZ (ow hw 107 rfl) (ow hw 2 rfl) (by decide) (by decide)) q3a q3b q3c (g := (mkF m 32 #[.val (.ref a), .unset] [(.ref a)])) rfl (by rw [hml]; rfl) (Steps.refl _) (argsL := []) (rest := []) (lenOf own_pd12 rfl) rfl (by show 2 * 0 + _ ≤ _; exact Nat.le_of_eq rfl) (hb hby d_56_3_32) (fun _ _ => ⟨rfl, e2, (by decide : 0 + 0 ≤ _), (by decide : 0 + 0 ≤ _)⟩)
  dsimp only [Pt.U, Pt.locs, Pt.cells, Pt.slots] at X3 l3 y3 z3 st3 hQ3
  subst l3 y3 z3
  obtain ⟨rfl, N3, e3⟩ := hQ3
  have N4_ := Fr.app N0 N3
  obtain ⟨cq5, kq5, q5a, q5b, q5c⟩ := isOf hZ e3 A.1
  obtain ⟨_, _, ⟨T5, L5, k5, n5⟩, -, X5, ⟨Lc5, hQ5, l5, y5, z5⟩, st5⟩ := X3.interfaceBack hx (xi := (⟨"java/util/Collection", "toArray", "()[Ljava/lang/Object;"⟩ : MethodName)) (y := (⟨"java/util/ArrayList", "toArray", "()[Ljava/lang/Object;"⟩ : MethodName)) hown (mvT hZ (ow hw 114 rfl)) (mvT hZ (ow hw 115 rfl)) (mvT hZ (ow hw 116 rfl)) (mvT hZ (ow hw 117 rfl)) (mvT hZ (ow hw 118 rfl)) (mvT hZ (ow hw 119 rfl)) (mvT hZ (ow hw 120 rfl)) (mvT hZ (ow hw 106 rfl)) (by decide) (backOf (W := 0) (own_toA_1 l Z a0 hw [] G a k x y1 r h0 n0 Z0 A B I1) hZ (ow hw 121 rfl) (ow hw 2 rfl) (by decide) (by decide)) q5a q5b q5c (g := (mkF m 45 #[.val (.ref a), .unset] [(.ref a)])) rfl (by rw [hml]; rfl) (Steps.refl _) (argsL := []) (rest := []) (lenOf own_pd3 rfl) rfl (by show 2 * 0 + _ ≤ _; exact Nat.le_of_eq rfl) (hb hby d_56_3_45) (fun _ _ => ⟨rfl, e3, (by decide : 0 + 1 ≤ _), (by decide : 0 + 1 ≤ _)⟩)
  dsimp only [Pt.U, Pt.locs, Pt.cells, Pt.slots] at X5 l5 y5 z5 st5 hQ5
  subst l5 y5 z5
  obtain ⟨h5, e5⟩ : ∃ z, T5.heap = z := ⟨_, rfl⟩
  rw [e5] at hQ5
  obtain ⟨z5, rfl, N5, K5, g5, F5⟩ := hQ5
  have N6_ := Fr.app N4_ N5
  have K7_ := (Keep.refl h0 []).trans K5 all0
  have f8_ := (own_Ins_keep I1 K5)
  have f10_ := (O.keep K5 all0)
  have Z11_ := (Nat.le_trans Z0 K7_.1)
  obtain ⟨_, _, ⟨T9, L9, k9, n9⟩, -, X9, ⟨Lc9, hQ9, l9, y9, z9⟩, st9⟩ := Jvm.LawKit.callS X5 hx (y := (⟨"java/util/List", "of", "([Ljava/lang/Object;)Ljava/util/List;"⟩ : MethodName)) hown (mvT hZ (ow hw 144 rfl)) (mvT hZ (ow hw 145 rfl)) (mvT hZ (ow hw 87 rfl)) (mvT hZ (ow hw 146 rfl)) (by decide) (backOf (W := 0) (own_of_1 l Z a0 hw [] G z5 y1 h5 n0 Z11_ F5 f8_ f10_) hZ (ow hw 146 rfl) (ow hw 87 rfl) (by decide) (by decide)) (g := (mkF m 50 #[.val (.ref a), .unset] [(.ref z5)])) rfl (by rw [hml]; rfl) (argsL := [(.ref z5)]) (rest := []) (lenOf own_pd11 rfl) rfl (by show 2 * 0 + _ ≤ _; exact Nat.le_of_eq rfl) (hb hby d_56_3_50) (fun _ _ => ⟨rfl, e5, (by decide : 1 + 1 ≤ _), (by decide : 1 + 2 ≤ _)⟩)
  dsimp only [Pt.U, Pt.locs, Pt.cells, Pt.slots] at X9 l9 y9 z9 st9 hQ9
  subst l9 y9 z9
  obtain ⟨h9, e9⟩ : ∃ z, T9.heap = z := ⟨_, rfl⟩
  rw [e9] at hQ9
  obtain ⟨r', rfl, N9, K9, F9⟩ := hQ9
  have N12_ := Fr.app N6_ N9
  have K13_ := K7_.trans K9 all0
  obtain ⟨fs, hr, hrun, hended, hW, hsame⟩ := X9.leave (v := some (.ref r')) (fun h => by rw [Bd.returns] at h; cases h)
  refine ⟨_, _, pre0 _ ?_, hrun, hended, _, _, rfl, ?_, ⟨_, rfl⟩, hW, hsame.mono (by decide) (by decide)⟩
  · show Steps _ _ _ (s₁.setTop (mkF m 0 #[.val (.ref a), .unset] [])) _
    refine XS.aloadN X0.here hx rfl (hb hby d_56_3_0) rfl rfl ?_
    show Steps _ _ _ (s₁.setTop (mkF m 1 #[.val (.ref a), .unset] [(.ref a)])) _
    refine st1 _ ?_
    show Steps _ _ _ (T1.setTop (mkF m 4 #[.val (.ref a), .unset] [(.int 0)])) _
    refine XS.ifNo X1.here hx rfl (hb hby d_56_3_4) rfl (by decide) ?_
    refine XS.aloadN X1.here hx rfl (hb hby d_56_3_7) rfl rfl ?_
    show Steps _ _ _ (T1.setTop (mkF m 8 #[.val (.ref a), .unset] [(.ref a)])) _
    refine st2 _ ?_
    show Steps _ _ _ (T2.setTop (mkF m 11 #[.val (.ref a), .unset] [(.int 0)])) _
    refine XS.ifYes X2.here hx rfl rfl (hb hby d_56_3_11) rfl (by decide) (show (0 : Int) ≤ ((11 : Nat) : Int) + (20) by decide) (show (((11 : Nat) : Int) + (20)).toNat = 31 by decide) ?_
    refine XS.aloadN X2.here hx rfl (hb hby d_56_3_31) rfl rfl ?_
    show Steps _ _ _ (T2.setTop (mkF m 32 #[.val (.ref a), .unset] [(.ref a)])) _
    refine st3.trans ?_
    show Steps _ _ _ (T3.setTop (mkF m 37 #[.val (.ref a), .unset] [(.int 0)])) _
    refine XS.ifYes X3.here hx rfl rfl (hb hby d_56_3_37) rfl (by decide) (show (0 : Int) ≤ ((37 : Nat) : Int) + (7) by decide) (show (((37 : Nat) : Int) + (7)).toNat = 44 by decide) ?_
    refine XS.aloadN X3.here hx rfl (hb hby d_56_3_44) rfl rfl ?_
    show Steps _ _ _ (T3.setTop (mkF m 45 #[.val (.ref a), .unset] [(.ref a)])) _
    refine st5.trans ?_
    show Steps _ _ _ (T5.setTop (mkF m 50 #[.val (.ref a), .unset] [(.ref z5)])) _
    refine st9 _ ?_
    show Steps _ _ _ (T9.setTop (mkF m 53 #[.val (.ref a), .unset] [(.ref r')])) _
    exact retOut X9 hx Bd.returns rfl (Or.inr (Or.inr (Or.inr (Or.inr ⟨rfl, rfl, rfl⟩)))) (hb hby d_56_3_53) hr
  · show own_QIL Z EL EM [y1] h0 n0 _ T9.heap _
    rw [e9]
    exact ⟨r', rfl, N12_, K13_, F9⟩
theorem own_ef_co_1 (m : MethodId) (x0 : Addr) : entryFrame m #[(.ref x0)] 1 = mkF m 0 #[.val (.ref x0)] [] := by first | (simp [entryFrame, mkF, argsToLocals, Value.category]; done) | rfl
theorem own_co_1 (l : Launch) (Z : State) (a0 : Array Value) (hw : ∀ d ∈ tables_1, d.before a0 Z = true) (ws : List Jvm.Cond) {D IC EL EE EM MO b0 b1 : Addr} {cD cI cE : Cell} (G : own_G Z D IC EL EE EM MO b0 b1 cD cI cE) (a : Addr) (k : Int32) (x y1 : Addr) (r : List Value) (h0 : Heap) (n0 : Nat) (Z0 : n0 ≤ h0.size) (A : own_Al Z h0 a (.ref x) k 1) (B : own_Oa Z h0 x 10 (.ref y1 :: r)) (I1 : Ins Z h0 y1 "java/lang/Object" true) (O : Old Z n0 h0) :
    MetFree l (⟨"java/util/List", "copyOf", "(Ljava/util/Collection;)Ljava/util/List;"⟩ : MethodName) (head1 (Jvm.Cond.code (⟨"java/util/List", "copyOf", "(Ljava/util/Collection;)Ljava/util/List;"⟩ : MethodName) jdk_40_method_48_code 1 (some (.object "java/util/List")) :: ws) ({ frames := 8, cells := 4, slots := 16, locals := 103 } : Room)) (fun av U => av = #[(.ref a)] ∧ Z.Warmed39 U.vm ∧ U.heap = h0) (fun _ _ _ _ _ => True) (fun _ U oc U' => ∃ v L, oc = .returned v ∧ own_QIL Z EL EM [y1] h0 n0 v U'.heap L ∧ FrameEnd U oc U' L ({ frames := 8, cells := 4, slots := 16, locals := 103 } : Room).cells ({ frames := 8, cells := 4, slots := 16, locals := 103 } : Room).slots) := by
  refine MetFree.of_bodySF (plainFor_of_name own_pn5) hisR ?_
  intro p e s m args below meth c s₁ Bd hml0 hP hK
  obtain ⟨rfl, hZ, hh⟩ := hP
  have hx := Bd.exec
  have hby := Bd.bytes
  have hml : c.maxLocals = 1 := hml0
  have hown : s.vm.findClass "java/util/List" = some m.cls := findClass_of_methodNamed Bd.named
  have hnm := (name_of_methodNamed Bd.named Bd.method).1
  have X0 : Stand p l e ({ frames := 8, cells := 4, slots := 16, locals := 103 } : Room) s m #[(.ref a)] below meth c s₁ [] 0 0 := Stand.of_body Bd
  have e0 : s₁.heap = h0 := by rw [← hh, Bd.state]; rfl
  have N0 := Fr.nil n0
  have pre0 : ∀ tt, Steps p.tables e below (s₁.setTop (mkF m 0 #[.val (.ref a)] [])) tt → Steps p.tables e below (s₁.setTop (entryFrame m #[(.ref a)] 1)) tt := fun tt k' => castTop (own_ef_co_1 m a) k'
  obtain ⟨_, _, ⟨T1, L1, k1, n1⟩, -, X1, ⟨Lc1, hQ1, l1, y1, z1⟩, st1⟩ := Jvm.LawKit.callS X0 hx (y := (⟨"java/util/ImmutableCollections", "listCopy", "(Ljava/util/Collection;)Ljava/util/List;"⟩ : MethodName)) hown (mvT hZ (ow hw 89 rfl)) (mvT hZ (ow hw 90 rfl)) (mvT hZ (ow hw 91 rfl)) (mvT hZ (ow hw 92 rfl)) (by decide) (backOf (W := 0) (own_lc_1 l Z a0 hw [] G a k x y1 r h0 n0 Z0 A B I1 O) hZ (ow hw 92 rfl) (ow hw 91 rfl) (by decide) (by decide)) (g := (mkF m 1 #[.val (.ref a)] [(.ref a)])) rfl (by rw [hml]; rfl) (argsL := [(.ref a)]) (rest := []) (lenOf own_pd14 rfl) rfl (by show 2 * 0 + _ ≤ _; exact Nat.le_of_eq rfl) (hb hby d_40_48_1) (fun _ _ => ⟨rfl, e0, (by decide : 0 + 4 ≤ _), (by decide : 0 + 16 ≤ _)⟩)
  dsimp only [Pt.U, Pt.locs, Pt.cells, Pt.slots] at X1 l1 y1 z1 st1 hQ1
  subst l1 y1 z1
  obtain ⟨h1, e1⟩ : ∃ z, T1.heap = z := ⟨_, rfl⟩
  rw [e1] at hQ1
  obtain ⟨r', rfl, N1, K1, F1⟩ := hQ1
  have N2_ := Fr.app N0 N1
  have K3_ := (Keep.refl h0 []).trans K1 all0
  obtain ⟨fs, hr, hrun, hended, hW, hsame⟩ := X1.leave (v := some (.ref r')) (fun h => by rw [Bd.returns] at h; cases h)
  refine ⟨_, _, pre0 _ ?_, hrun, hended, _, _, rfl, ?_, ⟨_, rfl⟩, hW, hsame.mono (by decide) (by decide)⟩
  · show Steps _ _ _ (s₁.setTop (mkF m 0 #[.val (.ref a)] [])) _
    refine XS.aloadN X0.here hx rfl (hb hby d_40_48_0) rfl rfl ?_
    show Steps _ _ _ (s₁.setTop (mkF m 1 #[.val (.ref a)] [(.ref a)])) _
    refine st1 _ ?_
    show Steps _ _ _ (T1.setTop (mkF m 4 #[.val (.ref a)] [(.ref r')])) _
    exact retOut X1 hx Bd.returns rfl (Or.inr (Or.inr (Or.inr (Or.inr ⟨rfl, rfl, rfl⟩)))) (hb hby d_40_48_4) hr
  · show own_QIL Z EL EM [y1] h0 n0 _ T1.heap _
    rw [e1]
    exact ⟨r', rfl, N2_, K3_, F1⟩
theorem own_ef_lc_2 (m : MethodId) (x0 : Addr) : entryFrame m #[(.ref x0)] 2 = mkF m 0 #[.val (.ref x0), .unset] [] := by first | (simp [entryFrame, mkF, argsToLocals, Value.category]; done) | rfl
theorem own_lc_2 (l : Launch) (Z : State) (a0 : Array Value) (hw : ∀ d ∈ tables_1, d.before a0 Z = true) (ws : List Jvm.Cond) {D IC EL EE EM MO b0 b1 : Addr} {cD cI cE : Cell} (G : own_G Z D IC EL EE EM MO b0 b1 cD cI cE) (a : Addr) (k : Int32) (x y1 y2 : Addr) (r : List Value) (h0 : Heap) (n0 : Nat) (Z0 : n0 ≤ h0.size) (A : own_Al Z h0 a (.ref x) k 2) (B : own_Oa Z h0 x 10 (.ref y1 :: .ref y2 :: r)) (I1 : Ins Z h0 y1 "java/lang/Object" true) (I2 : Ins Z h0 y2 "java/lang/Object" true) (hE : y2 ≠ EM) :
    MetFree l (⟨"java/util/ImmutableCollections", "listCopy", "(Ljava/util/Collection;)Ljava/util/List;"⟩ : MethodName) (head1 (Jvm.Cond.code (⟨"java/util/ImmutableCollections", "listCopy", "(Ljava/util/Collection;)Ljava/util/List;"⟩ : MethodName) jdk_56_method_3_code 2 (some (.object "java/util/List")) :: ws) ({ frames := 7, cells := 4, slots := 16, locals := 90 } : Room)) (fun av U => av = #[(.ref a)] ∧ Z.Warmed39 U.vm ∧ U.heap = h0) (fun _ _ _ _ _ => True) (fun _ U oc U' => ∃ v L, oc = .returned v ∧ own_QIL Z EL EM [y1, y2] h0 n0 v U'.heap L ∧ FrameEnd U oc U' L ({ frames := 7, cells := 4, slots := 16, locals := 90 } : Room).cells ({ frames := 7, cells := 4, slots := 16, locals := 90 } : Room).slots) := by
  refine MetFree.of_bodySF (plainFor_of_name own_pn11) hisR ?_
  intro p e s m args below meth c s₁ Bd hml0 hP hK
  obtain ⟨rfl, hZ, hh⟩ := hP
  have hx := Bd.exec
  have hby := Bd.bytes
  have hml : c.maxLocals = 2 := hml0
  have hown : s.vm.findClass "java/util/ImmutableCollections" = some m.cls := findClass_of_methodNamed Bd.named
  have hnm := (name_of_methodNamed Bd.named Bd.method).1
  have X0 : Stand p l e ({ frames := 7, cells := 4, slots := 16, locals := 90 } : Room) s m #[(.ref a)] below meth c s₁ [] 0 0 := Stand.of_body Bd
  have e0 : s₁.heap = h0 := by rw [← hh, Bd.state]; rfl
  have N0 := Fr.nil n0
  have pre0 : ∀ tt, Steps p.tables e below (s₁.setTop (mkF m 0 #[.val (.ref a), .unset] [])) tt → Steps p.tables e below (s₁.setTop (entryFrame m #[(.ref a)] 2)) tt := fun tt k' => castTop (own_ef_lc_2 m a) k'
  obtain ⟨T1, X1, e1, st1⟩ := instNo X0 hx hZ hown (ow hw 93 rfl) e0 A.1 (own_NSno (ow hw 94 rfl) (ow hw 148 rfl) (NS.step (ow hw 94 rfl) (NS.step (ow hw 95 rfl) (NS.step (ow hw 96 rfl) (own_NSroot (ow hw 97 rfl) (ow hw 148 rfl) (by decide)) (by decide)) (by decide)) (by decide)) (by decide)) (g := (mkF m 1 #[.val (.ref a), .unset] [(.ref a)])) rfl rfl (hb hby d_56_3_1)
  obtain ⟨T2, X2, e2, st2⟩ := instNo X1 hx hZ hown (ow hw 98 rfl) e1 A.1 (own_NSno (ow hw 94 rfl) (ow hw 307 rfl) (NS.step (ow hw 94 rfl) (NS.step (ow hw 95 rfl) (NS.step (ow hw 96 rfl) (own_NSroot (ow hw 97 rfl) (ow hw 307 rfl) (by decide)) (by decide)) (by decide)) (by decide)) (by decide)) (g := (mkF m 8 #[.val (.ref a), .unset] [(.ref a)])) rfl rfl (hb hby d_56_3_8)
  obtain ⟨cq3, kq3, q3a, q3b, q3c⟩ := isOf hZ e2 A.1
  obtain ⟨_, _, ⟨T3, L3, k3, n3⟩, -, X3, ⟨Lc3, hQ3, l3, y3, z3⟩, st3⟩ := X2.interfaceBack hx (xi := (⟨"java/util/Collection", "isEmpty", "()Z"⟩ : MethodName)) (y := (⟨"java/util/ArrayList", "isEmpty", "()Z"⟩ : MethodName)) hown (mvT hZ (ow hw 99 rfl)) (mvT hZ (ow hw 100 rfl)) (mvT hZ (ow hw 101 rfl)) (mvT hZ (ow hw 102 rfl)) (mvT hZ (ow hw 103 rfl)) (mvT hZ (ow hw 104 rfl)) (mvT hZ (ow hw 105 rfl)) (mvT hZ (ow hw 106 rfl)) (by decide) (backOf (W := 0) (own_isE2 l Z a0 hw [] a (.ref x) k h0 n0 Z0 A) hZ (ow hw 107 rfl) (ow hw 2 rfl) (by decide) (by decide)) q3a q3b q3c (g := (mkF m 32 #[.val (.ref a), .unset] [(.ref a)])) rfl (by rw [hml]; rfl) (Steps.refl _) (argsL := []) (rest := []) (lenOf own_pd12 rfl) rfl (by show 2 * 0 + _ ≤ _; exact Nat.le_of_eq rfl) (hb hby d_56_3_32) (fun _ _ => ⟨rfl, e2, (by decide : 0 + 0 ≤ _), (by decide : 0 + 0 ≤ _)⟩)
  dsimp only [Pt.U, Pt.locs, Pt.cells, Pt.slots] at X3 l3 y3 z3 st3 hQ3
  subst l3 y3 z3
  obtain ⟨rfl, N3, e3⟩ := hQ3
  have N4_ := Fr.app N0 N3
  obtain ⟨cq5, kq5, q5a, q5b, q5c⟩ := isOf hZ e3 A.1
  obtain ⟨_, _, ⟨T5, L5, k5, n5⟩, -, X5, ⟨Lc5, hQ5, l5, y5, z5⟩, st5⟩ := X3.interfaceBack hx (xi := (⟨"java/util/Collection", "toArray", "()[Ljava/lang/Object;"⟩ : MethodName)) (y := (⟨"java/util/ArrayList", "toArray", "()[Ljava/lang/Object;"⟩ : MethodName)) hown (mvT hZ (ow hw 114 rfl)) (mvT hZ (ow hw 115 rfl)) (mvT hZ (ow hw 116 rfl)) (mvT hZ (ow hw 117 rfl)) (mvT hZ (ow hw 118 rfl)) (mvT hZ (ow hw 119 rfl)) (mvT hZ (ow hw 120 rfl)) (mvT hZ (ow hw 106 rfl)) (by decide) (backOf (W := 0) (own_toA_2 l Z a0 hw [] G a k x y1 y2 r h0 n0 Z0 A B I1 I2) hZ (ow hw 121 rfl) (ow hw 2 rfl) (by decide) (by decide)) q5a q5b q5c (g := (mkF m 45 #[.val (.ref a), .unset] [(.ref a)])) rfl (by rw [hml]; rfl) (Steps.refl _) (argsL := []) (rest := []) (lenOf own_pd3 rfl) rfl (by show 2 * 0 + _ ≤ _; exact Nat.le_of_eq rfl) (hb hby d_56_3_45) (fun _ _ => ⟨rfl, e3, (by decide : 0 + 1 ≤ _), (by decide : 0 + 2 ≤ _)⟩)
  dsimp only [Pt.U, Pt.locs, Pt.cells, Pt.slots] at X5 l5 y5 z5 st5 hQ5
  subst l5 y5 z5
  obtain ⟨h5, e5⟩ : ∃ z, T5.heap = z := ⟨_, rfl⟩
  rw [e5] at hQ5
  obtain ⟨z5, rfl, N5, K5, g5, F5⟩ := hQ5
  have N6_ := Fr.app N4_ N5
  have K7_ := (Keep.refl h0 []).trans K5 all0
  have f8_ := (own_Ins_keep I1 K5)
  have f9_ := (own_Ins_keep I2 K5)
  have Z11_ := (Nat.le_trans Z0 K7_.1)
  obtain ⟨_, _, ⟨T10, L10, k10, n10⟩, -, X10, ⟨Lc10, hQ10, l10, y10, z10⟩, st10⟩ := Jvm.LawKit.callS X5 hx (y := (⟨"java/util/List", "of", "([Ljava/lang/Object;)Ljava/util/List;"⟩ : MethodName)) hown (mvT hZ (ow hw 144 rfl)) (mvT hZ (ow hw 145 rfl)) (mvT hZ (ow hw 87 rfl)) (mvT hZ (ow hw 146 rfl)) (by decide) (backOf (W := 0) (own_of_2 l Z a0 hw [] G z5 y1 y2 h5 n0 Z11_ F5 f8_ f9_ hE) hZ (ow hw 146 rfl) (ow hw 87 rfl) (by decide) (by decide)) (g := (mkF m 50 #[.val (.ref a), .unset] [(.ref z5)])) rfl (by rw [hml]; rfl) (argsL := [(.ref z5)]) (rest := []) (lenOf own_pd11 rfl) rfl (by show 2 * 0 + _ ≤ _; exact Nat.le_of_eq rfl) (hb hby d_56_3_50) (fun _ _ => ⟨rfl, e5, (by decide : 1 + 1 ≤ _), (by decide : 2 + 2 ≤ _)⟩)
  dsimp only [Pt.U, Pt.locs, Pt.cells, Pt.slots] at X10 l10 y10 z10 st10 hQ10
  subst l10 y10 z10
  obtain ⟨h10, e10⟩ : ∃ z, T10.heap = z := ⟨_, rfl⟩
  rw [e10] at hQ10
  obtain ⟨r', rfl, N10, K10, F10⟩ := hQ10
  have N12_ := Fr.app N6_ N10
  have K13_ := K7_.trans K10 all0
  obtain ⟨fs, hr, hrun, hended, hW, hsame⟩ := X10.leave (v := some (.ref r')) (fun h => by rw [Bd.returns] at h; cases h)
  refine ⟨_, _, pre0 _ ?_, hrun, hended, _, _, rfl, ?_, ⟨_, rfl⟩, hW, hsame.mono (by decide) (by decide)⟩
  · show Steps _ _ _ (s₁.setTop (mkF m 0 #[.val (.ref a), .unset] [])) _
    refine XS.aloadN X0.here hx rfl (hb hby d_56_3_0) rfl rfl ?_
    show Steps _ _ _ (s₁.setTop (mkF m 1 #[.val (.ref a), .unset] [(.ref a)])) _
    refine st1 _ ?_
    show Steps _ _ _ (T1.setTop (mkF m 4 #[.val (.ref a), .unset] [(.int 0)])) _
    refine XS.ifNo X1.here hx rfl (hb hby d_56_3_4) rfl (by decide) ?_
    refine XS.aloadN X1.here hx rfl (hb hby d_56_3_7) rfl rfl ?_
    show Steps _ _ _ (T1.setTop (mkF m 8 #[.val (.ref a), .unset] [(.ref a)])) _
    refine st2 _ ?_
    show Steps _ _ _ (T2.setTop (mkF m 11 #[.val (.ref a), .unset] [(.int 0)])) _
    refine XS.ifYes X2.here hx rfl rfl (hb hby d_56_3_11) rfl (by decide) (show (0 : Int) ≤ ((11 : Nat) : Int) + (20) by decide) (show (((11 : Nat) : Int) + (20)).toNat = 31 by decide) ?_
    refine XS.aloadN X2.here hx rfl (hb hby d_56_3_31) rfl rfl ?_
    show Steps _ _ _ (T2.setTop (mkF m 32 #[.val (.ref a), .unset] [(.ref a)])) _
    refine st3.trans ?_
    show Steps _ _ _ (T3.setTop (mkF m 37 #[.val (.ref a), .unset] [(.int 0)])) _
    refine XS.ifYes X3.here hx rfl rfl (hb hby d_56_3_37) rfl (by decide) (show (0 : Int) ≤ ((37 : Nat) : Int) + (7) by decide) (show (((37 : Nat) : Int) + (7)).toNat = 44 by decide) ?_
    refine XS.aloadN X3.here hx rfl (hb hby d_56_3_44) rfl rfl ?_
    show Steps _ _ _ (T3.setTop (mkF m 45 #[.val (.ref a), .unset] [(.ref a)])) _
    refine st5.trans ?_
    show Steps _ _ _ (T5.setTop (mkF m 50 #[.val (.ref a), .unset] [(.ref z5)])) _
    refine st10 _ ?_
    show Steps _ _ _ (T10.setTop (mkF m 53 #[.val (.ref a), .unset] [(.ref r')])) _
    exact retOut X10 hx Bd.returns rfl (Or.inr (Or.inr (Or.inr (Or.inr ⟨rfl, rfl, rfl⟩)))) (hb hby d_56_3_53) hr
  · show own_QIL Z EL EM [y1, y2] h0 n0 _ T10.heap _
    rw [e10]
    exact ⟨r', rfl, N12_, K13_, F10⟩
theorem own_ef_co_2 (m : MethodId) (x0 : Addr) : entryFrame m #[(.ref x0)] 1 = mkF m 0 #[.val (.ref x0)] [] := by first | (simp [entryFrame, mkF, argsToLocals, Value.category]; done) | rfl
theorem own_co_2 (l : Launch) (Z : State) (a0 : Array Value) (hw : ∀ d ∈ tables_1, d.before a0 Z = true) (ws : List Jvm.Cond) {D IC EL EE EM MO b0 b1 : Addr} {cD cI cE : Cell} (G : own_G Z D IC EL EE EM MO b0 b1 cD cI cE) (a : Addr) (k : Int32) (x y1 y2 : Addr) (r : List Value) (h0 : Heap) (n0 : Nat) (Z0 : n0 ≤ h0.size) (A : own_Al Z h0 a (.ref x) k 2) (B : own_Oa Z h0 x 10 (.ref y1 :: .ref y2 :: r)) (I1 : Ins Z h0 y1 "java/lang/Object" true) (I2 : Ins Z h0 y2 "java/lang/Object" true) (hE : y2 ≠ EM) (O : Old Z n0 h0) :
    MetFree l (⟨"java/util/List", "copyOf", "(Ljava/util/Collection;)Ljava/util/List;"⟩ : MethodName) (head1 (Jvm.Cond.code (⟨"java/util/List", "copyOf", "(Ljava/util/Collection;)Ljava/util/List;"⟩ : MethodName) jdk_40_method_48_code 1 (some (.object "java/util/List")) :: ws) ({ frames := 8, cells := 4, slots := 16, locals := 103 } : Room)) (fun av U => av = #[(.ref a)] ∧ Z.Warmed39 U.vm ∧ U.heap = h0) (fun _ _ _ _ _ => True) (fun _ U oc U' => ∃ v L, oc = .returned v ∧ own_QIL Z EL EM [y1, y2] h0 n0 v U'.heap L ∧ FrameEnd U oc U' L ({ frames := 8, cells := 4, slots := 16, locals := 103 } : Room).cells ({ frames := 8, cells := 4, slots := 16, locals := 103 } : Room).slots) := by
  refine MetFree.of_bodySF (plainFor_of_name own_pn5) hisR ?_
  intro p e s m args below meth c s₁ Bd hml0 hP hK
  obtain ⟨rfl, hZ, hh⟩ := hP
  have hx := Bd.exec
  have hby := Bd.bytes
  have hml : c.maxLocals = 1 := hml0
  have hown : s.vm.findClass "java/util/List" = some m.cls := findClass_of_methodNamed Bd.named
  have hnm := (name_of_methodNamed Bd.named Bd.method).1
  have X0 : Stand p l e ({ frames := 8, cells := 4, slots := 16, locals := 103 } : Room) s m #[(.ref a)] below meth c s₁ [] 0 0 := Stand.of_body Bd
  have e0 : s₁.heap = h0 := by rw [← hh, Bd.state]; rfl
  have N0 := Fr.nil n0
  have pre0 : ∀ tt, Steps p.tables e below (s₁.setTop (mkF m 0 #[.val (.ref a)] [])) tt → Steps p.tables e below (s₁.setTop (entryFrame m #[(.ref a)] 1)) tt := fun tt k' => castTop (own_ef_co_2 m a) k'
  obtain ⟨_, _, ⟨T1, L1, k1, n1⟩, -, X1, ⟨Lc1, hQ1, l1, y1, z1⟩, st1⟩ := Jvm.LawKit.callS X0 hx (y := (⟨"java/util/ImmutableCollections", "listCopy", "(Ljava/util/Collection;)Ljava/util/List;"⟩ : MethodName)) hown (mvT hZ (ow hw 89 rfl)) (mvT hZ (ow hw 90 rfl)) (mvT hZ (ow hw 91 rfl)) (mvT hZ (ow hw 92 rfl)) (by decide) (backOf (W := 0) (own_lc_2 l Z a0 hw [] G a k x y1 y2 r h0 n0 Z0 A B I1 I2 hE) hZ (ow hw 92 rfl) (ow hw 91 rfl) (by decide) (by decide)) (g := (mkF m 1 #[.val (.ref a)] [(.ref a)])) rfl (by rw [hml]; rfl) (argsL := [(.ref a)]) (rest := []) (lenOf own_pd14 rfl) rfl (by show 2 * 0 + _ ≤ _; exact Nat.le_of_eq rfl) (hb hby d_40_48_1) (fun _ _ => ⟨rfl, e0, (by decide : 0 + 4 ≤ _), (by decide : 0 + 16 ≤ _)⟩)
  dsimp only [Pt.U, Pt.locs, Pt.cells, Pt.slots] at X1 l1 y1 z1 st1 hQ1
  subst l1 y1 z1
  obtain ⟨h1, e1⟩ : ∃ z, T1.heap = z := ⟨_, rfl⟩
  rw [e1] at hQ1
  obtain ⟨r', rfl, N1, K1, F1⟩ := hQ1
  have N2_ := Fr.app N0 N1
  have K3_ := (Keep.refl h0 []).trans K1 all0
  obtain ⟨fs, hr, hrun, hended, hW, hsame⟩ := X1.leave (v := some (.ref r')) (fun h => by rw [Bd.returns] at h; cases h)
  refine ⟨_, _, pre0 _ ?_, hrun, hended, _, _, rfl, ?_, ⟨_, rfl⟩, hW, hsame.mono (by decide) (by decide)⟩
  · show Steps _ _ _ (s₁.setTop (mkF m 0 #[.val (.ref a)] [])) _
    refine XS.aloadN X0.here hx rfl (hb hby d_40_48_0) rfl rfl ?_
    show Steps _ _ _ (s₁.setTop (mkF m 1 #[.val (.ref a)] [(.ref a)])) _
    refine st1 _ ?_
    show Steps _ _ _ (T1.setTop (mkF m 4 #[.val (.ref a)] [(.ref r')])) _
    exact retOut X1 hx Bd.returns rfl (Or.inr (Or.inr (Or.inr (Or.inr ⟨rfl, rfl, rfl⟩)))) (hb hby d_40_48_4) hr
  · show own_QIL Z EL EM [y1, y2] h0 n0 _ T1.heap _
    rw [e1]
    exact ⟨r', rfl, N2_, K3_, F1⟩
theorem own_ef_lc_3 (m : MethodId) (x0 : Addr) : entryFrame m #[(.ref x0)] 2 = mkF m 0 #[.val (.ref x0), .unset] [] := by first | (simp [entryFrame, mkF, argsToLocals, Value.category]; done) | rfl
theorem own_lc_3 (l : Launch) (Z : State) (a0 : Array Value) (hw : ∀ d ∈ tables_1, d.before a0 Z = true) (ws : List Jvm.Cond) {D IC EL EE EM MO b0 b1 : Addr} {cD cI cE : Cell} (G : own_G Z D IC EL EE EM MO b0 b1 cD cI cE) (a : Addr) (k : Int32) (x y1 y2 y3 : Addr) (r : List Value) (h0 : Heap) (n0 : Nat) (Z0 : n0 ≤ h0.size) (A : own_Al Z h0 a (.ref x) k 3) (B : own_Oa Z h0 x 10 (.ref y1 :: .ref y2 :: .ref y3 :: r)) (I1 : Ins Z h0 y1 "java/lang/Object" true) (I2 : Ins Z h0 y2 "java/lang/Object" true) (I3 : Ins Z h0 y3 "java/lang/Object" true) :
    MetFree l (⟨"java/util/ImmutableCollections", "listCopy", "(Ljava/util/Collection;)Ljava/util/List;"⟩ : MethodName) (head1 (Jvm.Cond.code (⟨"java/util/ImmutableCollections", "listCopy", "(Ljava/util/Collection;)Ljava/util/List;"⟩ : MethodName) jdk_56_method_3_code 2 (some (.object "java/util/List")) :: ws) ({ frames := 7, cells := 4, slots := 16, locals := 90 } : Room)) (fun av U => av = #[(.ref a)] ∧ Z.Warmed39 U.vm ∧ U.heap = h0) (fun _ _ _ _ _ => True) (fun _ U oc U' => ∃ v L, oc = .returned v ∧ own_QIL Z EL EM [y1, y2, y3] h0 n0 v U'.heap L ∧ FrameEnd U oc U' L ({ frames := 7, cells := 4, slots := 16, locals := 90 } : Room).cells ({ frames := 7, cells := 4, slots := 16, locals := 90 } : Room).slots) := by
  refine MetFree.of_bodySF (plainFor_of_name own_pn11) hisR ?_
  intro p e s m args below meth c s₁ Bd hml0 hP hK
  obtain ⟨rfl, hZ, hh⟩ := hP
  have hx := Bd.exec
  have hby := Bd.bytes
  have hml : c.maxLocals = 2 := hml0
  have hown : s.vm.findClass "java/util/ImmutableCollections" = some m.cls := findClass_of_methodNamed Bd.named
  have hnm := (name_of_methodNamed Bd.named Bd.method).1
  have X0 : Stand p l e ({ frames := 7, cells := 4, slots := 16, locals := 90 } : Room) s m #[(.ref a)] below meth c s₁ [] 0 0 := Stand.of_body Bd
  have e0 : s₁.heap = h0 := by rw [← hh, Bd.state]; rfl
  have N0 := Fr.nil n0
  have pre0 : ∀ tt, Steps p.tables e below (s₁.setTop (mkF m 0 #[.val (.ref a), .unset] [])) tt → Steps p.tables e below (s₁.setTop (entryFrame m #[(.ref a)] 2)) tt := fun tt k' => castTop (own_ef_lc_3 m a) k'
  obtain ⟨T1, X1, e1, st1⟩ := instNo X0 hx hZ hown (ow hw 93 rfl) e0 A.1 (own_NSno (ow hw 94 rfl) (ow hw 148 rfl) (NS.step (ow hw 94 rfl) (NS.step (ow hw 95 rfl) (NS.step (ow hw 96 rfl) (own_NSroot (ow hw 97 rfl) (ow hw 148 rfl) (by decide)) (by decide)) (by decide)) (by decide)) (by decide)) (g := (mkF m 1 #[.val (.ref a), .unset] [(.ref a)])) rfl rfl (hb hby d_56_3_1)
  obtain ⟨T2, X2, e2, st2⟩ := instNo X1 hx hZ hown (ow hw 98 rfl) e1 A.1 (own_NSno (ow hw 94 rfl) (ow hw 307 rfl) (NS.step (ow hw 94 rfl) (NS.step (ow hw 95 rfl) (NS.step (ow hw 96 rfl) (own_NSroot (ow hw 97 rfl) (ow hw 307 rfl) (by decide)) (by decide)) (by decide)) (by decide)) (by decide)) (g := (mkF m 8 #[.val (.ref a), .unset] [(.ref a)])) rfl rfl (hb hby d_56_3_8)
  obtain ⟨cq3, kq3, q3a, q3b, q3c⟩ := isOf hZ e2 A.1
  obtain ⟨_, _, ⟨T3, L3, k3, n3⟩, -, X3, ⟨Lc3, hQ3, l3, y3, z3⟩, st3⟩ := X2.interfaceBack hx (xi := (⟨"java/util/Collection", "isEmpty", "()Z"⟩ : MethodName)) (y := (⟨"java/util/ArrayList", "isEmpty", "()Z"⟩ : MethodName)) hown (mvT hZ (ow hw 99 rfl)) (mvT hZ (ow hw 100 rfl)) (mvT hZ (ow hw 101 rfl)) (mvT hZ (ow hw 102 rfl)) (mvT hZ (ow hw 103 rfl)) (mvT hZ (ow hw 104 rfl)) (mvT hZ (ow hw 105 rfl)) (mvT hZ (ow hw 106 rfl)) (by decide) (backOf (W := 0) (own_isE3 l Z a0 hw [] a (.ref x) k h0 n0 Z0 A) hZ (ow hw 107 rfl) (ow hw 2 rfl) (by decide) (by decide)) q3a q3b q3c (g := (mkF m 32 #[.val (.ref a), .unset] [(.ref a)])) rfl (by rw [hml]; rfl) (Steps.refl _) (argsL := []) (rest := []) (lenOf own_pd12 rfl) rfl (by show 2 * 0 + _ ≤ _; exact Nat.le_of_eq rfl) (hb hby d_56_3_32) (fun _ _ => ⟨rfl, e2, (by decide : 0 + 0 ≤ _), (by decide : 0 + 0 ≤ _)⟩)
  dsimp only [Pt.U, Pt.locs, Pt.cells, Pt.slots] at X3 l3 y3 z3 st3 hQ3
  subst l3 y3 z3
  obtain ⟨rfl, N3, e3⟩ := hQ3
  have N4_ := Fr.app N0 N3
  obtain ⟨cq5, kq5, q5a, q5b, q5c⟩ := isOf hZ e3 A.1
  obtain ⟨_, _, ⟨T5, L5, k5, n5⟩, -, X5, ⟨Lc5, hQ5, l5, y5, z5⟩, st5⟩ := X3.interfaceBack hx (xi := (⟨"java/util/Collection", "toArray", "()[Ljava/lang/Object;"⟩ : MethodName)) (y := (⟨"java/util/ArrayList", "toArray", "()[Ljava/lang/Object;"⟩ : MethodName)) hown (mvT hZ (ow hw 114 rfl)) (mvT hZ (ow hw 115 rfl)) (mvT hZ (ow hw 116 rfl)) (mvT hZ (ow hw 117 rfl)) (mvT hZ (ow hw 118 rfl)) (mvT hZ (ow hw 119 rfl)) (mvT hZ (ow hw 120 rfl)) (mvT hZ (ow hw 106 rfl)) (by decide) (backOf (W := 0) (own_toA_3 l Z a0 hw [] G a k x y1 y2 y3 r h0 n0 Z0 A B I1 I2 I3) hZ (ow hw 121 rfl) (ow hw 2 rfl) (by decide) (by decide)) q5a q5b q5c (g := (mkF m 45 #[.val (.ref a), .unset] [(.ref a)])) rfl (by rw [hml]; rfl) (Steps.refl _) (argsL := []) (rest := []) (lenOf own_pd3 rfl) rfl (by show 2 * 0 + _ ≤ _; exact Nat.le_of_eq rfl) (hb hby d_56_3_45) (fun _ _ => ⟨rfl, e3, (by decide : 0 + 1 ≤ _), (by decide : 0 + 3 ≤ _)⟩)
  dsimp only [Pt.U, Pt.locs, Pt.cells, Pt.slots] at X5 l5 y5 z5 st5 hQ5
  subst l5 y5 z5
  obtain ⟨h5, e5⟩ : ∃ z, T5.heap = z := ⟨_, rfl⟩
  rw [e5] at hQ5
  obtain ⟨z5, rfl, N5, K5, g5, F5⟩ := hQ5
  have N6_ := Fr.app N4_ N5
  have K7_ := (Keep.refl h0 []).trans K5 all0
  have f8_ := (own_Ins_keep I1 K5)
  have f9_ := (own_Ins_keep I2 K5)
  have f10_ := (own_Ins_keep I3 K5)
  have Z12_ := (Nat.le_trans Z0 K7_.1)
  obtain ⟨_, _, ⟨T11, L11, k11, n11⟩, -, X11, ⟨Lc11, hQ11, l11, y11, z11⟩, st11⟩ := Jvm.LawKit.callS X5 hx (y := (⟨"java/util/List", "of", "([Ljava/lang/Object;)Ljava/util/List;"⟩ : MethodName)) hown (mvT hZ (ow hw 144 rfl)) (mvT hZ (ow hw 145 rfl)) (mvT hZ (ow hw 87 rfl)) (mvT hZ (ow hw 146 rfl)) (by decide) (backOf (W := 0) (own_of_3 l Z a0 hw [] G z5 y1 y2 y3 h5 n0 Z12_ F5 f8_ f9_ f10_) hZ (ow hw 146 rfl) (ow hw 87 rfl) (by decide) (by decide)) (g := (mkF m 50 #[.val (.ref a), .unset] [(.ref z5)])) rfl (by rw [hml]; rfl) (argsL := [(.ref z5)]) (rest := []) (lenOf own_pd11 rfl) rfl (by show 2 * 0 + _ ≤ _; exact Nat.le_of_eq rfl) (hb hby d_56_3_50) (fun _ _ => ⟨rfl, e5, (by decide : 1 + 2 ≤ _), (by decide : 3 + 5 ≤ _)⟩)
  dsimp only [Pt.U, Pt.locs, Pt.cells, Pt.slots] at X11 l11 y11 z11 st11 hQ11
  subst l11 y11 z11
  obtain ⟨h11, e11⟩ : ∃ z, T11.heap = z := ⟨_, rfl⟩
  rw [e11] at hQ11
  obtain ⟨r', rfl, N11, K11, F11⟩ := hQ11
  have N13_ := Fr.app N6_ N11
  have K14_ := K7_.trans K11 all0
  obtain ⟨fs, hr, hrun, hended, hW, hsame⟩ := X11.leave (v := some (.ref r')) (fun h => by rw [Bd.returns] at h; cases h)
  refine ⟨_, _, pre0 _ ?_, hrun, hended, _, _, rfl, ?_, ⟨_, rfl⟩, hW, hsame.mono (by decide) (by decide)⟩
  · show Steps _ _ _ (s₁.setTop (mkF m 0 #[.val (.ref a), .unset] [])) _
    refine XS.aloadN X0.here hx rfl (hb hby d_56_3_0) rfl rfl ?_
    show Steps _ _ _ (s₁.setTop (mkF m 1 #[.val (.ref a), .unset] [(.ref a)])) _
    refine st1 _ ?_
    show Steps _ _ _ (T1.setTop (mkF m 4 #[.val (.ref a), .unset] [(.int 0)])) _
    refine XS.ifNo X1.here hx rfl (hb hby d_56_3_4) rfl (by decide) ?_
    refine XS.aloadN X1.here hx rfl (hb hby d_56_3_7) rfl rfl ?_
    show Steps _ _ _ (T1.setTop (mkF m 8 #[.val (.ref a), .unset] [(.ref a)])) _
    refine st2 _ ?_
    show Steps _ _ _ (T2.setTop (mkF m 11 #[.val (.ref a), .unset] [(.int 0)])) _
    refine XS.ifYes X2.here hx rfl rfl (hb hby d_56_3_11) rfl (by decide) (show (0 : Int) ≤ ((11 : Nat) : Int) + (20) by decide) (show (((11 : Nat) : Int) + (20)).toNat = 31 by decide) ?_
    refine XS.aloadN X2.here hx rfl (hb hby d_56_3_31) rfl rfl ?_
    show Steps _ _ _ (T2.setTop (mkF m 32 #[.val (.ref a), .unset] [(.ref a)])) _
    refine st3.trans ?_
    show Steps _ _ _ (T3.setTop (mkF m 37 #[.val (.ref a), .unset] [(.int 0)])) _
    refine XS.ifYes X3.here hx rfl rfl (hb hby d_56_3_37) rfl (by decide) (show (0 : Int) ≤ ((37 : Nat) : Int) + (7) by decide) (show (((37 : Nat) : Int) + (7)).toNat = 44 by decide) ?_
    refine XS.aloadN X3.here hx rfl (hb hby d_56_3_44) rfl rfl ?_
    show Steps _ _ _ (T3.setTop (mkF m 45 #[.val (.ref a), .unset] [(.ref a)])) _
    refine st5.trans ?_
    show Steps _ _ _ (T5.setTop (mkF m 50 #[.val (.ref a), .unset] [(.ref z5)])) _
    refine st11 _ ?_
    show Steps _ _ _ (T11.setTop (mkF m 53 #[.val (.ref a), .unset] [(.ref r')])) _
    exact retOut X11 hx Bd.returns rfl (Or.inr (Or.inr (Or.inr (Or.inr ⟨rfl, rfl, rfl⟩)))) (hb hby d_56_3_53) hr
  · show own_QIL Z EL EM [y1, y2, y3] h0 n0 _ T11.heap _
    rw [e11]
    exact ⟨r', rfl, N13_, K14_, F11⟩
theorem own_ef_co_3 (m : MethodId) (x0 : Addr) : entryFrame m #[(.ref x0)] 1 = mkF m 0 #[.val (.ref x0)] [] := by first | (simp [entryFrame, mkF, argsToLocals, Value.category]; done) | rfl
theorem own_co_3 (l : Launch) (Z : State) (a0 : Array Value) (hw : ∀ d ∈ tables_1, d.before a0 Z = true) (ws : List Jvm.Cond) {D IC EL EE EM MO b0 b1 : Addr} {cD cI cE : Cell} (G : own_G Z D IC EL EE EM MO b0 b1 cD cI cE) (a : Addr) (k : Int32) (x y1 y2 y3 : Addr) (r : List Value) (h0 : Heap) (n0 : Nat) (Z0 : n0 ≤ h0.size) (A : own_Al Z h0 a (.ref x) k 3) (B : own_Oa Z h0 x 10 (.ref y1 :: .ref y2 :: .ref y3 :: r)) (I1 : Ins Z h0 y1 "java/lang/Object" true) (I2 : Ins Z h0 y2 "java/lang/Object" true) (I3 : Ins Z h0 y3 "java/lang/Object" true) (O : Old Z n0 h0) :
    MetFree l (⟨"java/util/List", "copyOf", "(Ljava/util/Collection;)Ljava/util/List;"⟩ : MethodName) (head1 (Jvm.Cond.code (⟨"java/util/List", "copyOf", "(Ljava/util/Collection;)Ljava/util/List;"⟩ : MethodName) jdk_40_method_48_code 1 (some (.object "java/util/List")) :: ws) ({ frames := 8, cells := 4, slots := 16, locals := 103 } : Room)) (fun av U => av = #[(.ref a)] ∧ Z.Warmed39 U.vm ∧ U.heap = h0) (fun _ _ _ _ _ => True) (fun _ U oc U' => ∃ v L, oc = .returned v ∧ own_QIL Z EL EM [y1, y2, y3] h0 n0 v U'.heap L ∧ FrameEnd U oc U' L ({ frames := 8, cells := 4, slots := 16, locals := 103 } : Room).cells ({ frames := 8, cells := 4, slots := 16, locals := 103 } : Room).slots) := by
  refine MetFree.of_bodySF (plainFor_of_name own_pn5) hisR ?_
  intro p e s m args below meth c s₁ Bd hml0 hP hK
  obtain ⟨rfl, hZ, hh⟩ := hP
  have hx := Bd.exec
  have hby := Bd.bytes
  have hml : c.maxLocals = 1 := hml0
  have hown : s.vm.findClass "java/util/List" = some m.cls := findClass_of_methodNamed Bd.named
  have hnm := (name_of_methodNamed Bd.named Bd.method).1
  have X0 : Stand p l e ({ frames := 8, cells := 4, slots := 16, locals := 103 } : Room) s m #[(.ref a)] below meth c s₁ [] 0 0 := Stand.of_body Bd
  have e0 : s₁.heap = h0 := by rw [← hh, Bd.state]; rfl
  have N0 := Fr.nil n0
  have pre0 : ∀ tt, Steps p.tables e below (s₁.setTop (mkF m 0 #[.val (.ref a)] [])) tt → Steps p.tables e below (s₁.setTop (entryFrame m #[(.ref a)] 1)) tt := fun tt k' => castTop (own_ef_co_3 m a) k'
  obtain ⟨_, _, ⟨T1, L1, k1, n1⟩, -, X1, ⟨Lc1, hQ1, l1, y1, z1⟩, st1⟩ := Jvm.LawKit.callS X0 hx (y := (⟨"java/util/ImmutableCollections", "listCopy", "(Ljava/util/Collection;)Ljava/util/List;"⟩ : MethodName)) hown (mvT hZ (ow hw 89 rfl)) (mvT hZ (ow hw 90 rfl)) (mvT hZ (ow hw 91 rfl)) (mvT hZ (ow hw 92 rfl)) (by decide) (backOf (W := 0) (own_lc_3 l Z a0 hw [] G a k x y1 y2 y3 r h0 n0 Z0 A B I1 I2 I3) hZ (ow hw 92 rfl) (ow hw 91 rfl) (by decide) (by decide)) (g := (mkF m 1 #[.val (.ref a)] [(.ref a)])) rfl (by rw [hml]; rfl) (argsL := [(.ref a)]) (rest := []) (lenOf own_pd14 rfl) rfl (by show 2 * 0 + _ ≤ _; exact Nat.le_of_eq rfl) (hb hby d_40_48_1) (fun _ _ => ⟨rfl, e0, (by decide : 0 + 4 ≤ _), (by decide : 0 + 16 ≤ _)⟩)
  dsimp only [Pt.U, Pt.locs, Pt.cells, Pt.slots] at X1 l1 y1 z1 st1 hQ1
  subst l1 y1 z1
  obtain ⟨h1, e1⟩ : ∃ z, T1.heap = z := ⟨_, rfl⟩
  rw [e1] at hQ1
  obtain ⟨r', rfl, N1, K1, F1⟩ := hQ1
  have N2_ := Fr.app N0 N1
  have K3_ := (Keep.refl h0 []).trans K1 all0
  obtain ⟨fs, hr, hrun, hended, hW, hsame⟩ := X1.leave (v := some (.ref r')) (fun h => by rw [Bd.returns] at h; cases h)
  refine ⟨_, _, pre0 _ ?_, hrun, hended, _, _, rfl, ?_, ⟨_, rfl⟩, hW, hsame.mono (by decide) (by decide)⟩
  · show Steps _ _ _ (s₁.setTop (mkF m 0 #[.val (.ref a)] [])) _
    refine XS.aloadN X0.here hx rfl (hb hby d_40_48_0) rfl rfl ?_
    show Steps _ _ _ (s₁.setTop (mkF m 1 #[.val (.ref a)] [(.ref a)])) _
    refine st1 _ ?_
    show Steps _ _ _ (T1.setTop (mkF m 4 #[.val (.ref a)] [(.ref r')])) _
    exact retOut X1 hx Bd.returns rfl (Or.inr (Or.inr (Or.inr (Or.inr ⟨rfl, rfl, rfl⟩)))) (hb hby d_40_48_4) hr
  · show own_QIL Z EL EM [y1, y2, y3] h0 n0 _ T1.heap _
    rw [e1]
    exact ⟨r', rfl, N2_, K3_, F1⟩
theorem own_coA (l : Launch) (Z : State) (a0 : Array Value) (hw : ∀ d ∈ tables_1, d.before a0 Z = true) (ws : List Jvm.Cond) {D IC EL EE EM MO b0 b1 : Addr} {cD cI cE : Cell} (G : own_G Z D IC EL EE EM MO b0 b1 cD cI cE) (a : Addr) (xs : List Addr) (h0 : Heap) (n0 : Nat) (Z0 : n0 ≤ h0.size) (A : own_CL Z D h0 a xs) (hE : ∀ y ∈ xs, y ≠ EM) (O : Old Z n0 h0) :
    MetFree l (⟨"java/util/List", "copyOf", "(Ljava/util/Collection;)Ljava/util/List;"⟩ : MethodName) (head1 (Jvm.Cond.code (⟨"java/util/List", "copyOf", "(Ljava/util/Collection;)Ljava/util/List;"⟩ : MethodName) jdk_40_method_48_code 1 (some (.object "java/util/List")) :: ws) ({ frames := 8, cells := 4, slots := 16, locals := 103 } : Room)) (fun av U => av = #[(.ref a)] ∧ Z.Warmed39 U.vm ∧ U.heap = h0) (fun _ _ _ _ _ => True) (fun _ U oc U' => ∃ v L, oc = .returned v ∧ own_QIL Z EL EM xs h0 n0 v U'.heap L ∧ FrameEnd U oc U' L ({ frames := 8, cells := 4, slots := 16, locals := 103 } : Room).cells ({ frames := 8, cells := 4, slots := 16, locals := 103 } : Room).slots) := by
  match xs, A, hE with
  | [], A, hE => obtain ⟨k, A⟩ := A; exact own_co_0 l Z a0 hw ws G a k h0 n0 Z0 A O
  | [y1], A, hE => obtain ⟨k, x, r, A, B, I1⟩ := A; exact own_co_1 l Z a0 hw ws G a k x y1 r h0 n0 Z0 A B I1 O
  | [y1, y2], A, hE => obtain ⟨k, x, r, A, B, I1, I2⟩ := A; exact own_co_2 l Z a0 hw ws G a k x y1 y2 r h0 n0 Z0 A B I1 I2 (hE y2 (by simp)) O
  | [y1, y2, y3], A, hE => obtain ⟨k, x, r, A, B, I1, I2, I3⟩ := A; exact own_co_3 l Z a0 hw ws G a k x y1 y2 y3 r h0 n0 Z0 A B I1 I2 I3 O
  | _ :: _ :: _ :: _ :: _, A, _ => exact A.elim
end OwnC
/-! ## What stands in the heap: lists, demands, the instance, the grid -/
section OwnD
variable {p : Program} {l : Launch} {e : Env} {R : Room} {s : State} {m : MethodId} {args : Array Value} {below : List Frame} {meth : Method} {c : Code} {T : State} {locs : List Loc} {cells slots : Nat} {Z : State} {a0 : Array Value} {h h' : Heap} {ws : List Addr} {D EL EM : Addr}
theorem own_IL.keep {r : Addr} {xs : List Addr} (F : own_IL Z EL EM h r xs) (K : Keep h h' []) : own_IL Z EL EM h' r xs := by
  match xs, F with
  | [], F => exact F
  | [x], F => exact ⟨F.1.keep K, F.2.1.keep K nin0, F.2.2.keep K nin0⟩
  | [x, y], F => exact ⟨⟨F.1.1.keep K, F.1.2.1.keep K nin0, F.1.2.2.keep K nin0⟩, F.2⟩
  | [x, y, z], F => obtain ⟨q, A, B⟩ := F; exact ⟨q, ⟨A.1.keep K, A.2.1.keep K nin0, A.2.2.keep K nin0⟩, B.keep K nin0⟩
  | _ :: _ :: _ :: _ :: _, F => exact F.elim
theorem own_IL.wr {r o : Addr} {xs : List Addr} {sl : Nat} {v : Value} (F : own_IL Z EL EM h r xs) (W : Wr h h' o sl v) (E : Exa Z h o "com/example/overweave/overweave/Instance") : own_IL Z EL EM h' r xs := by
  match xs, F with
  | [], F => exact F
  | [x], F => have q := ne_exa F.1 E (by decide); exact ⟨F.1.wr W, F.2.1.other W (Or.inl q), F.2.2.other W (Or.inl q)⟩
  | [x, y], F => have q := ne_exa F.1.1 E (by decide); exact ⟨⟨F.1.1.wr W, F.1.2.1.other W (Or.inl q), F.1.2.2.other W (Or.inl q)⟩, F.2⟩
  | [x, y, z], F => obtain ⟨u, A, B⟩ := F; have q := ne_exa A.1 E (by decide); exact ⟨u, ⟨A.1.wr W, A.2.1.other W (Or.inl q), A.2.2.other W (Or.inl q)⟩, B.other W (ne_exa B.exa E (by decide))⟩
  | _ :: _ :: _ :: _ :: _, F => exact F.elim
theorem own_Al.keep {a : Addr} {ev : Value} {k n : Int32} (F : own_Al Z h a ev k n) (K : Keep h h' ws) (q : a ∉ ws) : own_Al Z h' a ev k n := ⟨F.1.keep K, F.2.1.keep K q, F.2.2.1.keep K q, F.2.2.2.keep K q⟩
theorem own_Al.other {a o : Addr} {ev v : Value} {k n : Int32} {sl : Nat} (F : own_Al Z h a ev k n) (W : Wr h h' o sl v) (q : a ≠ o) : own_Al Z h' a ev k n := ⟨F.1.wr W, F.2.1.other W (Or.inl q), F.2.2.1.other W (Or.inl q), F.2.2.2.other W (Or.inl q)⟩
theorem own_CL.keep {a : Addr} {xs : List Addr} (F : own_CL Z D h a xs) (K : Keep h h' []) : own_CL Z D h' a xs := by
  match xs, F with
  | [], F => obtain ⟨k, A⟩ := F; exact ⟨k, A.keep K nin0⟩
  | [x], F => obtain ⟨k, q, r, A, B, I⟩ := F; exact ⟨k, q, r, A.keep K nin0, B.keep K nin0, own_Ins_keep I K⟩
  | [x, y], F => obtain ⟨k, q, r, A, B, I, I'⟩ := F; exact ⟨k, q, r, A.keep K nin0, B.keep K nin0, own_Ins_keep I K, own_Ins_keep I' K⟩
  | [x, y, z], F => obtain ⟨k, q, r, A, B, I, I', I''⟩ := F; exact ⟨k, q, r, A.keep K nin0, B.keep K nin0, own_Ins_keep I K, own_Ins_keep I' K, own_Ins_keep I'' K⟩
  | _ :: _ :: _ :: _ :: _, F => exact F.elim
theorem own_CL.wr {a o : Addr} {xs : List Addr} {sl : Nat} {v : Value} (F : own_CL Z D h a xs) (W : Wr h h' o sl v) (E : Exa Z h o "com/example/overweave/overweave/Instance") : own_CL Z D h' a xs := by
  match xs, F with
  | [], F => obtain ⟨k, A⟩ := F; exact ⟨k, A.other W (ne_exa A.1 E (by decide))⟩
  | [x], F => obtain ⟨k, q, r, A, B, I⟩ := F; exact ⟨k, q, r, A.other W (ne_exa A.1 E (by decide)), B.other W (ne_exa B.exa E (by decide)), I.wr W⟩
  | [x, y], F => obtain ⟨k, q, r, A, B, I, I'⟩ := F; exact ⟨k, q, r, A.other W (ne_exa A.1 E (by decide)), B.other W (ne_exa B.exa E (by decide)), I.wr W, I'.wr W⟩
  | [x, y, z], F => obtain ⟨k, q, r, A, B, I, I', I''⟩ := F; exact ⟨k, q, r, A.other W (ne_exa A.1 E (by decide)), B.other W (ne_exa B.exa E (by decide)), I.wr W, I'.wr W, I''.wr W⟩
  | _ :: _ :: _ :: _ :: _, F => exact F.elim
def own_Dm (Z : State) (h : Heap) (y : Addr) (u d : Int32) (v : UInt64) : Prop := Exa Z h y "com/example/overweave/overweave/Instance$Demand" ∧ Fld Z h y "com/example/overweave/overweave/Instance$Demand" "user" "I" (.int u) ∧ Fld Z h y "com/example/overweave/overweave/Instance$Demand" "destination" "I" (.int d) ∧ Fld Z h y "com/example/overweave/overweave/Instance$Demand" "volume" "D" (.double v)
theorem own_Dm.keep {y : Addr} {u d : Int32} {v : UInt64} (F : own_Dm Z h y u d v) (K : Keep h h' ws) (q : y ∉ ws) : own_Dm Z h' y u d v := ⟨F.1.keep K, F.2.1.keep K q, F.2.2.1.keep K q, F.2.2.2.keep K q⟩
theorem own_Dm.keepL {y a x : Addr} {u d : Int32} {v : UInt64} (F : own_Dm Z h y u d v) (K : Keep h h' [a, x]) (A : Exa Z h' a "java/util/ArrayList") (B : Exa Z h' x "[Ljava/lang/Object;") : own_Dm Z h' y u d v := F.keep K (ninS (ne_exa (F.1.keep K) A (by decide)) (ninS (ne_exa (F.1.keep K) B (by decide)) nin0))
def own_In (Z : State) (h : Heap) (o : Addr) (ru rd rq : Addr) : Prop := Exa Z h o "com/example/overweave/overweave/Instance" ∧ Fld Z h o "com/example/overweave/overweave/Instance" "users" "Ljava/util/List;" (.ref ru) ∧ Fld Z h o "com/example/overweave/overweave/Instance" "destinations" "Ljava/util/List;" (.ref rd) ∧ Fld Z h o "com/example/overweave/overweave/Instance" "demands" "Ljava/util/List;" (.ref rq)
theorem own_In.keep {o ru rd rq : Addr} (F : own_In Z h o ru rd rq) (K : Keep h h' []) : own_In Z h' o ru rd rq := ⟨F.1.keep K, F.2.1.keep K nin0, F.2.2.1.keep K nin0, F.2.2.2.keep K nin0⟩
def own_It (Z : State) (h : Heap) (t r : Addr) (n k : Int32) : Prop := Exa Z h t "java/util/ImmutableCollections$ListItr" ∧ Fld Z h t "java/util/ImmutableCollections$ListItr" "list" "Ljava/util/List;" (.ref r) ∧ Fld Z h t "java/util/ImmutableCollections$ListItr" "size" "I" (.int n) ∧ Fld Z h t "java/util/ImmutableCollections$ListItr" "cursor" "I" (.int k)
theorem own_It.keep {t r : Addr} {n k : Int32} (F : own_It Z h t r n k) (K : Keep h h' ws) (q : t ∉ ws) : own_It Z h' t r n k := ⟨F.1.keep K, F.2.1.keep K q, F.2.2.1.keep K q, F.2.2.2.keep K q⟩
theorem own_dast (X : Stand p l e R s m args below meth c T locs cells slots) (hx : p.tables.exec = Jvm.exec) (hZ : Z.Warmed39 s.vm) (eT : T.heap = h) {a : Addr} {k : ClassId} {n j : Int32} {vs : List Value} {dv : Value} {x : UInt64} (A : Arv Z h a k .double n vs dv) {i : Nat} (hj : ¬ j < 0 ∧ j < n) (hi : j.toNatClampNeg = i) (hl : i < vs.length)
    {g : JFrame} (hg : g.method = m) {rest : List Value} (hs : g.stack = .double x :: .int j :: .ref a :: rest) (hd : decode c.code g.pc = .ok (.dastore, 1)) :
    ∃ T' h', Stand p l e R s m args below meth c T' (locs ++ [⟨a, j.toNatClampNeg⟩]) cells slots ∧ T'.heap = h' ∧ Wr h h' a j.toNatClampNeg (.double x) ∧ Arv Z h' a k .double n (vs.set i (.double x)) dv ∧ ∀ target, Steps p.tables e below (T'.setTop { g with pc := g.pc + 1, stack := rest }) target → Steps p.tables e below (T.setTop g) target := by
  obtain ⟨cl, A1, q1, S, q3, H, G⟩ := A
  obtain ⟨T', h', X', e', W, st⟩ := stD X hx hZ eT A1 (inb_of S hj) hg hs hd
  exact ⟨T', h', X', e', W, Arv.set A1 q1 S q3 H G rfl W i hi hl, st⟩
theorem own_Arv_re {a : Addr} {k : ClassId} {ty : FieldType} {z : Int32} {vs vs' : List Value} {dv : Value} (F : Arv Z h a k ty z vs dv) (q : ∀ i, i < z.toNatClampNeg → vs'.getD i dv = vs.getD i dv) : Arv Z h a k ty z vs' dv := by
  obtain ⟨c, A, q1, S, q3, H, G⟩ := F
  exact ⟨c, A, q1, S, q3, fun i hi => by rw [q i (S ▸ hi)]; exact H i hi, fun i hi => by rw [q i (S ▸ hi)]; exact G i hi⟩
def own_Gr (Z : State) (b : Nat) (h : Heap) (g : Addr) (n1 n2 : Int32) (f00 f01 f10 f11 : UInt64) : Prop := ∃ (x0 x1 : Addr) (k0 k1 : ClassId), (b ≤ g ∧ b ≤ x0 ∧ b ≤ x1 ∧ x0 ≠ x1 ∧ g ≠ x0 ∧ g ≠ x1) ∧ Arv Z h g k0 (.array .double) n1 [.ref x0, .ref x1] .null ∧ Arv Z h x0 k1 .double n2 [.double f00, .double f01] (.double 0) ∧ (n1 = 2 → Arv Z h x1 k1 .double n2 [.double f10, .double f11] (.double 0))
theorem own_ne (a : Nat) : a + 1 ≠ a + 2 ∧ a ≠ a + 1 ∧ a ≠ a + 2 := ⟨by omega, by omega, by omega⟩
theorem own_pad2 (i : Nat) : ([.double 0, .double 0] : List Value).getD i (.double 0) = ([] : List Value).getD i (.double 0) := by
  match i with
  | 0 => rfl
  | 1 => rfl
  | i + 2 => rfl
theorem own_grid (X : Stand p l e R s m args below meth c T locs cells slots) (hx : p.tables.exec = Jvm.exec) (hZ : Z.Warmed39 s.vm) {own : String} {index : Nat} (hown : s.vm.findClass own = some m.cls) (w1 : (Cond.classLink own index "[[D").before a0 Z = true) (w2 : (Cond.arrayOver (.array .double)).before a0 Z = true) (w3 : (Cond.arrayClass .double).before a0 Z = true)
    (eT : T.heap = h) {g : JFrame} (hg : g.method = m) (hd : decode c.code g.pc = .ok (.multianewarray index 2, 4)) {n1 n2 : Int32} {rest : List Value} (hs : g.stack = .int n2 :: .int n1 :: rest) (h1 : n1 = 1 ∨ n1 = 2) (h2 : n2 = 1 ∨ n2 = 2) (hc : cells + 3 ≤ R.cells) (hl : slots + 6 ≤ R.slots) :
    ∃ T' h', Stand p l e R s m args below meth c T' locs (cells + 3) (slots + 6) ∧ T'.heap = h' ∧ Ext h h' ∧ own_Gr Z h.size h' h.size n1 n2 0 0 0 0 ∧ ∀ target, Steps p.tables e below (T'.setTop { g with pc := g.pc + 4, stack := .ref h.size :: rest }) target → Steps p.tables e below (T.setTop g) target := by
  have k2 : ¬ n2 < 0 := by rcases h2 with rfl | rfl <;> decide
  have c2 : n2.toNatClampNeg ≤ 2 := by rcases h2 with rfl | rfl <;> decide
  rcases h1 with rfl | rfl
  · obtain ⟨T', h', cA, comp, X', e', E, A, -, -, B, st⟩ := gridM X hx hZ hown (ty := .double) (C := "[D") (ad := "[[D") rfl rfl w1 w2 w3 eT hg hd hs (by decide) k2 (N := 1) (xs := [h.size + 1]) (by decide) rfl (cap := 2) c2 (by decide) (by decide) rfl rfl (by omega) (by omega)
    refine ⟨T', h', X'.more (by omega) (by omega), e', E, ⟨h.size + 1, h.size + 2, cA, comp, ⟨Nat.le_refl _, by omega, by omega, (own_ne h.size).1, (own_ne h.size).2.1, (own_ne h.size).2.2⟩, own_Arv_re A fun i hi => ?_, (Arv.new (B 0 _ rfl).1 k2).pad own_pad2, fun q => absurd q (by decide)⟩, st⟩
    have : i = 0 := by have e1 : (1 : Int32).toNatClampNeg = 1 := by decide
                       omega
    subst this; rfl
  · obtain ⟨T', h', cA, comp, X', e', E, A, -, -, B, st⟩ := gridM X hx hZ hown (ty := .double) (C := "[D") (ad := "[[D") rfl rfl w1 w2 w3 eT hg hd hs (by decide) k2 (N := 2) (xs := [h.size + 1, h.size + 2]) (by decide) rfl (cap := 2) c2 (by decide) (by decide) rfl rfl (by omega) (by omega)
    exact ⟨T', h', X', e', E, ⟨h.size + 1, h.size + 2, cA, comp, ⟨Nat.le_refl _, by omega, by omega, (own_ne h.size).1, (own_ne h.size).2.1, (own_ne h.size).2.2⟩, A, (Arv.new (B 0 _ rfl).1 k2).pad own_pad2, fun _ => (Arv.new (B 1 _ rfl).1 k2).pad own_pad2⟩, st⟩
end OwnD
/-! ## The contracts III: demands, the instance, sizes, iterators (printed by gen302_d.py) -/
section OwnE
def own_QDm (Z : State) (y : Addr) (u d : Int32) (vol : UInt64) (h0 : Heap) (n0 : Nat) (v : Option Value) (h : Heap) (L : List Loc) : Prop := v = none ∧ Fr n0 L ∧ Keep h0 h [y] ∧ own_Dm Z h y u d vol
def own_In0 (Z : State) (h : Heap) (o : Addr) : Prop := Exa Z h o "com/example/overweave/overweave/Instance" ∧ Fld Z h o "com/example/overweave/overweave/Instance" "name" "Ljava/lang/String;" .null ∧ Fld Z h o "com/example/overweave/overweave/Instance" "sites" "Ljava/util/List;" .null ∧ Fld Z h o "com/example/overweave/overweave/Instance" "users" "Ljava/util/List;" .null ∧ Fld Z h o "com/example/overweave/overweave/Instance" "destinations" "Ljava/util/List;" .null ∧ Fld Z h o "com/example/overweave/overweave/Instance" "links" "Ljava/util/List;" .null ∧ Fld Z h o "com/example/overweave/overweave/Instance" "demands" "Ljava/util/List;" .null
def own_QIn (Z : State) (EL EM o : Addr) (us ds qs : List Addr) (h0 : Heap) (n0 : Nat) (v : Option Value) (h : Heap) (L : List Loc) : Prop := v = none ∧ Fr n0 L ∧ Keep h0 h [o] ∧ ∃ ru rd rq, own_In Z h o ru rd rq ∧ own_IL Z EL EM h ru us ∧ own_IL Z EL EM h rd ds ∧ own_IL Z EL EM h rq qs
def own_It0 (Z : State) (h : Heap) (t : Addr) : Prop := Exa Z h t "java/util/ImmutableCollections$ListItr" ∧ Fld Z h t "java/util/ImmutableCollections$ListItr" "list" "Ljava/util/List;" .null ∧ Fld Z h t "java/util/ImmutableCollections$ListItr" "size" "I" (.int 0) ∧ Fld Z h t "java/util/ImmutableCollections$ListItr" "cursor" "I" (.int 0) ∧ Fld Z h t "java/util/ImmutableCollections$ListItr" "isListIterator" "Z" (.int 0)
def own_QItI (Z : State) (t r : Addr) (n : Int32) (h0 : Heap) (n0 : Nat) (v : Option Value) (h : Heap) (L : List Loc) : Prop := v = none ∧ Fr n0 L ∧ Keep h0 h [t] ∧ own_It Z h t r n 0
def own_QItr (Z : State) (r : Addr) (n : Int32) (h0 : Heap) (n0 : Nat) (v : Option Value) (h : Heap) (L : List Loc) : Prop := ∃ t, v = some (.ref t) ∧ Fr n0 L ∧ Keep h0 h [] ∧ h0.size ≤ t ∧ own_It Z h t r n 0
def own_QNx (Z : State) (t r y : Addr) (n k : Int32) (h0 : Heap) (n0 : Nat) (v : Option Value) (h : Heap) (L : List Loc) : Prop := v = some (.ref y) ∧ Fr n0 L ∧ Keep h0 h [t] ∧ own_It Z h t r n (k + 1)
theorem own_pn12 : plainName "com/example/overweave/overweave/Instance$Demand" = true := by first | (simp [plainName, overriddenIn]; done) | decide +kernel
theorem d_prog_7_1_0 : decode prog_7_method_1_code 0 = .ok (.aload_n 0, 1) := by decide +kernel
theorem d_prog_7_1_1 : decode prog_7_method_1_code 1 = .ok (.invokespecial 1, 3) := by decide +kernel
theorem d_prog_7_1_4 : decode prog_7_method_1_code 4 = .ok (.aload_n 0, 1) := by decide +kernel
theorem d_prog_7_1_5 : decode prog_7_method_1_code 5 = .ok (.iload_n 1, 1) := by decide +kernel
theorem d_prog_7_1_6 : decode prog_7_method_1_code 6 = .ok (.putfield 7, 3) := by decide +kernel
theorem d_prog_7_1_9 : decode prog_7_method_1_code 9 = .ok (.aload_n 0, 1) := by decide +kernel
theorem d_prog_7_1_10 : decode prog_7_method_1_code 10 = .ok (.iload_n 2, 1) := by decide +kernel
theorem d_prog_7_1_11 : decode prog_7_method_1_code 11 = .ok (.putfield 13, 3) := by decide +kernel
theorem d_prog_7_1_14 : decode prog_7_method_1_code 14 = .ok (.aload_n 0, 1) := by decide +kernel
theorem d_prog_7_1_15 : decode prog_7_method_1_code 15 = .ok (.dload_n 3, 1) := by decide +kernel
theorem d_prog_7_1_16 : decode prog_7_method_1_code 16 = .ok (.putfield 16, 3) := by decide +kernel
theorem d_prog_7_1_19 : decode prog_7_method_1_code 19 = .ok (.return_, 1) := by decide +kernel
theorem own_ef_demI (m : MethodId) (x0 : Addr) (x1 : Int32) (x2 : Int32) (x3 : UInt64) : entryFrame m #[(.ref x0), (.int x1), (.int x2), (.double x3)] 5 = mkF m 0 #[.val (.ref x0), .val (.int x1), .val (.int x2), .val (.double x3), .second] [] := by first | (simp [entryFrame, mkF, argsToLocals, Value.category]; done) | rfl
theorem own_demI (l : Launch) (Z : State) (a0 : Array Value) (hw : ∀ d ∈ tables_1, d.before a0 Z = true) (ws : List Jvm.Cond) (y : Addr) (u d : Int32) (vol : UInt64) (h0 : Heap) (n0 : Nat) (Z0 : n0 ≤ h0.size) (A : own_Dm Z h0 y 0 0 0) (gy : n0 ≤ y) :
    MetFree l (⟨"com/example/overweave/overweave/Instance$Demand", "<init>", "(IID)V"⟩ : MethodName) (head1 (Jvm.Cond.code (⟨"com/example/overweave/overweave/Instance$Demand", "<init>", "(IID)V"⟩ : MethodName) prog_7_method_1_code 5 none :: ws) ({ frames := 1, cells := 0, slots := 0, locals := 12 } : Room)) (fun av U => av = #[(.ref y), (.int u), (.int d), (.double vol)] ∧ Z.Warmed39 U.vm ∧ U.heap = h0) (fun _ _ _ _ _ => True) (fun _ U oc U' => ∃ v L, oc = .returned v ∧ own_QDm Z y u d vol h0 n0 v U'.heap L ∧ FrameEnd U oc U' L ({ frames := 1, cells := 0, slots := 0, locals := 12 } : Room).cells ({ frames := 1, cells := 0, slots := 0, locals := 12 } : Room).slots) := by
  refine MetFree.of_bodySF (plainFor_of_name own_pn12) hisR ?_
  intro p e s m args below meth c s₁ Bd hml0 hP hK
  obtain ⟨rfl, hZ, hh⟩ := hP
  have hx := Bd.exec
  have hby := Bd.bytes
  have hml : c.maxLocals = 5 := hml0
  have hown : s.vm.findClass "com/example/overweave/overweave/Instance$Demand" = some m.cls := findClass_of_methodNamed Bd.named
  have hnm := (name_of_methodNamed Bd.named Bd.method).1
  have X0 : Stand p l e ({ frames := 1, cells := 0, slots := 0, locals := 12 } : Room) s m #[(.ref y), (.int u), (.int d), (.double vol)] below meth c s₁ [] 0 0 := Stand.of_body Bd
  have e0 : s₁.heap = h0 := by rw [← hh, Bd.state]; rfl
  have N0 := Fr.nil n0
  have pre0 : ∀ tt, Steps p.tables e below (s₁.setTop (mkF m 0 #[.val (.ref y), .val (.int u), .val (.int d), .val (.double vol), .second] [])) tt → Steps p.tables e below (s₁.setTop (entryFrame m #[(.ref y), (.int u), (.int d), (.double vol)] 5)) tt := fun tt k' => castTop (own_ef_demI m y u d vol) k'
  obtain ⟨T1, X1, e1, st1⟩ := initO X0 hx hZ hown (ow hw 258 rfl) (ow hw 19 rfl) (ow hw 20 rfl) e0 (g := (mkF m 1 #[.val (.ref y), .val (.int u), .val (.int d), .val (.double vol), .second] [(.ref y)])) rfl (by rw [hml]; rfl) rfl (hb hby d_prog_7_1_1) (by decide) (W := 0) (by show 2 * 0 + _ ≤ _; exact Nat.le_of_eq rfl) (by decide)
  obtain ⟨T2, h2, X2, e2, W2, st2⟩ := putF X1 hx hZ hown (host := "") (Or.inl (ow hw 259 rfl)) Via.refl e1 A.2.1 A.1 (Or.inr ⟨(ow hw 260 rfl), rfl, hnm⟩) (ow hw 253 rfl) (ty := .int) (by decide) rfl rfl (g := (mkF m 6 #[.val (.ref y), .val (.int u), .val (.int d), .val (.double vol), .second] [(.int u), (.ref y)])) rfl rfl (hb hby d_prog_7_1_6)
  have N2 := Fr.snoc X2 N0 gy
  have K3_ := (Keep.refl h0 [y]).wr W2 (Or.inl (List.mem_of_getElem? (i := 0) rfl))
  have F2 := A.2.1.same W2
  have f5_ := (A.2.2.1.other W2 (Or.inr (slot_ne (Or.inr (ow hw 262 rfl)) (Or.inr (ow hw 260 rfl)) (by decide) (t := .int) (by decide) (t' := .int) (by decide))))
  have f6_ := (A.1.wr W2)
  obtain ⟨T4, h4, X4, e4, W4, st4⟩ := putF X2 hx hZ hown (host := "") (Or.inl (ow hw 261 rfl)) Via.refl e2 f5_ f6_ (Or.inr ⟨(ow hw 262 rfl), rfl, hnm⟩) (ow hw 253 rfl) (ty := .int) (by decide) rfl rfl (g := (mkF m 11 #[.val (.ref y), .val (.int u), .val (.int d), .val (.double vol), .second] [(.int d), (.ref y)])) rfl rfl (hb hby d_prog_7_1_11)
  have N4 := Fr.snoc X4 N2 gy
  have K7_ := K3_.wr W4 (Or.inl (List.mem_of_getElem? (i := 0) rfl))
  have F4 := f5_.same W4
  have f9_ := ((A.2.2.2.other W2 (Or.inr (slot_ne (Or.inr (ow hw 264 rfl)) (Or.inr (ow hw 260 rfl)) (by decide) (t := .double) (by decide) (t' := .int) (by decide)))).other W4 (Or.inr (slot_ne (Or.inr (ow hw 264 rfl)) (Or.inr (ow hw 262 rfl)) (by decide) (t := .double) (by decide) (t' := .int) (by decide))))
  have f10_ := (f6_.wr W4)
  obtain ⟨T8, h8, X8, e8, W8, st8⟩ := putF X4 hx hZ hown (host := "") (Or.inl (ow hw 263 rfl)) Via.refl e4 f9_ f10_ (Or.inr ⟨(ow hw 264 rfl), rfl, hnm⟩) (ow hw 253 rfl) (ty := .double) (by decide) rfl rfl (g := (mkF m 16 #[.val (.ref y), .val (.int u), .val (.int d), .val (.double vol), .second] [(.double vol), (.ref y)])) rfl rfl (hb hby d_prog_7_1_16)
  have N8 := Fr.snoc X8 N4 gy
  have K11_ := K7_.wr W8 (Or.inl (List.mem_of_getElem? (i := 0) rfl))
  have F8 := f9_.same W8
  have f12_ := (f10_.wr W8)
  have f13_ := ((F2.other W4 (Or.inr (slot_ne (Or.inr (ow hw 260 rfl)) (Or.inr (ow hw 262 rfl)) (by decide) (t := .int) (by decide) (t' := .int) (by decide)))).other W8 (Or.inr (slot_ne (Or.inr (ow hw 260 rfl)) (Or.inr (ow hw 264 rfl)) (by decide) (t := .int) (by decide) (t' := .double) (by decide))))
  have f14_ := (F4.other W8 (Or.inr (slot_ne (Or.inr (ow hw 262 rfl)) (Or.inr (ow hw 264 rfl)) (by decide) (t := .int) (by decide) (t' := .double) (by decide))))
  obtain ⟨fs, hr, hrun, hended, hW, hsame⟩ := X8.leave (v := none) (fun _ => rfl)
  refine ⟨_, _, pre0 _ ?_, hrun, hended, _, _, rfl, ?_, ⟨_, rfl⟩, hW, hsame.mono (by decide) (by decide)⟩
  · show Steps _ _ _ (s₁.setTop (mkF m 0 #[.val (.ref y), .val (.int u), .val (.int d), .val (.double vol), .second] [])) _
    refine XS.aloadN X0.here hx rfl (hb hby d_prog_7_1_0) rfl rfl ?_
    show Steps _ _ _ (s₁.setTop (mkF m 1 #[.val (.ref y), .val (.int u), .val (.int d), .val (.double vol), .second] [(.ref y)])) _
    refine st1 _ ?_
    refine XS.aloadN X1.here hx rfl (hb hby d_prog_7_1_4) rfl rfl ?_
    refine XS.iloadN X1.here hx rfl (hb hby d_prog_7_1_5) rfl ?_
    show Steps _ _ _ (T1.setTop (mkF m 6 #[.val (.ref y), .val (.int u), .val (.int d), .val (.double vol), .second] [(.int u), (.ref y)])) _
    refine st2 _ ?_
    refine XS.aloadN X2.here hx rfl (hb hby d_prog_7_1_9) rfl rfl ?_
    refine XS.iloadN X2.here hx rfl (hb hby d_prog_7_1_10) rfl ?_
    show Steps _ _ _ (T2.setTop (mkF m 11 #[.val (.ref y), .val (.int u), .val (.int d), .val (.double vol), .second] [(.int d), (.ref y)])) _
    refine st4 _ ?_
    refine XS.aloadN X4.here hx rfl (hb hby d_prog_7_1_14) rfl rfl ?_
    refine XS.dloadN X4.here hx rfl (hb hby d_prog_7_1_15) rfl ?_
    show Steps _ _ _ (T4.setTop (mkF m 16 #[.val (.ref y), .val (.int u), .val (.int d), .val (.double vol), .second] [(.double vol), (.ref y)])) _
    refine st8 _ ?_
    show Steps _ _ _ (T8.setTop (mkF m 19 #[.val (.ref y), .val (.int u), .val (.int d), .val (.double vol), .second] [])) _
    exact X8.returnOut hx Bd.returns (hb hby d_prog_7_1_19) hr
  · show own_QDm Z y u d vol h0 n0 _ T8.heap _
    rw [e8]
    exact ⟨rfl, N8, K11_, ⟨f12_, f13_, f14_, F8⟩⟩
theorem d_prog_7_2_0 : decode prog_7_method_2_code 0 = .ok (.aload_n 0, 1) := by decide +kernel
theorem d_prog_7_2_1 : decode prog_7_method_2_code 1 = .ok (.getfield 7, 3) := by decide +kernel
theorem d_prog_7_2_4 : decode prog_7_method_2_code 4 = .ok (.ireturn, 1) := by decide +kernel
theorem own_ef_gu (m : MethodId) (x0 : Addr) : entryFrame m #[(.ref x0)] 1 = mkF m 0 #[.val (.ref x0)] [] := by first | (simp [entryFrame, mkF, argsToLocals, Value.category]; done) | rfl
theorem own_gu (l : Launch) (Z : State) (a0 : Array Value) (hw : ∀ d ∈ tables_1, d.before a0 Z = true) (ws : List Jvm.Cond) (y : Addr) (u d : Int32) (vol : UInt64) (h0 : Heap) (n0 : Nat) (Z0 : n0 ≤ h0.size) (A : own_Dm Z h0 y u d vol) :
    MetFree l (⟨"com/example/overweave/overweave/Instance$Demand", "getUser", "()I"⟩ : MethodName) (head1 (Jvm.Cond.code (⟨"com/example/overweave/overweave/Instance$Demand", "getUser", "()I"⟩ : MethodName) prog_7_method_2_code 1 (some .int) :: ws) ({ frames := 0, cells := 0, slots := 0, locals := 0 } : Room)) (fun av U => av = #[(.ref y)] ∧ Z.Warmed39 U.vm ∧ U.heap = h0) (fun _ _ _ _ _ => True) (fun _ U oc U' => ∃ v L, oc = .returned v ∧ own_QV (.int u) h0 n0 v U'.heap L ∧ FrameEnd U oc U' L ({ frames := 0, cells := 0, slots := 0, locals := 0 } : Room).cells ({ frames := 0, cells := 0, slots := 0, locals := 0 } : Room).slots) := by
  refine MetFree.of_bodySF (plainFor_of_name own_pn12) hisR ?_
  intro p e s m args below meth c s₁ Bd hml0 hP hK
  obtain ⟨rfl, hZ, hh⟩ := hP
  have hx := Bd.exec
  have hby := Bd.bytes
  have hml : c.maxLocals = 1 := hml0
  have hown : s.vm.findClass "com/example/overweave/overweave/Instance$Demand" = some m.cls := findClass_of_methodNamed Bd.named
  have hnm := (name_of_methodNamed Bd.named Bd.method).1
  have X0 : Stand p l e ({ frames := 0, cells := 0, slots := 0, locals := 0 } : Room) s m #[(.ref y)] below meth c s₁ [] 0 0 := Stand.of_body Bd
  have e0 : s₁.heap = h0 := by rw [← hh, Bd.state]; rfl
  have N0 := Fr.nil n0
  have pre0 : ∀ tt, Steps p.tables e below (s₁.setTop (mkF m 0 #[.val (.ref y)] [])) tt → Steps p.tables e below (s₁.setTop (entryFrame m #[(.ref y)] 1)) tt := fun tt k' => castTop (own_ef_gu m y) k'
  obtain ⟨T1, X1, e1, st1⟩ := getF X0 hx hZ hown (host := "") (Or.inl (ow hw 259 rfl)) Via.refl e0 A.2.1 (g := (mkF m 1 #[.val (.ref y)] [(.ref y)])) rfl rfl (hb hby d_prog_7_2_1)
  obtain ⟨fs, hr, hrun, hended, hW, hsame⟩ := X1.leave (v := some (.int u)) (fun h => by rw [Bd.returns] at h; cases h)
  refine ⟨_, _, pre0 _ ?_, hrun, hended, _, _, rfl, ?_, ⟨_, rfl⟩, hW, hsame.mono (by decide) (by decide)⟩
  · show Steps _ _ _ (s₁.setTop (mkF m 0 #[.val (.ref y)] [])) _
    refine XS.aloadN X0.here hx rfl (hb hby d_prog_7_2_0) rfl rfl ?_
    show Steps _ _ _ (s₁.setTop (mkF m 1 #[.val (.ref y)] [(.ref y)])) _
    refine st1 _ ?_
    show Steps _ _ _ (T1.setTop (mkF m 4 #[.val (.ref y)] [(.int u)])) _
    exact retOut X1 hx Bd.returns rfl (Or.inl ⟨rfl, Or.inl rfl, _, rfl⟩) (hb hby d_prog_7_2_4) hr
  · show own_QV (.int u) h0 n0 _ T1.heap _
    rw [e1]
    exact ⟨rfl, N0, rfl⟩
theorem d_prog_7_3_0 : decode prog_7_method_3_code 0 = .ok (.aload_n 0, 1) := by decide +kernel
theorem d_prog_7_3_1 : decode prog_7_method_3_code 1 = .ok (.getfield 13, 3) := by decide +kernel
theorem d_prog_7_3_4 : decode prog_7_method_3_code 4 = .ok (.ireturn, 1) := by decide +kernel
theorem own_ef_gd (m : MethodId) (x0 : Addr) : entryFrame m #[(.ref x0)] 1 = mkF m 0 #[.val (.ref x0)] [] := by first | (simp [entryFrame, mkF, argsToLocals, Value.category]; done) | rfl
theorem own_gd (l : Launch) (Z : State) (a0 : Array Value) (hw : ∀ d ∈ tables_1, d.before a0 Z = true) (ws : List Jvm.Cond) (y : Addr) (u d : Int32) (vol : UInt64) (h0 : Heap) (n0 : Nat) (Z0 : n0 ≤ h0.size) (A : own_Dm Z h0 y u d vol) :
    MetFree l (⟨"com/example/overweave/overweave/Instance$Demand", "getDestination", "()I"⟩ : MethodName) (head1 (Jvm.Cond.code (⟨"com/example/overweave/overweave/Instance$Demand", "getDestination", "()I"⟩ : MethodName) prog_7_method_3_code 1 (some .int) :: ws) ({ frames := 0, cells := 0, slots := 0, locals := 0 } : Room)) (fun av U => av = #[(.ref y)] ∧ Z.Warmed39 U.vm ∧ U.heap = h0) (fun _ _ _ _ _ => True) (fun _ U oc U' => ∃ v L, oc = .returned v ∧ own_QV (.int d) h0 n0 v U'.heap L ∧ FrameEnd U oc U' L ({ frames := 0, cells := 0, slots := 0, locals := 0 } : Room).cells ({ frames := 0, cells := 0, slots := 0, locals := 0 } : Room).slots) := by
  refine MetFree.of_bodySF (plainFor_of_name own_pn12) hisR ?_
  intro p e s m args below meth c s₁ Bd hml0 hP hK
  obtain ⟨rfl, hZ, hh⟩ := hP
  have hx := Bd.exec
  have hby := Bd.bytes
  have hml : c.maxLocals = 1 := hml0
  have hown : s.vm.findClass "com/example/overweave/overweave/Instance$Demand" = some m.cls := findClass_of_methodNamed Bd.named
  have hnm := (name_of_methodNamed Bd.named Bd.method).1
  have X0 : Stand p l e ({ frames := 0, cells := 0, slots := 0, locals := 0 } : Room) s m #[(.ref y)] below meth c s₁ [] 0 0 := Stand.of_body Bd
  have e0 : s₁.heap = h0 := by rw [← hh, Bd.state]; rfl
  have N0 := Fr.nil n0
  have pre0 : ∀ tt, Steps p.tables e below (s₁.setTop (mkF m 0 #[.val (.ref y)] [])) tt → Steps p.tables e below (s₁.setTop (entryFrame m #[(.ref y)] 1)) tt := fun tt k' => castTop (own_ef_gd m y) k'
  obtain ⟨T1, X1, e1, st1⟩ := getF X0 hx hZ hown (host := "") (Or.inl (ow hw 261 rfl)) Via.refl e0 A.2.2.1 (g := (mkF m 1 #[.val (.ref y)] [(.ref y)])) rfl rfl (hb hby d_prog_7_3_1)
  obtain ⟨fs, hr, hrun, hended, hW, hsame⟩ := X1.leave (v := some (.int d)) (fun h => by rw [Bd.returns] at h; cases h)
  refine ⟨_, _, pre0 _ ?_, hrun, hended, _, _, rfl, ?_, ⟨_, rfl⟩, hW, hsame.mono (by decide) (by decide)⟩
  · show Steps _ _ _ (s₁.setTop (mkF m 0 #[.val (.ref y)] [])) _
    refine XS.aloadN X0.here hx rfl (hb hby d_prog_7_3_0) rfl rfl ?_
    show Steps _ _ _ (s₁.setTop (mkF m 1 #[.val (.ref y)] [(.ref y)])) _
    refine st1 _ ?_
    show Steps _ _ _ (T1.setTop (mkF m 4 #[.val (.ref y)] [(.int d)])) _
    exact retOut X1 hx Bd.returns rfl (Or.inl ⟨rfl, Or.inl rfl, _, rfl⟩) (hb hby d_prog_7_3_4) hr
  · show own_QV (.int d) h0 n0 _ T1.heap _
    rw [e1]
    exact ⟨rfl, N0, rfl⟩
theorem d_prog_7_4_0 : decode prog_7_method_4_code 0 = .ok (.aload_n 0, 1) := by decide +kernel
theorem d_prog_7_4_1 : decode prog_7_method_4_code 1 = .ok (.getfield 16, 3) := by decide +kernel
theorem d_prog_7_4_4 : decode prog_7_method_4_code 4 = .ok (.dreturn, 1) := by decide +kernel
theorem own_ef_gv (m : MethodId) (x0 : Addr) : entryFrame m #[(.ref x0)] 1 = mkF m 0 #[.val (.ref x0)] [] := by first | (simp [entryFrame, mkF, argsToLocals, Value.category]; done) | rfl
theorem own_gv (l : Launch) (Z : State) (a0 : Array Value) (hw : ∀ d ∈ tables_1, d.before a0 Z = true) (ws : List Jvm.Cond) (y : Addr) (u d : Int32) (vol : UInt64) (h0 : Heap) (n0 : Nat) (Z0 : n0 ≤ h0.size) (A : own_Dm Z h0 y u d vol) :
    MetFree l (⟨"com/example/overweave/overweave/Instance$Demand", "getVolume", "()D"⟩ : MethodName) (head1 (Jvm.Cond.code (⟨"com/example/overweave/overweave/Instance$Demand", "getVolume", "()D"⟩ : MethodName) prog_7_method_4_code 1 (some .double) :: ws) ({ frames := 0, cells := 0, slots := 0, locals := 0 } : Room)) (fun av U => av = #[(.ref y)] ∧ Z.Warmed39 U.vm ∧ U.heap = h0) (fun _ _ _ _ _ => True) (fun _ U oc U' => ∃ v L, oc = .returned v ∧ own_QV (.double vol) h0 n0 v U'.heap L ∧ FrameEnd U oc U' L ({ frames := 0, cells := 0, slots := 0, locals := 0 } : Room).cells ({ frames := 0, cells := 0, slots := 0, locals := 0 } : Room).slots) := by
  refine MetFree.of_bodySF (plainFor_of_name own_pn12) hisR ?_
  intro p e s m args below meth c s₁ Bd hml0 hP hK
  obtain ⟨rfl, hZ, hh⟩ := hP
  have hx := Bd.exec
  have hby := Bd.bytes
  have hml : c.maxLocals = 1 := hml0
  have hown : s.vm.findClass "com/example/overweave/overweave/Instance$Demand" = some m.cls := findClass_of_methodNamed Bd.named
  have hnm := (name_of_methodNamed Bd.named Bd.method).1
  have X0 : Stand p l e ({ frames := 0, cells := 0, slots := 0, locals := 0 } : Room) s m #[(.ref y)] below meth c s₁ [] 0 0 := Stand.of_body Bd
  have e0 : s₁.heap = h0 := by rw [← hh, Bd.state]; rfl
  have N0 := Fr.nil n0
  have pre0 : ∀ tt, Steps p.tables e below (s₁.setTop (mkF m 0 #[.val (.ref y)] [])) tt → Steps p.tables e below (s₁.setTop (entryFrame m #[(.ref y)] 1)) tt := fun tt k' => castTop (own_ef_gv m y) k'
  obtain ⟨T1, X1, e1, st1⟩ := getF X0 hx hZ hown (host := "") (Or.inl (ow hw 263 rfl)) Via.refl e0 A.2.2.2 (g := (mkF m 1 #[.val (.ref y)] [(.ref y)])) rfl rfl (hb hby d_prog_7_4_1)
  obtain ⟨fs, hr, hrun, hended, hW, hsame⟩ := X1.leave (v := some (.double vol)) (fun h => by rw [Bd.returns] at h; cases h)
  refine ⟨_, _, pre0 _ ?_, hrun, hended, _, _, rfl, ?_, ⟨_, rfl⟩, hW, hsame.mono (by decide) (by decide)⟩
  · show Steps _ _ _ (s₁.setTop (mkF m 0 #[.val (.ref y)] [])) _
    refine XS.aloadN X0.here hx rfl (hb hby d_prog_7_4_0) rfl rfl ?_
    show Steps _ _ _ (s₁.setTop (mkF m 1 #[.val (.ref y)] [(.ref y)])) _
    refine st1 _ ?_
    show Steps _ _ _ (T1.setTop (mkF m 4 #[.val (.ref y)] [(.double vol)])) _
    exact retOut X1 hx Bd.returns rfl (Or.inr (Or.inr (Or.inl ⟨rfl, rfl, _, rfl⟩))) (hb hby d_prog_7_4_4) hr
  · show own_QV (.double vol) h0 n0 _ T1.heap _
    rw [e1]
    exact ⟨rfl, N0, rfl⟩
theorem own_pn13 : plainName "com/example/overweave/overweave/Instance" = true := by first | (simp [plainName, overriddenIn]; done) | decide +kernel
theorem d_prog_6_1_0 : decode prog_6_method_1_code 0 = .ok (.aload_n 0, 1) := by decide +kernel
theorem d_prog_6_1_1 : decode prog_6_method_1_code 1 = .ok (.invokespecial 1, 3) := by decide +kernel
theorem d_prog_6_1_4 : decode prog_6_method_1_code 4 = .ok (.aload_n 0, 1) := by decide +kernel
theorem d_prog_6_1_5 : decode prog_6_method_1_code 5 = .ok (.aload_n 1, 1) := by decide +kernel
theorem d_prog_6_1_6 : decode prog_6_method_1_code 6 = .ok (.putfield 7, 3) := by decide +kernel
theorem d_prog_6_1_9 : decode prog_6_method_1_code 9 = .ok (.aload_n 0, 1) := by decide +kernel
theorem d_prog_6_1_10 : decode prog_6_method_1_code 10 = .ok (.aload_n 2, 1) := by decide +kernel
theorem d_prog_6_1_11 : decode prog_6_method_1_code 11 = .ok (.invokestatic 13, 3) := by decide +kernel
theorem d_prog_6_1_14 : decode prog_6_method_1_code 14 = .ok (.putfield 19, 3) := by decide +kernel
theorem d_prog_6_1_17 : decode prog_6_method_1_code 17 = .ok (.aload_n 0, 1) := by decide +kernel
theorem d_prog_6_1_18 : decode prog_6_method_1_code 18 = .ok (.aload_n 3, 1) := by decide +kernel
theorem d_prog_6_1_19 : decode prog_6_method_1_code 19 = .ok (.invokestatic 13, 3) := by decide +kernel
theorem d_prog_6_1_22 : decode prog_6_method_1_code 22 = .ok (.putfield 23, 3) := by decide +kernel
theorem d_prog_6_1_25 : decode prog_6_method_1_code 25 = .ok (.aload_n 0, 1) := by decide +kernel
theorem d_prog_6_1_26 : decode prog_6_method_1_code 26 = .ok (.aload 4, 2) := by decide +kernel
theorem d_prog_6_1_28 : decode prog_6_method_1_code 28 = .ok (.invokestatic 13, 3) := by decide +kernel
theorem d_prog_6_1_31 : decode prog_6_method_1_code 31 = .ok (.putfield 26, 3) := by decide +kernel
theorem d_prog_6_1_34 : decode prog_6_method_1_code 34 = .ok (.aload_n 0, 1) := by decide +kernel
theorem d_prog_6_1_35 : decode prog_6_method_1_code 35 = .ok (.aload 5, 2) := by decide +kernel
theorem d_prog_6_1_37 : decode prog_6_method_1_code 37 = .ok (.invokestatic 13, 3) := by decide +kernel
theorem d_prog_6_1_40 : decode prog_6_method_1_code 40 = .ok (.putfield 29, 3) := by decide +kernel
theorem d_prog_6_1_43 : decode prog_6_method_1_code 43 = .ok (.aload_n 0, 1) := by decide +kernel
theorem d_prog_6_1_44 : decode prog_6_method_1_code 44 = .ok (.aload 6, 2) := by decide +kernel
theorem d_prog_6_1_46 : decode prog_6_method_1_code 46 = .ok (.invokestatic 13, 3) := by decide +kernel
theorem d_prog_6_1_49 : decode prog_6_method_1_code 49 = .ok (.putfield 32, 3) := by decide +kernel
theorem d_prog_6_1_52 : decode prog_6_method_1_code 52 = .ok (.return_, 1) := by decide +kernel
theorem own_ef_insI (m : MethodId) (x0 : Addr) (x1 : Addr) (x2 : Addr) (x3 : Addr) (x4 : Addr) (x5 : Addr) (x6 : Addr) : entryFrame m #[(.ref x0), (.ref x1), (.ref x2), (.ref x3), (.ref x4), (.ref x5), (.ref x6)] 7 = mkF m 0 #[.val (.ref x0), .val (.ref x1), .val (.ref x2), .val (.ref x3), .val (.ref x4), .val (.ref x5), .val (.ref x6)] [] := by first | (simp [entryFrame, mkF, argsToLocals, Value.category]; done) | rfl
theorem own_insI (l : Launch) (Z : State) (a0 : Array Value) (hw : ∀ d ∈ tables_1, d.before a0 Z = true) (ws : List Jvm.Cond) {D IC EL EE EM MO b0 b1 : Addr} {cD cI cE : Cell} (G : own_G Z D IC EL EE EM MO b0 b1 cD cI cE) (o st a1 a2 a3 a4 a5 : Addr) (us ds qs : List Addr) (hU : ∀ y ∈ us, y ≠ EM) (hD : ∀ y ∈ ds, y ≠ EM) (hQ : ∀ y ∈ qs, y ≠ EM) (h0 : Heap) (n0 : Nat) (Z0 : n0 ≤ h0.size) (A : own_In0 Z h0 o) (go : n0 ≤ o) (C1 : own_CL Z D h0 a1 []) (C2 : own_CL Z D h0 a2 us) (C3 : own_CL Z D h0 a3 ds) (C4 : own_CL Z D h0 a4 []) (C5 : own_CL Z D h0 a5 qs) (O : Old Z n0 h0) :
    MetFree l (⟨"com/example/overweave/overweave/Instance", "<init>", "(Ljava/lang/String;Ljava/util/List;Ljava/util/List;Ljava/util/List;Ljava/util/List;Ljava/util/List;)V"⟩ : MethodName) (head1 (Jvm.Cond.code (⟨"com/example/overweave/overweave/Instance", "<init>", "(Ljava/lang/String;Ljava/util/List;Ljava/util/List;Ljava/util/List;Ljava/util/List;Ljava/util/List;)V"⟩ : MethodName) prog_6_method_1_code 7 none :: ws) ({ frames := 9, cells := 20, slots := 80, locals := 116 } : Room)) (fun av U => av = #[(.ref o), (.ref st), (.ref a1), (.ref a2), (.ref a3), (.ref a4), (.ref a5)] ∧ Z.Warmed39 U.vm ∧ U.heap = h0) (fun _ _ _ _ _ => True) (fun _ U oc U' => ∃ v L, oc = .returned v ∧ own_QIn Z EL EM o us ds qs h0 n0 v U'.heap L ∧ FrameEnd U oc U' L ({ frames := 9, cells := 20, slots := 80, locals := 116 } : Room).cells ({ frames := 9, cells := 20, slots := 80, locals := 116 } : Room).slots) := by
  refine MetFree.of_bodySF (plainFor_of_name own_pn13) hisR ?_
  intro p e s m args below meth c s₁ Bd hml0 hP hK
  obtain ⟨rfl, hZ, hh⟩ := hP
  have hx := Bd.exec
  have hby := Bd.bytes
  have hml : c.maxLocals = 7 := hml0
  have hown : s.vm.findClass "com/example/overweave/overweave/Instance" = some m.cls := findClass_of_methodNamed Bd.named
  have hnm := (name_of_methodNamed Bd.named Bd.method).1
  have X0 : Stand p l e ({ frames := 9, cells := 20, slots := 80, locals := 116 } : Room) s m #[(.ref o), (.ref st), (.ref a1), (.ref a2), (.ref a3), (.ref a4), (.ref a5)] below meth c s₁ [] 0 0 := Stand.of_body Bd
  have e0 : s₁.heap = h0 := by rw [← hh, Bd.state]; rfl
  have N0 := Fr.nil n0
  have pre0 : ∀ tt, Steps p.tables e below (s₁.setTop (mkF m 0 #[.val (.ref o), .val (.ref st), .val (.ref a1), .val (.ref a2), .val (.ref a3), .val (.ref a4), .val (.ref a5)] [])) tt → Steps p.tables e below (s₁.setTop (entryFrame m #[(.ref o), (.ref st), (.ref a1), (.ref a2), (.ref a3), (.ref a4), (.ref a5)] 7)) tt := fun tt k' => castTop (own_ef_insI m o st a1 a2 a3 a4 a5) k'
  obtain ⟨T1, X1, e1, st1⟩ := initO X0 hx hZ hown (ow hw 82 rfl) (ow hw 19 rfl) (ow hw 20 rfl) e0 (g := (mkF m 1 #[.val (.ref o), .val (.ref st), .val (.ref a1), .val (.ref a2), .val (.ref a3), .val (.ref a4), .val (.ref a5)] [(.ref o)])) rfl (by rw [hml]; rfl) rfl (hb hby d_prog_6_1_1) (by decide) (W := 0) (by show 2 * 0 + _ ≤ _; exact Nat.le_of_eq rfl) (by decide)
  obtain ⟨T2, h2, X2, e2, W2, st2⟩ := putF X1 hx hZ hown (host := "") (Or.inl (ow hw 83 rfl)) Via.refl e1 A.2.1 A.1 (Or.inr ⟨(ow hw 84 rfl), rfl, hnm⟩) (ow hw 69 rfl) (ty := (.object "java/lang/String")) (by decide) rfl rfl (g := (mkF m 6 #[.val (.ref o), .val (.ref st), .val (.ref a1), .val (.ref a2), .val (.ref a3), .val (.ref a4), .val (.ref a5)] [(.ref st), (.ref o)])) rfl rfl (hb hby d_prog_6_1_6)
  have N2 := Fr.snoc X2 N0 go
  have K3_ := (Keep.refl h0 [o]).wr W2 (Or.inl (List.mem_of_getElem? (i := 0) rfl))
  have F2 := A.2.1.same W2
  have f4_ := (C1.wr W2 A.1)
  have f6_ := (O.wr W2 go)
  have Z7_ := (Nat.le_trans Z0 K3_.1)
  obtain ⟨_, _, ⟨T5, L5, k5, n5⟩, -, X5, ⟨Lc5, hQ5, l5, y5, z5⟩, st5⟩ := Jvm.LawKit.callS X2 hx (y := (⟨"java/util/List", "copyOf", "(Ljava/util/Collection;)Ljava/util/List;"⟩ : MethodName)) hown (mvT hZ (ow hw 85 rfl)) (mvT hZ (ow hw 86 rfl)) (mvT hZ (ow hw 87 rfl)) (mvT hZ (ow hw 88 rfl)) (by decide) (backOf (W := 1) (own_coA l Z a0 hw [] G a1 [] h2 n0 Z7_ f4_ (fun _ q => nomatch q) f6_) hZ (ow hw 88 rfl) (ow hw 87 rfl) (by decide) (by decide)) (g := (mkF m 11 #[.val (.ref o), .val (.ref st), .val (.ref a1), .val (.ref a2), .val (.ref a3), .val (.ref a4), .val (.ref a5)] [(.ref a1), (.ref o)])) rfl (by rw [hml]; rfl) (argsL := [(.ref a1)]) (rest := [(.ref o)]) (lenOf own_pd14 rfl) rfl (by show 2 * 0 + _ ≤ _; exact Nat.le_of_eq rfl) (hb hby d_prog_6_1_11) (fun _ _ => ⟨rfl, e2, (by decide : 0 + 4 ≤ _), (by decide : 0 + 16 ≤ _)⟩)
  dsimp only [Pt.U, Pt.locs, Pt.cells, Pt.slots] at X5 l5 y5 z5 st5 hQ5
  subst l5 y5 z5
  obtain ⟨h5, e5⟩ : ∃ z, T5.heap = z := ⟨_, rfl⟩
  rw [e5] at hQ5
  obtain ⟨ro1, rfl, N5, K5, F5⟩ := hQ5
  have N8_ := Fr.app N2 N5
  have K9_ := K3_.trans K5 all0
  have f11_ := ((A.2.2.1.other W2 (Or.inr (slot_ne (Or.inr (ow hw 113 rfl)) (Or.inr (ow hw 84 rfl)) (by decide) (t := (.object "java/util/List")) (by decide) (t' := (.object "java/lang/String")) (by decide)))).keep K5 nin0)
  have f12_ := ((A.1.wr W2).keep K5)
  obtain ⟨T10, h10, X10, e10, W10, st10⟩ := putF X5 hx hZ hown (host := "") (Or.inl (ow hw 112 rfl)) Via.refl e5 f11_ f12_ (Or.inr ⟨(ow hw 113 rfl), rfl, hnm⟩) (ow hw 69 rfl) (ty := (.object "java/util/List")) (by decide) rfl rfl (g := (mkF m 14 #[.val (.ref o), .val (.ref st), .val (.ref a1), .val (.ref a2), .val (.ref a3), .val (.ref a4), .val (.ref a5)] [(.ref ro1), (.ref o)])) rfl rfl (hb hby d_prog_6_1_14)
  have N10 := Fr.snoc X10 N8_ go
  have K13_ := K9_.wr W10 (Or.inl (List.mem_of_getElem? (i := 0) rfl))
  have F10 := f11_.same W10
  have f14_ := (((C2.wr W2 A.1).keep K5).wr W10 f12_)
  have f16_ := ((f6_.keep K5 all0).wr W10 go)
  have Z17_ := (Nat.le_trans Z0 K13_.1)
  obtain ⟨_, _, ⟨T15, L15, k15, n15⟩, -, X15, ⟨Lc15, hQ15, l15, y15, z15⟩, st15⟩ := Jvm.LawKit.callS X10 hx (y := (⟨"java/util/List", "copyOf", "(Ljava/util/Collection;)Ljava/util/List;"⟩ : MethodName)) hown (mvT hZ (ow hw 85 rfl)) (mvT hZ (ow hw 86 rfl)) (mvT hZ (ow hw 87 rfl)) (mvT hZ (ow hw 88 rfl)) (by decide) (backOf (W := 1) (own_coA l Z a0 hw [] G a2 us h10 n0 Z17_ f14_ hU f16_) hZ (ow hw 88 rfl) (ow hw 87 rfl) (by decide) (by decide)) (g := (mkF m 19 #[.val (.ref o), .val (.ref st), .val (.ref a1), .val (.ref a2), .val (.ref a3), .val (.ref a4), .val (.ref a5)] [(.ref a2), (.ref o)])) rfl (by rw [hml]; rfl) (argsL := [(.ref a2)]) (rest := [(.ref o)]) (lenOf own_pd14 rfl) rfl (by show 2 * 0 + _ ≤ _; exact Nat.le_of_eq rfl) (hb hby d_prog_6_1_19) (fun _ _ => ⟨rfl, e10, (by decide : 4 + 4 ≤ _), (by decide : 16 + 16 ≤ _)⟩)
  dsimp only [Pt.U, Pt.locs, Pt.cells, Pt.slots] at X15 l15 y15 z15 st15 hQ15
  subst l15 y15 z15
  obtain ⟨h15, e15⟩ : ∃ z, T15.heap = z := ⟨_, rfl⟩
  rw [e15] at hQ15
  obtain ⟨ro2, rfl, N15, K15, F15⟩ := hQ15
  have N18_ := Fr.app N10 N15
  have K19_ := K13_.trans K15 all0
  have f21_ := ((((A.2.2.2.1.other W2 (Or.inr (slot_ne (Or.inr (ow hw 178 rfl)) (Or.inr (ow hw 84 rfl)) (by decide) (t := (.object "java/util/List")) (by decide) (t' := (.object "java/lang/String")) (by decide)))).keep K5 nin0).other W10 (Or.inr (slot_ne (Or.inr (ow hw 178 rfl)) (Or.inr (ow hw 113 rfl)) (by decide) (t := (.object "java/util/List")) (by decide) (t' := (.object "java/util/List")) (by decide)))).keep K15 nin0)
  have f22_ := ((f12_.wr W10).keep K15)
  obtain ⟨T20, h20, X20, e20, W20, st20⟩ := putF X15 hx hZ hown (host := "") (Or.inl (ow hw 177 rfl)) Via.refl e15 f21_ f22_ (Or.inr ⟨(ow hw 178 rfl), rfl, hnm⟩) (ow hw 69 rfl) (ty := (.object "java/util/List")) (by decide) rfl rfl (g := (mkF m 22 #[.val (.ref o), .val (.ref st), .val (.ref a1), .val (.ref a2), .val (.ref a3), .val (.ref a4), .val (.ref a5)] [(.ref ro2), (.ref o)])) rfl rfl (hb hby d_prog_6_1_22)
  have N20 := Fr.snoc X20 N18_ go
  have K23_ := K19_.wr W20 (Or.inl (List.mem_of_getElem? (i := 0) rfl))
  have F20 := f21_.same W20
  have f24_ := (((((C3.wr W2 A.1).keep K5).wr W10 f12_).keep K15).wr W20 f22_)
  have f26_ := ((f16_.keep K15 all0).wr W20 go)
  have Z27_ := (Nat.le_trans Z0 K23_.1)
  obtain ⟨_, _, ⟨T25, L25, k25, n25⟩, -, X25, ⟨Lc25, hQ25, l25, y25, z25⟩, st25⟩ := Jvm.LawKit.callS X20 hx (y := (⟨"java/util/List", "copyOf", "(Ljava/util/Collection;)Ljava/util/List;"⟩ : MethodName)) hown (mvT hZ (ow hw 85 rfl)) (mvT hZ (ow hw 86 rfl)) (mvT hZ (ow hw 87 rfl)) (mvT hZ (ow hw 88 rfl)) (by decide) (backOf (W := 1) (own_coA l Z a0 hw [] G a3 ds h20 n0 Z27_ f24_ hD f26_) hZ (ow hw 88 rfl) (ow hw 87 rfl) (by decide) (by decide)) (g := (mkF m 28 #[.val (.ref o), .val (.ref st), .val (.ref a1), .val (.ref a2), .val (.ref a3), .val (.ref a4), .val (.ref a5)] [(.ref a3), (.ref o)])) rfl (by rw [hml]; rfl) (argsL := [(.ref a3)]) (rest := [(.ref o)]) (lenOf own_pd14 rfl) rfl (by show 2 * 0 + _ ≤ _; exact Nat.le_of_eq rfl) (hb hby d_prog_6_1_28) (fun _ _ => ⟨rfl, e20, (by decide : 8 + 4 ≤ _), (by decide : 32 + 16 ≤ _)⟩)
  dsimp only [Pt.U, Pt.locs, Pt.cells, Pt.slots] at X25 l25 y25 z25 st25 hQ25
  subst l25 y25 z25
  obtain ⟨h25, e25⟩ : ∃ z, T25.heap = z := ⟨_, rfl⟩
  rw [e25] at hQ25
  obtain ⟨ro3, rfl, N25, K25, F25⟩ := hQ25
  have N28_ := Fr.app N20 N25
  have K29_ := K23_.trans K25 all0
  have f31_ := ((((((A.2.2.2.2.1.other W2 (Or.inr (slot_ne (Or.inr (ow hw 180 rfl)) (Or.inr (ow hw 84 rfl)) (by decide) (t := (.object "java/util/List")) (by decide) (t' := (.object "java/lang/String")) (by decide)))).keep K5 nin0).other W10 (Or.inr (slot_ne (Or.inr (ow hw 180 rfl)) (Or.inr (ow hw 113 rfl)) (by decide) (t := (.object "java/util/List")) (by decide) (t' := (.object "java/util/List")) (by decide)))).keep K15 nin0).other W20 (Or.inr (slot_ne (Or.inr (ow hw 180 rfl)) (Or.inr (ow hw 178 rfl)) (by decide) (t := (.object "java/util/List")) (by decide) (t' := (.object "java/util/List")) (by decide)))).keep K25 nin0)
  have f32_ := ((f22_.wr W20).keep K25)
  obtain ⟨T30, h30, X30, e30, W30, st30⟩ := putF X25 hx hZ hown (host := "") (Or.inl (ow hw 179 rfl)) Via.refl e25 f31_ f32_ (Or.inr ⟨(ow hw 180 rfl), rfl, hnm⟩) (ow hw 69 rfl) (ty := (.object "java/util/List")) (by decide) rfl rfl (g := (mkF m 31 #[.val (.ref o), .val (.ref st), .val (.ref a1), .val (.ref a2), .val (.ref a3), .val (.ref a4), .val (.ref a5)] [(.ref ro3), (.ref o)])) rfl rfl (hb hby d_prog_6_1_31)
  have N30 := Fr.snoc X30 N28_ go
  have K33_ := K29_.wr W30 (Or.inl (List.mem_of_getElem? (i := 0) rfl))
  have F30 := f31_.same W30
  have f34_ := (((((((C4.wr W2 A.1).keep K5).wr W10 f12_).keep K15).wr W20 f22_).keep K25).wr W30 f32_)
  have f36_ := ((f26_.keep K25 all0).wr W30 go)
  have Z37_ := (Nat.le_trans Z0 K33_.1)
  obtain ⟨_, _, ⟨T35, L35, k35, n35⟩, -, X35, ⟨Lc35, hQ35, l35, y35, z35⟩, st35⟩ := Jvm.LawKit.callS X30 hx (y := (⟨"java/util/List", "copyOf", "(Ljava/util/Collection;)Ljava/util/List;"⟩ : MethodName)) hown (mvT hZ (ow hw 85 rfl)) (mvT hZ (ow hw 86 rfl)) (mvT hZ (ow hw 87 rfl)) (mvT hZ (ow hw 88 rfl)) (by decide) (backOf (W := 1) (own_coA l Z a0 hw [] G a4 [] h30 n0 Z37_ f34_ (fun _ q => nomatch q) f36_) hZ (ow hw 88 rfl) (ow hw 87 rfl) (by decide) (by decide)) (g := (mkF m 37 #[.val (.ref o), .val (.ref st), .val (.ref a1), .val (.ref a2), .val (.ref a3), .val (.ref a4), .val (.ref a5)] [(.ref a4), (.ref o)])) rfl (by rw [hml]; rfl) (argsL := [(.ref a4)]) (rest := [(.ref o)]) (lenOf own_pd14 rfl) rfl (by show 2 * 0 + _ ≤ _; exact Nat.le_of_eq rfl) (hb hby d_prog_6_1_37) (fun _ _ => ⟨rfl, e30, (by decide : 12 + 4 ≤ _), (by decide : 48 + 16 ≤ _)⟩)
  dsimp only [Pt.U, Pt.locs, Pt.cells, Pt.slots] at X35 l35 y35 z35 st35 hQ35
  subst l35 y35 z35
  obtain ⟨h35, e35⟩ : ∃ z, T35.heap = z := ⟨_, rfl⟩
  rw [e35] at hQ35
  obtain ⟨ro4, rfl, N35, K35, F35⟩ := hQ35
  have N38_ := Fr.app N30 N35
  have K39_ := K33_.trans K35 all0
  have f41_ := ((((((((A.2.2.2.2.2.1.other W2 (Or.inr (slot_ne (Or.inr (ow hw 182 rfl)) (Or.inr (ow hw 84 rfl)) (by decide) (t := (.object "java/util/List")) (by decide) (t' := (.object "java/lang/String")) (by decide)))).keep K5 nin0).other W10 (Or.inr (slot_ne (Or.inr (ow hw 182 rfl)) (Or.inr (ow hw 113 rfl)) (by decide) (t := (.object "java/util/List")) (by decide) (t' := (.object "java/util/List")) (by decide)))).keep K15 nin0).other W20 (Or.inr (slot_ne (Or.inr (ow hw 182 rfl)) (Or.inr (ow hw 178 rfl)) (by decide) (t := (.object "java/util/List")) (by decide) (t' := (.object "java/util/List")) (by decide)))).keep K25 nin0).other W30 (Or.inr (slot_ne (Or.inr (ow hw 182 rfl)) (Or.inr (ow hw 180 rfl)) (by decide) (t := (.object "java/util/List")) (by decide) (t' := (.object "java/util/List")) (by decide)))).keep K35 nin0)
  have f42_ := ((f32_.wr W30).keep K35)
  obtain ⟨T40, h40, X40, e40, W40, st40⟩ := putF X35 hx hZ hown (host := "") (Or.inl (ow hw 181 rfl)) Via.refl e35 f41_ f42_ (Or.inr ⟨(ow hw 182 rfl), rfl, hnm⟩) (ow hw 69 rfl) (ty := (.object "java/util/List")) (by decide) rfl rfl (g := (mkF m 40 #[.val (.ref o), .val (.ref st), .val (.ref a1), .val (.ref a2), .val (.ref a3), .val (.ref a4), .val (.ref a5)] [(.ref ro4), (.ref o)])) rfl rfl (hb hby d_prog_6_1_40)
  have N40 := Fr.snoc X40 N38_ go
  have K43_ := K39_.wr W40 (Or.inl (List.mem_of_getElem? (i := 0) rfl))
  have F40 := f41_.same W40
  have f44_ := (((((((((C5.wr W2 A.1).keep K5).wr W10 f12_).keep K15).wr W20 f22_).keep K25).wr W30 f32_).keep K35).wr W40 f42_)
  have f46_ := ((f36_.keep K35 all0).wr W40 go)
  have Z47_ := (Nat.le_trans Z0 K43_.1)
  obtain ⟨_, _, ⟨T45, L45, k45, n45⟩, -, X45, ⟨Lc45, hQ45, l45, y45, z45⟩, st45⟩ := Jvm.LawKit.callS X40 hx (y := (⟨"java/util/List", "copyOf", "(Ljava/util/Collection;)Ljava/util/List;"⟩ : MethodName)) hown (mvT hZ (ow hw 85 rfl)) (mvT hZ (ow hw 86 rfl)) (mvT hZ (ow hw 87 rfl)) (mvT hZ (ow hw 88 rfl)) (by decide) (backOf (W := 1) (own_coA l Z a0 hw [] G a5 qs h40 n0 Z47_ f44_ hQ f46_) hZ (ow hw 88 rfl) (ow hw 87 rfl) (by decide) (by decide)) (g := (mkF m 46 #[.val (.ref o), .val (.ref st), .val (.ref a1), .val (.ref a2), .val (.ref a3), .val (.ref a4), .val (.ref a5)] [(.ref a5), (.ref o)])) rfl (by rw [hml]; rfl) (argsL := [(.ref a5)]) (rest := [(.ref o)]) (lenOf own_pd14 rfl) rfl (by show 2 * 0 + _ ≤ _; exact Nat.le_of_eq rfl) (hb hby d_prog_6_1_46) (fun _ _ => ⟨rfl, e40, (by decide : 16 + 4 ≤ _), (by decide : 64 + 16 ≤ _)⟩)
  dsimp only [Pt.U, Pt.locs, Pt.cells, Pt.slots] at X45 l45 y45 z45 st45 hQ45
  subst l45 y45 z45
  obtain ⟨h45, e45⟩ : ∃ z, T45.heap = z := ⟨_, rfl⟩
  rw [e45] at hQ45
  obtain ⟨ro5, rfl, N45, K45, F45⟩ := hQ45
  have N48_ := Fr.app N40 N45
  have K49_ := K43_.trans K45 all0
  have f51_ := ((((((((((A.2.2.2.2.2.2.other W2 (Or.inr (slot_ne (Or.inr (ow hw 184 rfl)) (Or.inr (ow hw 84 rfl)) (by decide) (t := (.object "java/util/List")) (by decide) (t' := (.object "java/lang/String")) (by decide)))).keep K5 nin0).other W10 (Or.inr (slot_ne (Or.inr (ow hw 184 rfl)) (Or.inr (ow hw 113 rfl)) (by decide) (t := (.object "java/util/List")) (by decide) (t' := (.object "java/util/List")) (by decide)))).keep K15 nin0).other W20 (Or.inr (slot_ne (Or.inr (ow hw 184 rfl)) (Or.inr (ow hw 178 rfl)) (by decide) (t := (.object "java/util/List")) (by decide) (t' := (.object "java/util/List")) (by decide)))).keep K25 nin0).other W30 (Or.inr (slot_ne (Or.inr (ow hw 184 rfl)) (Or.inr (ow hw 180 rfl)) (by decide) (t := (.object "java/util/List")) (by decide) (t' := (.object "java/util/List")) (by decide)))).keep K35 nin0).other W40 (Or.inr (slot_ne (Or.inr (ow hw 184 rfl)) (Or.inr (ow hw 182 rfl)) (by decide) (t := (.object "java/util/List")) (by decide) (t' := (.object "java/util/List")) (by decide)))).keep K45 nin0)
  have f52_ := ((f42_.wr W40).keep K45)
  obtain ⟨T50, h50, X50, e50, W50, st50⟩ := putF X45 hx hZ hown (host := "") (Or.inl (ow hw 183 rfl)) Via.refl e45 f51_ f52_ (Or.inr ⟨(ow hw 184 rfl), rfl, hnm⟩) (ow hw 69 rfl) (ty := (.object "java/util/List")) (by decide) rfl rfl (g := (mkF m 49 #[.val (.ref o), .val (.ref st), .val (.ref a1), .val (.ref a2), .val (.ref a3), .val (.ref a4), .val (.ref a5)] [(.ref ro5), (.ref o)])) rfl rfl (hb hby d_prog_6_1_49)
  have N50 := Fr.snoc X50 N48_ go
  have K53_ := K49_.wr W50 (Or.inl (List.mem_of_getElem? (i := 0) rfl))
  have F50 := f51_.same W50
  have f54_ := (f52_.wr W50)
  have f55_ := ((((((F20.keep K25 nin0).other W30 (Or.inr (slot_ne (Or.inr (ow hw 178 rfl)) (Or.inr (ow hw 180 rfl)) (by decide) (t := (.object "java/util/List")) (by decide) (t' := (.object "java/util/List")) (by decide)))).keep K35 nin0).other W40 (Or.inr (slot_ne (Or.inr (ow hw 178 rfl)) (Or.inr (ow hw 182 rfl)) (by decide) (t := (.object "java/util/List")) (by decide) (t' := (.object "java/util/List")) (by decide)))).keep K45 nin0).other W50 (Or.inr (slot_ne (Or.inr (ow hw 178 rfl)) (Or.inr (ow hw 184 rfl)) (by decide) (t := (.object "java/util/List")) (by decide) (t' := (.object "java/util/List")) (by decide))))
  have f56_ := ((((F30.keep K35 nin0).other W40 (Or.inr (slot_ne (Or.inr (ow hw 180 rfl)) (Or.inr (ow hw 182 rfl)) (by decide) (t := (.object "java/util/List")) (by decide) (t' := (.object "java/util/List")) (by decide)))).keep K45 nin0).other W50 (Or.inr (slot_ne (Or.inr (ow hw 180 rfl)) (Or.inr (ow hw 184 rfl)) (by decide) (t := (.object "java/util/List")) (by decide) (t' := (.object "java/util/List")) (by decide))))
  have f57_ := (((((((F15.wr W20 f22_).keep K25).wr W30 f32_).keep K35).wr W40 f42_).keep K45).wr W50 f52_)
  have f58_ := (((((F25.wr W30 f32_).keep K35).wr W40 f42_).keep K45).wr W50 f52_)
  have f59_ := (F45.wr W50 f52_)
  obtain ⟨fs, hr, hrun, hended, hW, hsame⟩ := X50.leave (v := none) (fun _ => rfl)
  refine ⟨_, _, pre0 _ ?_, hrun, hended, _, _, rfl, ?_, ⟨_, rfl⟩, hW, hsame.mono (by decide) (by decide)⟩
  · show Steps _ _ _ (s₁.setTop (mkF m 0 #[.val (.ref o), .val (.ref st), .val (.ref a1), .val (.ref a2), .val (.ref a3), .val (.ref a4), .val (.ref a5)] [])) _
    refine XS.aloadN X0.here hx rfl (hb hby d_prog_6_1_0) rfl rfl ?_
    show Steps _ _ _ (s₁.setTop (mkF m 1 #[.val (.ref o), .val (.ref st), .val (.ref a1), .val (.ref a2), .val (.ref a3), .val (.ref a4), .val (.ref a5)] [(.ref o)])) _
    refine st1 _ ?_
    refine XS.aloadN X1.here hx rfl (hb hby d_prog_6_1_4) rfl rfl ?_
    refine XS.aloadN X1.here hx rfl (hb hby d_prog_6_1_5) rfl rfl ?_
    show Steps _ _ _ (T1.setTop (mkF m 6 #[.val (.ref o), .val (.ref st), .val (.ref a1), .val (.ref a2), .val (.ref a3), .val (.ref a4), .val (.ref a5)] [(.ref st), (.ref o)])) _
    refine st2 _ ?_
    refine XS.aloadN X2.here hx rfl (hb hby d_prog_6_1_9) rfl rfl ?_
    refine XS.aloadN X2.here hx rfl (hb hby d_prog_6_1_10) rfl rfl ?_
    show Steps _ _ _ (T2.setTop (mkF m 11 #[.val (.ref o), .val (.ref st), .val (.ref a1), .val (.ref a2), .val (.ref a3), .val (.ref a4), .val (.ref a5)] [(.ref a1), (.ref o)])) _
    refine st5 _ ?_
    show Steps _ _ _ (T5.setTop (mkF m 14 #[.val (.ref o), .val (.ref st), .val (.ref a1), .val (.ref a2), .val (.ref a3), .val (.ref a4), .val (.ref a5)] [(.ref ro1), (.ref o)])) _
    refine st10 _ ?_
    refine XS.aloadN X10.here hx rfl (hb hby d_prog_6_1_17) rfl rfl ?_
    refine XS.aloadN X10.here hx rfl (hb hby d_prog_6_1_18) rfl rfl ?_
    show Steps _ _ _ (T10.setTop (mkF m 19 #[.val (.ref o), .val (.ref st), .val (.ref a1), .val (.ref a2), .val (.ref a3), .val (.ref a4), .val (.ref a5)] [(.ref a2), (.ref o)])) _
    refine st15 _ ?_
    show Steps _ _ _ (T15.setTop (mkF m 22 #[.val (.ref o), .val (.ref st), .val (.ref a1), .val (.ref a2), .val (.ref a3), .val (.ref a4), .val (.ref a5)] [(.ref ro2), (.ref o)])) _
    refine st20 _ ?_
    refine XS.aloadN X20.here hx rfl (hb hby d_prog_6_1_25) rfl rfl ?_
    refine XS.aload X20.here hx rfl (hb hby d_prog_6_1_26) rfl rfl ?_
    show Steps _ _ _ (T20.setTop (mkF m 28 #[.val (.ref o), .val (.ref st), .val (.ref a1), .val (.ref a2), .val (.ref a3), .val (.ref a4), .val (.ref a5)] [(.ref a3), (.ref o)])) _
    refine st25 _ ?_
    show Steps _ _ _ (T25.setTop (mkF m 31 #[.val (.ref o), .val (.ref st), .val (.ref a1), .val (.ref a2), .val (.ref a3), .val (.ref a4), .val (.ref a5)] [(.ref ro3), (.ref o)])) _
    refine st30 _ ?_
    refine XS.aloadN X30.here hx rfl (hb hby d_prog_6_1_34) rfl rfl ?_
    refine XS.aload X30.here hx rfl (hb hby d_prog_6_1_35) rfl rfl ?_
    show Steps _ _ _ (T30.setTop (mkF m 37 #[.val (.ref o), .val (.ref st), .val (.ref a1), .val (.ref a2), .val (.ref a3), .val (.ref a4), .val (.ref a5)] [(.ref a4), (.ref o)])) _
    refine st35 _ ?_
    show Steps _ _ _ (T35.setTop (mkF m 40 #[.val (.ref o), .val (.ref st), .val (.ref a1), .val (.ref a2), .val (.ref a3), .val (.ref a4), .val (.ref a5)] [(.ref ro4), (.ref o)])) _
    refine st40 _ ?_
    refine XS.aloadN X40.here hx rfl (hb hby d_prog_6_1_43) rfl rfl ?_
    refine XS.aload X40.here hx rfl (hb hby d_prog_6_1_44) rfl rfl ?_
    show Steps _ _ _ (T40.setTop (mkF m 46 #[.val (.ref o), .val (.ref st), .val (.ref a1), .val (.ref a2), .val (.ref a3), .val (.ref a4), .val (.ref a5)] [(.ref a5), (.ref o)])) _
    refine st45 _ ?_
    show Steps _ _ _ (T45.setTop (mkF m 49 #[.val (.ref o), .val (.ref st), .val (.ref a1), .val (.ref a2), .val (.ref a3), .val (.ref a4), .val (.ref a5)] [(.ref ro5), (.ref o)])) _
    refine st50 _ ?_
    show Steps _ _ _ (T50.setTop (mkF m 52 #[.val (.ref o), .val (.ref st), .val (.ref a1), .val (.ref a2), .val (.ref a3), .val (.ref a4), .val (.ref a5)] [])) _
    exact X50.returnOut hx Bd.returns (hb hby d_prog_6_1_52) hr
  · show own_QIn Z EL EM o us ds qs h0 n0 _ T50.heap _
    rw [e50]
    exact ⟨rfl, N50, K53_, ro2, ro3, ro5, ⟨f54_, f55_, f56_, F50⟩, f57_, f58_, f59_⟩
theorem d_44_3_0 : decode jdk_44_method_3_code 0 = .ok (.aload_n 0, 1) := by decide +kernel
theorem d_44_3_1 : decode jdk_44_method_3_code 1 = .ok (.getfield 24, 3) := by decide +kernel
theorem d_44_3_4 : decode jdk_44_method_3_code 4 = .ok (.getstatic 19, 3) := by decide +kernel
theorem d_44_3_7 : decode jdk_44_method_3_code 7 = .ok (.if_acmp .eq 7, 3) := by decide +kernel
theorem d_44_3_14 : decode jdk_44_method_3_code 14 = .ok (.iconst 1, 1) := by decide +kernel
theorem d_44_3_15 : decode jdk_44_method_3_code 15 = .ok (.ireturn, 1) := by decide +kernel
theorem own_ef_sz1 (m : MethodId) (x0 : Addr) : entryFrame m #[(.ref x0)] 1 = mkF m 0 #[.val (.ref x0)] [] := by first | (simp [entryFrame, mkF, argsToLocals, Value.category]; done) | rfl
theorem own_sz1 (l : Launch) (Z : State) (a0 : Array Value) (hw : ∀ d ∈ tables_1, d.before a0 Z = true) (ws : List Jvm.Cond) {D IC EL EE EM MO b0 b1 : Addr} {cD cI cE : Cell} (G : own_G Z D IC EL EE EM MO b0 b1 cD cI cE) (r : Addr) (v0 : Value) (h0 : Heap) (n0 : Nat) (Z0 : n0 ≤ h0.size) (A : own_L12 Z h0 r v0 (.ref EM)) (O : Old Z n0 h0) :
    MetFree l (⟨"java/util/ImmutableCollections$List12", "size", "()I"⟩ : MethodName) (head1 (Jvm.Cond.code (⟨"java/util/ImmutableCollections$List12", "size", "()I"⟩ : MethodName) jdk_44_method_3_code 1 (some .int) :: ws) ({ frames := 0, cells := 0, slots := 0, locals := 0 } : Room)) (fun av U => av = #[(.ref r)] ∧ Z.Warmed39 U.vm ∧ U.heap = h0) (fun _ _ _ _ _ => True) (fun _ U oc U' => ∃ v L, oc = .returned v ∧ own_QV (.int 1) h0 n0 v U'.heap L ∧ FrameEnd U oc U' L ({ frames := 0, cells := 0, slots := 0, locals := 0 } : Room).cells ({ frames := 0, cells := 0, slots := 0, locals := 0 } : Room).slots) := by
  refine MetFree.of_bodySF (plainFor_of_name own_pn9) hisR ?_
  intro p e s m args below meth c s₁ Bd hml0 hP hK
  obtain ⟨rfl, hZ, hh⟩ := hP
  have hx := Bd.exec
  have hby := Bd.bytes
  have hml : c.maxLocals = 1 := hml0
  have hown : s.vm.findClass "java/util/ImmutableCollections$List12" = some m.cls := findClass_of_methodNamed Bd.named
  have hnm := (name_of_methodNamed Bd.named Bd.method).1
  have X0 : Stand p l e ({ frames := 0, cells := 0, slots := 0, locals := 0 } : Room) s m #[(.ref r)] below meth c s₁ [] 0 0 := Stand.of_body Bd
  have e0 : s₁.heap = h0 := by rw [← hh, Bd.state]; rfl
  have N0 := Fr.nil n0
  have pre0 : ∀ tt, Steps p.tables e below (s₁.setTop (mkF m 0 #[.val (.ref r)] [])) tt → Steps p.tables e below (s₁.setTop (entryFrame m #[(.ref r)] 1)) tt := fun tt k' => castTop (own_ef_sz1 m r) k'
  obtain ⟨T1, X1, e1, st1⟩ := getF X0 hx hZ hown (host := "") (Or.inl (ow hw 175 rfl)) Via.refl e0 A.2.2 (g := (mkF m 1 #[.val (.ref r)] [(.ref r)])) rfl rfl (hb hby d_44_3_1)
  obtain ⟨T2, X2, e2, st2⟩ := getS2 X1 hx hZ hown (Or.inr (ow hw 174 rfl)) Via.refl e1 (G.2.2.2.2.1.1.ext O.2) (g := (mkF m 4 #[.val (.ref r)] [(.ref EM)])) rfl (hb hby d_44_3_4)
  obtain ⟨fs, hr, hrun, hended, hW, hsame⟩ := X2.leave (v := some (.int 1)) (fun h => by rw [Bd.returns] at h; cases h)
  refine ⟨_, _, pre0 _ ?_, hrun, hended, _, _, rfl, ?_, ⟨_, rfl⟩, hW, hsame.mono (by decide) (by decide)⟩
  · show Steps _ _ _ (s₁.setTop (mkF m 0 #[.val (.ref r)] [])) _
    refine XS.aloadN X0.here hx rfl (hb hby d_44_3_0) rfl rfl ?_
    show Steps _ _ _ (s₁.setTop (mkF m 1 #[.val (.ref r)] [(.ref r)])) _
    refine st1 _ ?_
    show Steps _ _ _ (T1.setTop (mkF m 4 #[.val (.ref r)] [(.ref EM)])) _
    refine st2 _ ?_
    show Steps _ _ _ (T2.setTop (mkF m 7 #[.val (.ref r)] [(.ref EM), (.ref EM)])) _
    refine Jvm.RoadKit.acmp (g := (mkF m 7 #[.val (.ref r)] [(.ref EM), (.ref EM)])) X2 hx rfl rfl rfl (pc0 := 7) (pc' := 14) (same := true) rfl (hb hby d_44_3_7) rfl (decide_eq_true rfl) (by decide) (by decide) ?_
    refine XT.iconstV X2.here hx rfl 1 (hb hby d_44_3_14) rfl ?_
    show Steps _ _ _ (T2.setTop (mkF m 15 #[.val (.ref r)] [(.int 1)])) _
    exact retOut X2 hx Bd.returns rfl (Or.inl ⟨rfl, Or.inl rfl, _, rfl⟩) (hb hby d_44_3_15) hr
  · show own_QV (.int 1) h0 n0 _ T2.heap _
    rw [e2]
    exact ⟨rfl, N0, rfl⟩
theorem d_44_3_10 : decode jdk_44_method_3_code 10 = .ok (.iconst 2, 1) := by decide +kernel
theorem d_44_3_11 : decode jdk_44_method_3_code 11 = .ok (.goto 4, 3) := by decide +kernel
theorem own_ef_sz2 (m : MethodId) (x0 : Addr) : entryFrame m #[(.ref x0)] 1 = mkF m 0 #[.val (.ref x0)] [] := by first | (simp [entryFrame, mkF, argsToLocals, Value.category]; done) | rfl
theorem own_sz2 (l : Launch) (Z : State) (a0 : Array Value) (hw : ∀ d ∈ tables_1, d.before a0 Z = true) (ws : List Jvm.Cond) {D IC EL EE EM MO b0 b1 : Addr} {cD cI cE : Cell} (G : own_G Z D IC EL EE EM MO b0 b1 cD cI cE) (r : Addr) (v0 : Value) (y : Addr) (hE : y ≠ EM) (h0 : Heap) (n0 : Nat) (Z0 : n0 ≤ h0.size) (A : own_L12 Z h0 r v0 (.ref y)) (O : Old Z n0 h0) :
    MetFree l (⟨"java/util/ImmutableCollections$List12", "size", "()I"⟩ : MethodName) (head1 (Jvm.Cond.code (⟨"java/util/ImmutableCollections$List12", "size", "()I"⟩ : MethodName) jdk_44_method_3_code 1 (some .int) :: ws) ({ frames := 0, cells := 0, slots := 0, locals := 0 } : Room)) (fun av U => av = #[(.ref r)] ∧ Z.Warmed39 U.vm ∧ U.heap = h0) (fun _ _ _ _ _ => True) (fun _ U oc U' => ∃ v L, oc = .returned v ∧ own_QV (.int 2) h0 n0 v U'.heap L ∧ FrameEnd U oc U' L ({ frames := 0, cells := 0, slots := 0, locals := 0 } : Room).cells ({ frames := 0, cells := 0, slots := 0, locals := 0 } : Room).slots) := by
  refine MetFree.of_bodySF (plainFor_of_name own_pn9) hisR ?_
  intro p e s m args below meth c s₁ Bd hml0 hP hK
  obtain ⟨rfl, hZ, hh⟩ := hP
  have hx := Bd.exec
  have hby := Bd.bytes
  have hml : c.maxLocals = 1 := hml0
  have hown : s.vm.findClass "java/util/ImmutableCollections$List12" = some m.cls := findClass_of_methodNamed Bd.named
  have hnm := (name_of_methodNamed Bd.named Bd.method).1
  have X0 : Stand p l e ({ frames := 0, cells := 0, slots := 0, locals := 0 } : Room) s m #[(.ref r)] below meth c s₁ [] 0 0 := Stand.of_body Bd
  have e0 : s₁.heap = h0 := by rw [← hh, Bd.state]; rfl
  have N0 := Fr.nil n0
  have pre0 : ∀ tt, Steps p.tables e below (s₁.setTop (mkF m 0 #[.val (.ref r)] [])) tt → Steps p.tables e below (s₁.setTop (entryFrame m #[(.ref r)] 1)) tt := fun tt k' => castTop (own_ef_sz2 m r) k'
  obtain ⟨T1, X1, e1, st1⟩ := getF X0 hx hZ hown (host := "") (Or.inl (ow hw 175 rfl)) Via.refl e0 A.2.2 (g := (mkF m 1 #[.val (.ref r)] [(.ref r)])) rfl rfl (hb hby d_44_3_1)
  obtain ⟨T2, X2, e2, st2⟩ := getS2 X1 hx hZ hown (Or.inr (ow hw 174 rfl)) Via.refl e1 (G.2.2.2.2.1.1.ext O.2) (g := (mkF m 4 #[.val (.ref r)] [(.ref y)])) rfl (hb hby d_44_3_4)
  obtain ⟨fs, hr, hrun, hended, hW, hsame⟩ := X2.leave (v := some (.int 2)) (fun h => by rw [Bd.returns] at h; cases h)
  refine ⟨_, _, pre0 _ ?_, hrun, hended, _, _, rfl, ?_, ⟨_, rfl⟩, hW, hsame.mono (by decide) (by decide)⟩
  · show Steps _ _ _ (s₁.setTop (mkF m 0 #[.val (.ref r)] [])) _
    refine XS.aloadN X0.here hx rfl (hb hby d_44_3_0) rfl rfl ?_
    show Steps _ _ _ (s₁.setTop (mkF m 1 #[.val (.ref r)] [(.ref r)])) _
    refine st1 _ ?_
    show Steps _ _ _ (T1.setTop (mkF m 4 #[.val (.ref r)] [(.ref y)])) _
    refine st2 _ ?_
    show Steps _ _ _ (T2.setTop (mkF m 7 #[.val (.ref r)] [(.ref EM), (.ref y)])) _
    refine Jvm.RoadKit.acmp (g := (mkF m 7 #[.val (.ref r)] [(.ref EM), (.ref y)])) X2 hx rfl rfl rfl (pc0 := 7) (pc' := 10) (same := false) rfl (hb hby d_44_3_7) rfl (decide_eq_false fun q => hE (Value.ref.inj q)) (by decide) (by decide) ?_
    refine XT.iconstV X2.here hx rfl 2 (hb hby d_44_3_10) rfl ?_
    show Steps _ _ _ (T2.setTop (mkF m 11 #[.val (.ref r)] [(.int 2)])) _
    refine XS.goto X2.here hx rfl rfl (hb hby d_44_3_11) (show (0 : Int) ≤ ((11 : Nat) : Int) + (4) by decide) (show (((11 : Nat) : Int) + (4)).toNat = 15 by decide) ?_
    show Steps _ _ _ (T2.setTop (mkF m 15 #[.val (.ref r)] [(.int 2)])) _
    exact retOut X2 hx Bd.returns rfl (Or.inl ⟨rfl, Or.inl rfl, _, rfl⟩) (hb hby d_44_3_15) hr
  · show own_QV (.int 2) h0 n0 _ T2.heap _
    rw [e2]
    exact ⟨rfl, N0, rfl⟩
theorem own_szA (l : Launch) (Z : State) (a0 : Array Value) (hw : ∀ d ∈ tables_1, d.before a0 Z = true) (ws : List Jvm.Cond) {D IC EL EE EM MO b0 b1 : Addr} {cD cI cE : Cell} (G : own_G Z D IC EL EE EM MO b0 b1 cD cI cE) (r : Addr) (xs : List Addr) (n : Int32) (hn : (n = 1 ∧ xs.length = 1) ∨ (n = 2 ∧ xs.length = 2)) (h0 : Heap) (n0 : Nat) (Z0 : n0 ≤ h0.size) (A : own_IL Z EL EM h0 r xs) (O : Old Z n0 h0) :
    MetFree l (⟨"java/util/ImmutableCollections$List12", "size", "()I"⟩ : MethodName) (head1 (Jvm.Cond.code (⟨"java/util/ImmutableCollections$List12", "size", "()I"⟩ : MethodName) jdk_44_method_3_code 1 (some .int) :: ws) ({ frames := 0, cells := 0, slots := 0, locals := 0 } : Room)) (fun av U => av = #[(.ref r)] ∧ Z.Warmed39 U.vm ∧ U.heap = h0) (fun _ _ _ _ _ => True) (fun _ U oc U' => ∃ v L, oc = .returned v ∧ own_QV (.int n) h0 n0 v U'.heap L ∧ FrameEnd U oc U' L ({ frames := 0, cells := 0, slots := 0, locals := 0 } : Room).cells ({ frames := 0, cells := 0, slots := 0, locals := 0 } : Room).slots) := by
  match xs, A, hn with
  | [x], A, Or.inl ⟨e, _⟩ => subst e; exact own_sz1 l Z a0 hw ws G r _ h0 n0 Z0 A O
  | [x, y], A, Or.inr ⟨e, _⟩ => subst e; exact own_sz2 l Z a0 hw ws G r _ y A.2 h0 n0 Z0 A.1 O
  | [], _, Or.inl ⟨_, q⟩ => cases q
  | [], _, Or.inr ⟨_, q⟩ => cases q
  | [_], _, Or.inr ⟨_, q⟩ => cases q
  | _ :: _ :: _, _, Or.inl ⟨_, q⟩ => cases q
  | _ :: _ :: _ :: _, _, Or.inr ⟨_, q⟩ => cases q
theorem own_IL.exa12 {Z : State} {EL EM r : Addr} {h : Heap} {xs : List Addr} (A : own_IL Z EL EM h r xs) (hl : xs.length = 1 ∨ xs.length = 2) : Exa Z h r "java/util/ImmutableCollections$List12" := by
  match xs, A, hl with
  | [x], A, _ => exact A.1
  | [x, y], A, _ => exact A.1.1
  | [], _, Or.inl q => cases q
  | [], _, Or.inr q => cases q
  | _ :: _ :: _ :: _, _, Or.inl q => cases q
  | _ :: _ :: _ :: _, _, Or.inr q => cases q
theorem d_45_3_0 : decode jdk_45_method_3_code 0 = .ok (.aload_n 0, 1) := by decide +kernel
theorem d_45_3_1 : decode jdk_45_method_3_code 1 = .ok (.getfield 7, 3) := by decide +kernel
theorem d_45_3_4 : decode jdk_45_method_3_code 4 = .ok (.arraylength, 1) := by decide +kernel
theorem d_45_3_5 : decode jdk_45_method_3_code 5 = .ok (.ireturn, 1) := by decide +kernel
theorem own_ef_szN (m : MethodId) (x0 : Addr) : entryFrame m #[(.ref x0)] 1 = mkF m 0 #[.val (.ref x0)] [] := by first | (simp [entryFrame, mkF, argsToLocals, Value.category]; done) | rfl
theorem own_szN (l : Launch) (Z : State) (a0 : Array Value) (hw : ∀ d ∈ tables_1, d.before a0 Z = true) (ws : List Jvm.Cond) (r q : Addr) (cq : Cell) (ty : FieldType) (n : Int32) (S : cq.slots.size.toInt32 = n) (h0 : Heap) (n0 : Nat) (Z0 : n0 ≤ h0.size) (A : Fld Z h0 r "java/util/ImmutableCollections$ListN" "elements" "[Ljava/lang/Object;" (.ref q)) (B : Arr Z h0 q cq ty) :
    MetFree l (⟨"java/util/ImmutableCollections$ListN", "size", "()I"⟩ : MethodName) (head1 (Jvm.Cond.code (⟨"java/util/ImmutableCollections$ListN", "size", "()I"⟩ : MethodName) jdk_45_method_3_code 1 (some .int) :: ws) ({ frames := 0, cells := 0, slots := 0, locals := 0 } : Room)) (fun av U => av = #[(.ref r)] ∧ Z.Warmed39 U.vm ∧ U.heap = h0) (fun _ _ _ _ _ => True) (fun _ U oc U' => ∃ v L, oc = .returned v ∧ own_QV (.int n) h0 n0 v U'.heap L ∧ FrameEnd U oc U' L ({ frames := 0, cells := 0, slots := 0, locals := 0 } : Room).cells ({ frames := 0, cells := 0, slots := 0, locals := 0 } : Room).slots) := by
  refine MetFree.of_bodySF (plainFor_of_name own_pn10) hisR ?_
  intro p e s m args below meth c s₁ Bd hml0 hP hK
  obtain ⟨rfl, hZ, hh⟩ := hP
  have hx := Bd.exec
  have hby := Bd.bytes
  have hml : c.maxLocals = 1 := hml0
  have hown : s.vm.findClass "java/util/ImmutableCollections$ListN" = some m.cls := findClass_of_methodNamed Bd.named
  have hnm := (name_of_methodNamed Bd.named Bd.method).1
  have X0 : Stand p l e ({ frames := 0, cells := 0, slots := 0, locals := 0 } : Room) s m #[(.ref r)] below meth c s₁ [] 0 0 := Stand.of_body Bd
  have e0 : s₁.heap = h0 := by rw [← hh, Bd.state]; rfl
  have N0 := Fr.nil n0
  have pre0 : ∀ tt, Steps p.tables e below (s₁.setTop (mkF m 0 #[.val (.ref r)] [])) tt → Steps p.tables e below (s₁.setTop (entryFrame m #[(.ref r)] 1)) tt := fun tt k' => castTop (own_ef_szN m r) k'
  obtain ⟨T1, X1, e1, st1⟩ := getF X0 hx hZ hown (host := "") (Or.inl (ow hw 221 rfl)) Via.refl e0 A (g := (mkF m 1 #[.val (.ref r)] [(.ref r)])) rfl rfl (hb hby d_45_3_1)
  obtain ⟨fs, hr, hrun, hended, hW, hsame⟩ := X1.leave (v := some (.int n)) (fun h => by rw [Bd.returns] at h; cases h)
  refine ⟨_, _, pre0 _ ?_, hrun, hended, _, _, rfl, ?_, ⟨_, rfl⟩, hW, hsame.mono (by decide) (by decide)⟩
  · show Steps _ _ _ (s₁.setTop (mkF m 0 #[.val (.ref r)] [])) _
    refine XS.aloadN X0.here hx rfl (hb hby d_45_3_0) rfl rfl ?_
    show Steps _ _ _ (s₁.setTop (mkF m 1 #[.val (.ref r)] [(.ref r)])) _
    refine st1 _ ?_
    show Steps _ _ _ (T1.setTop (mkF m 4 #[.val (.ref r)] [(.ref q)])) _
    refine own_lenC (z := n) X1 hx hZ e1 B S (g := (mkF m 4 #[.val (.ref r)] [(.ref q)])) rfl rfl (hb hby d_45_3_4) _ ?_
    show Steps _ _ _ (T1.setTop (mkF m 5 #[.val (.ref r)] [(.int n)])) _
    exact retOut X1 hx Bd.returns rfl (Or.inl ⟨rfl, Or.inl rfl, _, rfl⟩) (hb hby d_45_3_5) hr
  · show own_QV (.int n) h0 n0 _ T1.heap _
    rw [e1]
    exact ⟨rfl, N0, rfl⟩
theorem own_pn14 : plainName "java/util/ImmutableCollections$ListItr" = true := by first | (simp [plainName, overriddenIn]; done) | decide +kernel
theorem d_53_1_0 : decode jdk_53_method_1_code 0 = .ok (.aload_n 0, 1) := by decide +kernel
theorem d_53_1_1 : decode jdk_53_method_1_code 1 = .ok (.invokespecial 1, 3) := by decide +kernel
theorem d_53_1_4 : decode jdk_53_method_1_code 4 = .ok (.aload_n 0, 1) := by decide +kernel
theorem d_53_1_5 : decode jdk_53_method_1_code 5 = .ok (.aload_n 1, 1) := by decide +kernel
theorem d_53_1_6 : decode jdk_53_method_1_code 6 = .ok (.putfield 7, 3) := by decide +kernel
theorem d_53_1_9 : decode jdk_53_method_1_code 9 = .ok (.aload_n 0, 1) := by decide +kernel
theorem d_53_1_10 : decode jdk_53_method_1_code 10 = .ok (.iload_n 2, 1) := by decide +kernel
theorem d_53_1_11 : decode jdk_53_method_1_code 11 = .ok (.putfield 13, 3) := by decide +kernel
theorem d_53_1_14 : decode jdk_53_method_1_code 14 = .ok (.aload_n 0, 1) := by decide +kernel
theorem d_53_1_15 : decode jdk_53_method_1_code 15 = .ok (.iconst 0, 1) := by decide +kernel
theorem d_53_1_16 : decode jdk_53_method_1_code 16 = .ok (.putfield 17, 3) := by decide +kernel
theorem d_53_1_19 : decode jdk_53_method_1_code 19 = .ok (.aload_n 0, 1) := by decide +kernel
theorem d_53_1_20 : decode jdk_53_method_1_code 20 = .ok (.iconst 0, 1) := by decide +kernel
theorem d_53_1_21 : decode jdk_53_method_1_code 21 = .ok (.putfield 20, 3) := by decide +kernel
theorem d_53_1_24 : decode jdk_53_method_1_code 24 = .ok (.return_, 1) := by decide +kernel
theorem own_ef_itI (m : MethodId) (x0 : Addr) (x1 : Addr) (x2 : Int32) : entryFrame m #[(.ref x0), (.ref x1), (.int x2)] 3 = mkF m 0 #[.val (.ref x0), .val (.ref x1), .val (.int x2)] [] := by first | (simp [entryFrame, mkF, argsToLocals, Value.category]; done) | rfl
theorem own_itI (l : Launch) (Z : State) (a0 : Array Value) (hw : ∀ d ∈ tables_1, d.before a0 Z = true) (ws : List Jvm.Cond) (t r : Addr) (n : Int32) (h0 : Heap) (n0 : Nat) (Z0 : n0 ≤ h0.size) (A : own_It0 Z h0 t) (gt : n0 ≤ t) :
    MetFree l (⟨"java/util/ImmutableCollections$ListItr", "<init>", "(Ljava/util/List;I)V"⟩ : MethodName) (head1 (Jvm.Cond.code (⟨"java/util/ImmutableCollections$ListItr", "<init>", "(Ljava/util/List;I)V"⟩ : MethodName) jdk_53_method_1_code 3 none :: ws) ({ frames := 1, cells := 0, slots := 0, locals := 12 } : Room)) (fun av U => av = #[(.ref t), (.ref r), (.int n)] ∧ Z.Warmed39 U.vm ∧ U.heap = h0) (fun _ _ _ _ _ => True) (fun _ U oc U' => ∃ v L, oc = .returned v ∧ own_QItI Z t r n h0 n0 v U'.heap L ∧ FrameEnd U oc U' L ({ frames := 1, cells := 0, slots := 0, locals := 12 } : Room).cells ({ frames := 1, cells := 0, slots := 0, locals := 12 } : Room).slots) := by
  refine MetFree.of_bodySF (plainFor_of_name own_pn14) hisR ?_
  intro p e s m args below meth c s₁ Bd hml0 hP hK
  obtain ⟨rfl, hZ, hh⟩ := hP
  have hx := Bd.exec
  have hby := Bd.bytes
  have hml : c.maxLocals = 3 := hml0
  have hown : s.vm.findClass "java/util/ImmutableCollections$ListItr" = some m.cls := findClass_of_methodNamed Bd.named
  have hnm := (name_of_methodNamed Bd.named Bd.method).1
  have X0 : Stand p l e ({ frames := 1, cells := 0, slots := 0, locals := 12 } : Room) s m #[(.ref t), (.ref r), (.int n)] below meth c s₁ [] 0 0 := Stand.of_body Bd
  have e0 : s₁.heap = h0 := by rw [← hh, Bd.state]; rfl
  have N0 := Fr.nil n0
  have pre0 : ∀ tt, Steps p.tables e below (s₁.setTop (mkF m 0 #[.val (.ref t), .val (.ref r), .val (.int n)] [])) tt → Steps p.tables e below (s₁.setTop (entryFrame m #[(.ref t), (.ref r), (.int n)] 3)) tt := fun tt k' => castTop (own_ef_itI m t r n) k'
  obtain ⟨T1, X1, e1, st1⟩ := initO X0 hx hZ hown (ow hw 227 rfl) (ow hw 19 rfl) (ow hw 20 rfl) e0 (g := (mkF m 1 #[.val (.ref t), .val (.ref r), .val (.int n)] [(.ref t)])) rfl (by rw [hml]; rfl) rfl (hb hby d_53_1_1) (by decide) (W := 0) (by show 2 * 0 + _ ≤ _; exact Nat.le_of_eq rfl) (by decide)
  obtain ⟨T2, h2, X2, e2, W2, st2⟩ := putF X1 hx hZ hown (host := "") (Or.inl (ow hw 228 rfl)) Via.refl e1 A.2.1 A.1 (Or.inr ⟨(ow hw 229 rfl), rfl, hnm⟩) (ow hw 212 rfl) (ty := (.object "java/util/List")) (by decide) rfl rfl (g := (mkF m 6 #[.val (.ref t), .val (.ref r), .val (.int n)] [(.ref r), (.ref t)])) rfl rfl (hb hby d_53_1_6)
  have N2 := Fr.snoc X2 N0 gt
  have K3_ := (Keep.refl h0 [t]).wr W2 (Or.inl (List.mem_of_getElem? (i := 0) rfl))
  have F2 := A.2.1.same W2
  have f5_ := (A.2.2.1.other W2 (Or.inr (slot_ne (Or.inr (ow hw 231 rfl)) (Or.inr (ow hw 229 rfl)) (by decide) (t := .int) (by decide) (t' := (.object "java/util/List")) (by decide))))
  have f6_ := (A.1.wr W2)
  obtain ⟨T4, h4, X4, e4, W4, st4⟩ := putF X2 hx hZ hown (host := "") (Or.inl (ow hw 230 rfl)) Via.refl e2 f5_ f6_ (Or.inr ⟨(ow hw 231 rfl), rfl, hnm⟩) (ow hw 212 rfl) (ty := .int) (by decide) rfl rfl (g := (mkF m 11 #[.val (.ref t), .val (.ref r), .val (.int n)] [(.int n), (.ref t)])) rfl rfl (hb hby d_53_1_11)
  have N4 := Fr.snoc X4 N2 gt
  have K7_ := K3_.wr W4 (Or.inl (List.mem_of_getElem? (i := 0) rfl))
  have F4 := f5_.same W4
  have f9_ := ((A.2.2.2.1.other W2 (Or.inr (slot_ne (Or.inl (ow hw 233 rfl)) (Or.inr (ow hw 229 rfl)) (by decide) (t := .int) (by decide) (t' := (.object "java/util/List")) (by decide)))).other W4 (Or.inr (slot_ne (Or.inl (ow hw 233 rfl)) (Or.inr (ow hw 231 rfl)) (by decide) (t := .int) (by decide) (t' := .int) (by decide))))
  have f10_ := (f6_.wr W4)
  obtain ⟨T8, h8, X8, e8, W8, st8⟩ := putF X4 hx hZ hown (host := "") (Or.inl (ow hw 232 rfl)) Via.refl e4 f9_ f10_ (Or.inl (ow hw 233 rfl)) (ow hw 212 rfl) (ty := .int) (by decide) rfl rfl (g := (mkF m 16 #[.val (.ref t), .val (.ref r), .val (.int n)] [(.int 0), (.ref t)])) rfl rfl (hb hby d_53_1_16)
  have N8 := Fr.snoc X8 N4 gt
  have K11_ := K7_.wr W8 (Or.inl (List.mem_of_getElem? (i := 0) rfl))
  have F8 := f9_.same W8
  have f13_ := (((A.2.2.2.2.other W2 (Or.inr (slot_ne (Or.inr (ow hw 235 rfl)) (Or.inr (ow hw 229 rfl)) (by decide) (t := .boolean) (by decide) (t' := (.object "java/util/List")) (by decide)))).other W4 (Or.inr (slot_ne (Or.inr (ow hw 235 rfl)) (Or.inr (ow hw 231 rfl)) (by decide) (t := .boolean) (by decide) (t' := .int) (by decide)))).other W8 (Or.inr (slot_ne (Or.inr (ow hw 235 rfl)) (Or.inl (ow hw 233 rfl)) (by decide) (t := .boolean) (by decide) (t' := .int) (by decide))))
  have f14_ := (f10_.wr W8)
  obtain ⟨T12, h12, X12, e12, W12, st12⟩ := putF X8 hx hZ hown (host := "") (Or.inl (ow hw 234 rfl)) Via.refl e8 f13_ f14_ (Or.inr ⟨(ow hw 235 rfl), rfl, hnm⟩) (ow hw 212 rfl) (ty := .boolean) (by decide) rfl rfl (g := (mkF m 21 #[.val (.ref t), .val (.ref r), .val (.int n)] [(.int 0), (.ref t)])) rfl rfl (hb hby d_53_1_21)
  have N12 := Fr.snoc X12 N8 gt
  have K15_ := K11_.wr W12 (Or.inl (List.mem_of_getElem? (i := 0) rfl))
  have F12 := f13_.same W12
  have f16_ := (f14_.wr W12)
  have f17_ := (((F2.other W4 (Or.inr (slot_ne (Or.inr (ow hw 229 rfl)) (Or.inr (ow hw 231 rfl)) (by decide) (t := (.object "java/util/List")) (by decide) (t' := .int) (by decide)))).other W8 (Or.inr (slot_ne (Or.inr (ow hw 229 rfl)) (Or.inl (ow hw 233 rfl)) (by decide) (t := (.object "java/util/List")) (by decide) (t' := .int) (by decide)))).other W12 (Or.inr (slot_ne (Or.inr (ow hw 229 rfl)) (Or.inr (ow hw 235 rfl)) (by decide) (t := (.object "java/util/List")) (by decide) (t' := .boolean) (by decide))))
  have f18_ := ((F4.other W8 (Or.inr (slot_ne (Or.inr (ow hw 231 rfl)) (Or.inl (ow hw 233 rfl)) (by decide) (t := .int) (by decide) (t' := .int) (by decide)))).other W12 (Or.inr (slot_ne (Or.inr (ow hw 231 rfl)) (Or.inr (ow hw 235 rfl)) (by decide) (t := .int) (by decide) (t' := .boolean) (by decide))))
  have f19_ := (F8.other W12 (Or.inr (slot_ne (Or.inl (ow hw 233 rfl)) (Or.inr (ow hw 235 rfl)) (by decide) (t := .int) (by decide) (t' := .boolean) (by decide))))
  obtain ⟨fs, hr, hrun, hended, hW, hsame⟩ := X12.leave (v := none) (fun _ => rfl)
  refine ⟨_, _, pre0 _ ?_, hrun, hended, _, _, rfl, ?_, ⟨_, rfl⟩, hW, hsame.mono (by decide) (by decide)⟩
  · show Steps _ _ _ (s₁.setTop (mkF m 0 #[.val (.ref t), .val (.ref r), .val (.int n)] [])) _
    refine XS.aloadN X0.here hx rfl (hb hby d_53_1_0) rfl rfl ?_
    show Steps _ _ _ (s₁.setTop (mkF m 1 #[.val (.ref t), .val (.ref r), .val (.int n)] [(.ref t)])) _
    refine st1 _ ?_
    refine XS.aloadN X1.here hx rfl (hb hby d_53_1_4) rfl rfl ?_
    refine XS.aloadN X1.here hx rfl (hb hby d_53_1_5) rfl rfl ?_
    show Steps _ _ _ (T1.setTop (mkF m 6 #[.val (.ref t), .val (.ref r), .val (.int n)] [(.ref r), (.ref t)])) _
    refine st2 _ ?_
    refine XS.aloadN X2.here hx rfl (hb hby d_53_1_9) rfl rfl ?_
    refine XS.iloadN X2.here hx rfl (hb hby d_53_1_10) rfl ?_
    show Steps _ _ _ (T2.setTop (mkF m 11 #[.val (.ref t), .val (.ref r), .val (.int n)] [(.int n), (.ref t)])) _
    refine st4 _ ?_
    refine XS.aloadN X4.here hx rfl (hb hby d_53_1_14) rfl rfl ?_
    refine XT.iconstV X4.here hx rfl 0 (hb hby d_53_1_15) rfl ?_
    show Steps _ _ _ (T4.setTop (mkF m 16 #[.val (.ref t), .val (.ref r), .val (.int n)] [(.int 0), (.ref t)])) _
    refine st8 _ ?_
    refine XS.aloadN X8.here hx rfl (hb hby d_53_1_19) rfl rfl ?_
    refine XT.iconstV X8.here hx rfl 0 (hb hby d_53_1_20) rfl ?_
    show Steps _ _ _ (T8.setTop (mkF m 21 #[.val (.ref t), .val (.ref r), .val (.int n)] [(.int 0), (.ref t)])) _
    refine st12 _ ?_
    show Steps _ _ _ (T12.setTop (mkF m 24 #[.val (.ref t), .val (.ref r), .val (.int n)] [])) _
    exact X12.returnOut hx Bd.returns (hb hby d_53_1_24) hr
  · show own_QItI Z t r n h0 n0 _ T12.heap _
    rw [e12]
    exact ⟨rfl, N12, K15_, f16_, f17_, f18_, f19_⟩
theorem own_pd15 : parseMethodDescriptor "()I" = some ⟨[], some .int⟩ := by decide +kernel
theorem own_pd16 : parseMethodDescriptor "(Ljava/util/List;I)V" = some ⟨[(.object "java/util/List"), .int], none⟩ := by decide +kernel
theorem d_46_10_0 : decode jdk_46_method_10_code 0 = .ok (.new 61, 3) := by decide +kernel
theorem d_46_10_3 : decode jdk_46_method_10_code 3 = .ok (.dup, 1) := by decide +kernel
theorem d_46_10_4 : decode jdk_46_method_10_code 4 = .ok (.aload_n 0, 1) := by decide +kernel
theorem d_46_10_5 : decode jdk_46_method_10_code 5 = .ok (.aload_n 0, 1) := by decide +kernel
theorem d_46_10_6 : decode jdk_46_method_10_code 6 = .ok (.invokevirtual 13, 3) := by decide +kernel
theorem d_46_10_9 : decode jdk_46_method_10_code 9 = .ok (.invokespecial 63, 3) := by decide +kernel
theorem d_46_10_12 : decode jdk_46_method_10_code 12 = .ok (.areturn, 1) := by decide +kernel
theorem own_ef_itr1 (m : MethodId) (x0 : Addr) : entryFrame m #[(.ref x0)] 1 = mkF m 0 #[.val (.ref x0)] [] := by first | (simp [entryFrame, mkF, argsToLocals, Value.category]; done) | rfl
theorem own_itr1 (l : Launch) (Z : State) (a0 : Array Value) (hw : ∀ d ∈ tables_1, d.before a0 Z = true) (ws : List Jvm.Cond) {D IC EL EE EM MO b0 b1 : Addr} {cD cI cE : Cell} (G : own_G Z D IC EL EE EM MO b0 b1 cD cI cE) (r : Addr) (v0 : Value) (h0 : Heap) (n0 : Nat) (Z0 : n0 ≤ h0.size) (A : own_L12 Z h0 r v0 (.ref EM)) (O : Old Z n0 h0) :
    MetFree l (⟨"java/util/ImmutableCollections$AbstractImmutableList", "iterator", "()Ljava/util/Iterator;"⟩ : MethodName) (head1 (Jvm.Cond.code (⟨"java/util/ImmutableCollections$AbstractImmutableList", "iterator", "()Ljava/util/Iterator;"⟩ : MethodName) jdk_46_method_10_code 1 (some (.object "java/util/Iterator")) :: ws) ({ frames := 2, cells := 1, slots := 4, locals := 27 } : Room)) (fun av U => av = #[(.ref r)] ∧ Z.Warmed39 U.vm ∧ U.heap = h0) (fun _ _ _ _ _ => True) (fun _ U oc U' => ∃ v L, oc = .returned v ∧ own_QItr Z r 1 h0 n0 v U'.heap L ∧ FrameEnd U oc U' L ({ frames := 2, cells := 1, slots := 4, locals := 27 } : Room).cells ({ frames := 2, cells := 1, slots := 4, locals := 27 } : Room).slots) := by
  refine MetFree.of_bodySF (plainFor_of_name own_pn8) hisR ?_
  intro p e s m args below meth c s₁ Bd hml0 hP hK
  obtain ⟨rfl, hZ, hh⟩ := hP
  have hx := Bd.exec
  have hby := Bd.bytes
  have hml : c.maxLocals = 1 := hml0
  have hown : s.vm.findClass "java/util/ImmutableCollections$AbstractImmutableList" = some m.cls := findClass_of_methodNamed Bd.named
  have hnm := (name_of_methodNamed Bd.named Bd.method).1
  have X0 : Stand p l e ({ frames := 2, cells := 1, slots := 4, locals := 27 } : Room) s m #[(.ref r)] below meth c s₁ [] 0 0 := Stand.of_body Bd
  have e0 : s₁.heap = h0 := by rw [← hh, Bd.state]; rfl
  have N0 := Fr.nil n0
  have pre0 : ∀ tt, Steps p.tables e below (s₁.setTop (mkF m 0 #[.val (.ref r)] [])) tt → Steps p.tables e below (s₁.setTop (entryFrame m #[(.ref r)] 1)) tt := fun tt k' => castTop (own_ef_itr1 m r) k'
  have ltr := A.1.lt
  obtain ⟨T1, h1, X1, e1, E1, A1, D1, -, st1⟩ := newO X0 hx hZ hown (ow hw 211 rfl) (ow hw 212 rfl) (ow hw 213 rfl) e0 (g := (mkF m 0 #[.val (.ref r)] [])) rfl (hb hby d_46_10_0) (by decide) (by decide)
  obtain ⟨t, go_t⟩ : ∃ z, z = h0.size := ⟨_, rfl⟩
  rw [← go_t] at A1 D1 st1
  have gh_t := (Nat.le_of_eq go_t.symm : h0.size ≤ t)
  have ge_t := Nat.le_trans Z0 gh_t
  have K2_ := (Keep.refl h0 []).ext E1
  have ne3_ := (Nat.ne_of_lt (Nat.lt_of_lt_of_le ltr (Nat.le_of_eq go_t.symm)) : r ≠ t)
  have A_t := (⟨A1, (D1 (Or.inr (ow hw 229 rfl)) (ty := (.object "java/util/List")) (by decide)), (D1 (Or.inr (ow hw 231 rfl)) (ty := .int) (by decide)), (D1 (Or.inl (ow hw 233 rfl)) (ty := .int) (by decide)), (D1 (Or.inr (ow hw 235 rfl)) (ty := .boolean) (by decide))⟩ : own_It0 Z h1 t)
  have f4_ := (A.1.ext E1)
  have f5_ := (A.2.1.ext E1)
  have f6_ := (A.2.2.ext E1)
  have f8_ := (O.ext E1)
  have Z9_ := (Nat.le_trans Z0 K2_.1)
  obtain ⟨cq7, kq7, q7a, q7b, q7c⟩ := isOf hZ e1 f4_
  obtain ⟨_, _, ⟨T7, L7, k7, n7⟩, -, X7, ⟨Lc7, hQ7, l7, y7, z7⟩, st7⟩ := X1.virtualBackUp hx (x := (⟨"java/util/ImmutableCollections$AbstractImmutableList", "size", "()I"⟩ : MethodName)) (y := (⟨"java/util/ImmutableCollections$List12", "size", "()I"⟩ : MethodName)) (owner := "java/util/AbstractCollection") hown (mvT hZ (ow hw 214 rfl)) (mvT hZ (ow hw 215 rfl)) (mvT hZ (ow hw 216 rfl)) (by decide) (mvT hZ (ow hw 268 rfl)) (mvT hZ (ow hw 194 rfl)) (backOf (W := 3) (own_sz1 l Z a0 hw [] G r v0 h1 n0 Z9_ ⟨f4_, f5_, f6_⟩ f8_) hZ (ow hw 198 rfl) (ow hw 149 rfl) (by decide) (by decide)) q7a q7c (g := (mkF m 6 #[.val (.ref r)] [(.ref r), (.ref r), (.ref t), (.ref t)])) rfl (by rw [hml]; rfl) (Steps.refl _) (argsL := []) (rest := [(.ref r), (.ref t), (.ref t)]) (lenOf own_pd15 rfl) rfl (by show 2 * 0 + _ ≤ _; exact Nat.le_of_eq rfl) (hb hby d_46_10_6) (fun _ _ => ⟨rfl, e1, (by decide : 1 + 0 ≤ _), (by decide : 4 + 0 ≤ _)⟩)
  dsimp only [Pt.U, Pt.locs, Pt.cells, Pt.slots] at X7 l7 y7 z7 st7 hQ7
  subst l7 y7 z7
  obtain ⟨rfl, N7, e7⟩ := hQ7
  have N10_ := Fr.app N0 N7
  obtain ⟨_, _, ⟨T11, L11, k11, n11⟩, -, X11, ⟨Lc11, hQ11, l11, y11, z11⟩, st11⟩ := X7.specialBack hx (y := (⟨"java/util/ImmutableCollections$ListItr", "<init>", "(Ljava/util/List;I)V"⟩ : MethodName)) rfl hown (mvT hZ (ow hw 223 rfl)) (mvT hZ (ow hw 224 rfl)) (mvT hZ (ow hw 226 rfl)) (by decide) (backOf (W := 1) (own_itI l Z a0 hw [] t r 1 h1 n0 Z9_ A_t ge_t) hZ (ow hw 226 rfl) (ow hw 213 rfl) (by decide) (by decide)) (g := (mkF m 9 #[.val (.ref r)] [(.int 1), (.ref r), (.ref t), (.ref t)])) rfl (by rw [hml]; rfl) (Steps.refl _) (a := t) (argsL := [(.ref r), (.int 1)]) (rest := [(.ref t)]) (lenOf own_pd16 rfl) rfl (by show 2 * 0 + _ ≤ _; exact Nat.le_of_eq rfl) (hb hby d_46_10_9) (fun _ _ => ⟨rfl, e7, (by decide : 1 + 0 ≤ _), (by decide : 4 + 0 ≤ _)⟩)
  dsimp only [Pt.U, Pt.locs, Pt.cells, Pt.slots] at X11 l11 y11 z11 st11 hQ11
  subst l11 y11 z11
  obtain ⟨h11, e11⟩ : ∃ z, T11.heap = z := ⟨_, rfl⟩
  rw [e11] at hQ11
  obtain ⟨rfl, N11, K11, A11⟩ := hQ11
  have N12_ := Fr.app N10_ N11
  have K13_ := K2_.trans K11 (allS (Or.inr gh_t) all0)
  obtain ⟨fs, hr, hrun, hended, hW, hsame⟩ := X11.leave (v := some (.ref t)) (fun h => by rw [Bd.returns] at h; cases h)
  refine ⟨_, _, pre0 _ ?_, hrun, hended, _, _, rfl, ?_, ⟨_, rfl⟩, hW, hsame.mono (by decide) (by decide)⟩
  · show Steps _ _ _ (s₁.setTop (mkF m 0 #[.val (.ref r)] [])) _
    refine st1 _ ?_
    refine XS.dup X1.here hx rfl (hb hby d_46_10_3) rfl rfl ?_
    refine XS.aloadN X1.here hx rfl (hb hby d_46_10_4) rfl rfl ?_
    refine XS.aloadN X1.here hx rfl (hb hby d_46_10_5) rfl rfl ?_
    show Steps _ _ _ (T1.setTop (mkF m 6 #[.val (.ref r)] [(.ref r), (.ref r), (.ref t), (.ref t)])) _
    refine st7.trans ?_
    show Steps _ _ _ (T7.setTop (mkF m 9 #[.val (.ref r)] [(.int 1), (.ref r), (.ref t), (.ref t)])) _
    refine st11.trans ?_
    show Steps _ _ _ (T11.setTop (mkF m 12 #[.val (.ref r)] [(.ref t)])) _
    exact retOut X11 hx Bd.returns rfl (Or.inr (Or.inr (Or.inr (Or.inr ⟨rfl, rfl, rfl⟩)))) (hb hby d_46_10_12) hr
  · show own_QItr Z r 1 h0 n0 _ T11.heap _
    rw [e11]
    exact ⟨t, rfl, N12_, K13_, gh_t, A11⟩
theorem own_ef_itr2 (m : MethodId) (x0 : Addr) : entryFrame m #[(.ref x0)] 1 = mkF m 0 #[.val (.ref x0)] [] := by first | (simp [entryFrame, mkF, argsToLocals, Value.category]; done) | rfl
theorem own_itr2 (l : Launch) (Z : State) (a0 : Array Value) (hw : ∀ d ∈ tables_1, d.before a0 Z = true) (ws : List Jvm.Cond) {D IC EL EE EM MO b0 b1 : Addr} {cD cI cE : Cell} (G : own_G Z D IC EL EE EM MO b0 b1 cD cI cE) (r : Addr) (v0 : Value) (y : Addr) (hE : y ≠ EM) (h0 : Heap) (n0 : Nat) (Z0 : n0 ≤ h0.size) (A : own_L12 Z h0 r v0 (.ref y)) (O : Old Z n0 h0) :
    MetFree l (⟨"java/util/ImmutableCollections$AbstractImmutableList", "iterator", "()Ljava/util/Iterator;"⟩ : MethodName) (head1 (Jvm.Cond.code (⟨"java/util/ImmutableCollections$AbstractImmutableList", "iterator", "()Ljava/util/Iterator;"⟩ : MethodName) jdk_46_method_10_code 1 (some (.object "java/util/Iterator")) :: ws) ({ frames := 2, cells := 1, slots := 4, locals := 27 } : Room)) (fun av U => av = #[(.ref r)] ∧ Z.Warmed39 U.vm ∧ U.heap = h0) (fun _ _ _ _ _ => True) (fun _ U oc U' => ∃ v L, oc = .returned v ∧ own_QItr Z r 2 h0 n0 v U'.heap L ∧ FrameEnd U oc U' L ({ frames := 2, cells := 1, slots := 4, locals := 27 } : Room).cells ({ frames := 2, cells := 1, slots := 4, locals := 27 } : Room).slots) := by
  refine MetFree.of_bodySF (plainFor_of_name own_pn8) hisR ?_
  intro p e s m args below meth c s₁ Bd hml0 hP hK
  obtain ⟨rfl, hZ, hh⟩ := hP
  have hx := Bd.exec
  have hby := Bd.bytes
  have hml : c.maxLocals = 1 := hml0
  have hown : s.vm.findClass "java/util/ImmutableCollections$AbstractImmutableList" = some m.cls := findClass_of_methodNamed Bd.named
  have hnm := (name_of_methodNamed Bd.named Bd.method).1
  have X0 : Stand p l e ({ frames := 2, cells := 1, slots := 4, locals := 27 } : Room) s m #[(.ref r)] below meth c s₁ [] 0 0 := Stand.of_body Bd
  have e0 : s₁.heap = h0 := by rw [← hh, Bd.state]; rfl
  have N0 := Fr.nil n0
  have pre0 : ∀ tt, Steps p.tables e below (s₁.setTop (mkF m 0 #[.val (.ref r)] [])) tt → Steps p.tables e below (s₁.setTop (entryFrame m #[(.ref r)] 1)) tt := fun tt k' => castTop (own_ef_itr2 m r) k'
  have ltr := A.1.lt
  obtain ⟨T1, h1, X1, e1, E1, A1, D1, -, st1⟩ := newO X0 hx hZ hown (ow hw 211 rfl) (ow hw 212 rfl) (ow hw 213 rfl) e0 (g := (mkF m 0 #[.val (.ref r)] [])) rfl (hb hby d_46_10_0) (by decide) (by decide)
  obtain ⟨t, go_t⟩ : ∃ z, z = h0.size := ⟨_, rfl⟩
  rw [← go_t] at A1 D1 st1
  have gh_t := (Nat.le_of_eq go_t.symm : h0.size ≤ t)
  have ge_t := Nat.le_trans Z0 gh_t
  have K2_ := (Keep.refl h0 []).ext E1
  have ne3_ := (Nat.ne_of_lt (Nat.lt_of_lt_of_le ltr (Nat.le_of_eq go_t.symm)) : r ≠ t)
  have A_t := (⟨A1, (D1 (Or.inr (ow hw 229 rfl)) (ty := (.object "java/util/List")) (by decide)), (D1 (Or.inr (ow hw 231 rfl)) (ty := .int) (by decide)), (D1 (Or.inl (ow hw 233 rfl)) (ty := .int) (by decide)), (D1 (Or.inr (ow hw 235 rfl)) (ty := .boolean) (by decide))⟩ : own_It0 Z h1 t)
  have f4_ := (A.1.ext E1)
  have f5_ := (A.2.1.ext E1)
  have f6_ := (A.2.2.ext E1)
  have f8_ := (O.ext E1)
  have Z9_ := (Nat.le_trans Z0 K2_.1)
  obtain ⟨cq7, kq7, q7a, q7b, q7c⟩ := isOf hZ e1 f4_
  obtain ⟨_, _, ⟨T7, L7, k7, n7⟩, -, X7, ⟨Lc7, hQ7, l7, y7, z7⟩, st7⟩ := X1.virtualBackUp hx (x := (⟨"java/util/ImmutableCollections$AbstractImmutableList", "size", "()I"⟩ : MethodName)) (y := (⟨"java/util/ImmutableCollections$List12", "size", "()I"⟩ : MethodName)) (owner := "java/util/AbstractCollection") hown (mvT hZ (ow hw 214 rfl)) (mvT hZ (ow hw 215 rfl)) (mvT hZ (ow hw 216 rfl)) (by decide) (mvT hZ (ow hw 268 rfl)) (mvT hZ (ow hw 194 rfl)) (backOf (W := 3) (own_sz2 l Z a0 hw [] G r v0 y hE h1 n0 Z9_ ⟨f4_, f5_, f6_⟩ f8_) hZ (ow hw 198 rfl) (ow hw 149 rfl) (by decide) (by decide)) q7a q7c (g := (mkF m 6 #[.val (.ref r)] [(.ref r), (.ref r), (.ref t), (.ref t)])) rfl (by rw [hml]; rfl) (Steps.refl _) (argsL := []) (rest := [(.ref r), (.ref t), (.ref t)]) (lenOf own_pd15 rfl) rfl (by show 2 * 0 + _ ≤ _; exact Nat.le_of_eq rfl) (hb hby d_46_10_6) (fun _ _ => ⟨rfl, e1, (by decide : 1 + 0 ≤ _), (by decide : 4 + 0 ≤ _)⟩)
  dsimp only [Pt.U, Pt.locs, Pt.cells, Pt.slots] at X7 l7 y7 z7 st7 hQ7
  subst l7 y7 z7
  obtain ⟨rfl, N7, e7⟩ := hQ7
  have N10_ := Fr.app N0 N7
  obtain ⟨_, _, ⟨T11, L11, k11, n11⟩, -, X11, ⟨Lc11, hQ11, l11, y11, z11⟩, st11⟩ := X7.specialBack hx (y := (⟨"java/util/ImmutableCollections$ListItr", "<init>", "(Ljava/util/List;I)V"⟩ : MethodName)) rfl hown (mvT hZ (ow hw 223 rfl)) (mvT hZ (ow hw 224 rfl)) (mvT hZ (ow hw 226 rfl)) (by decide) (backOf (W := 1) (own_itI l Z a0 hw [] t r 2 h1 n0 Z9_ A_t ge_t) hZ (ow hw 226 rfl) (ow hw 213 rfl) (by decide) (by decide)) (g := (mkF m 9 #[.val (.ref r)] [(.int 2), (.ref r), (.ref t), (.ref t)])) rfl (by rw [hml]; rfl) (Steps.refl _) (a := t) (argsL := [(.ref r), (.int 2)]) (rest := [(.ref t)]) (lenOf own_pd16 rfl) rfl (by show 2 * 0 + _ ≤ _; exact Nat.le_of_eq rfl) (hb hby d_46_10_9) (fun _ _ => ⟨rfl, e7, (by decide : 1 + 0 ≤ _), (by decide : 4 + 0 ≤ _)⟩)
  dsimp only [Pt.U, Pt.locs, Pt.cells, Pt.slots] at X11 l11 y11 z11 st11 hQ11
  subst l11 y11 z11
  obtain ⟨h11, e11⟩ : ∃ z, T11.heap = z := ⟨_, rfl⟩
  rw [e11] at hQ11
  obtain ⟨rfl, N11, K11, A11⟩ := hQ11
  have N12_ := Fr.app N10_ N11
  have K13_ := K2_.trans K11 (allS (Or.inr gh_t) all0)
  obtain ⟨fs, hr, hrun, hended, hW, hsame⟩ := X11.leave (v := some (.ref t)) (fun h => by rw [Bd.returns] at h; cases h)
  refine ⟨_, _, pre0 _ ?_, hrun, hended, _, _, rfl, ?_, ⟨_, rfl⟩, hW, hsame.mono (by decide) (by decide)⟩
  · show Steps _ _ _ (s₁.setTop (mkF m 0 #[.val (.ref r)] [])) _
    refine st1 _ ?_
    refine XS.dup X1.here hx rfl (hb hby d_46_10_3) rfl rfl ?_
    refine XS.aloadN X1.here hx rfl (hb hby d_46_10_4) rfl rfl ?_
    refine XS.aloadN X1.here hx rfl (hb hby d_46_10_5) rfl rfl ?_
    show Steps _ _ _ (T1.setTop (mkF m 6 #[.val (.ref r)] [(.ref r), (.ref r), (.ref t), (.ref t)])) _
    refine st7.trans ?_
    show Steps _ _ _ (T7.setTop (mkF m 9 #[.val (.ref r)] [(.int 2), (.ref r), (.ref t), (.ref t)])) _
    refine st11.trans ?_
    show Steps _ _ _ (T11.setTop (mkF m 12 #[.val (.ref r)] [(.ref t)])) _
    exact retOut X11 hx Bd.returns rfl (Or.inr (Or.inr (Or.inr (Or.inr ⟨rfl, rfl, rfl⟩)))) (hb hby d_46_10_12) hr
  · show own_QItr Z r 2 h0 n0 _ T11.heap _
    rw [e11]
    exact ⟨t, rfl, N12_, K13_, gh_t, A11⟩
theorem own_ef_itrN (m : MethodId) (x0 : Addr) : entryFrame m #[(.ref x0)] 1 = mkF m 0 #[.val (.ref x0)] [] := by first | (simp [entryFrame, mkF, argsToLocals, Value.category]; done) | rfl
theorem own_itrN (l : Launch) (Z : State) (a0 : Array Value) (hw : ∀ d ∈ tables_1, d.before a0 Z = true) (ws : List Jvm.Cond) {D IC EL EE EM MO b0 b1 : Addr} {cD cI cE : Cell} (G : own_G Z D IC EL EE EM MO b0 b1 cD cI cE) (r q : Addr) (cq : Cell) (ty : FieldType) (n : Int32) (S : cq.slots.size.toInt32 = n) (h0 : Heap) (n0 : Nat) (Z0 : n0 ≤ h0.size) (E : Exa Z h0 r "java/util/ImmutableCollections$ListN") (A : Fld Z h0 r "java/util/ImmutableCollections$ListN" "elements" "[Ljava/lang/Object;" (.ref q)) (B : Arr Z h0 q cq ty) (O : Old Z n0 h0) :
    MetFree l (⟨"java/util/ImmutableCollections$AbstractImmutableList", "iterator", "()Ljava/util/Iterator;"⟩ : MethodName) (head1 (Jvm.Cond.code (⟨"java/util/ImmutableCollections$AbstractImmutableList", "iterator", "()Ljava/util/Iterator;"⟩ : MethodName) jdk_46_method_10_code 1 (some (.object "java/util/Iterator")) :: ws) ({ frames := 2, cells := 1, slots := 4, locals := 27 } : Room)) (fun av U => av = #[(.ref r)] ∧ Z.Warmed39 U.vm ∧ U.heap = h0) (fun _ _ _ _ _ => True) (fun _ U oc U' => ∃ v L, oc = .returned v ∧ own_QItr Z r n h0 n0 v U'.heap L ∧ FrameEnd U oc U' L ({ frames := 2, cells := 1, slots := 4, locals := 27 } : Room).cells ({ frames := 2, cells := 1, slots := 4, locals := 27 } : Room).slots) := by
  refine MetFree.of_bodySF (plainFor_of_name own_pn8) hisR ?_
  intro p e s m args below meth c s₁ Bd hml0 hP hK
  obtain ⟨rfl, hZ, hh⟩ := hP
  have hx := Bd.exec
  have hby := Bd.bytes
  have hml : c.maxLocals = 1 := hml0
  have hown : s.vm.findClass "java/util/ImmutableCollections$AbstractImmutableList" = some m.cls := findClass_of_methodNamed Bd.named
  have hnm := (name_of_methodNamed Bd.named Bd.method).1
  have X0 : Stand p l e ({ frames := 2, cells := 1, slots := 4, locals := 27 } : Room) s m #[(.ref r)] below meth c s₁ [] 0 0 := Stand.of_body Bd
  have e0 : s₁.heap = h0 := by rw [← hh, Bd.state]; rfl
  have N0 := Fr.nil n0
  have pre0 : ∀ tt, Steps p.tables e below (s₁.setTop (mkF m 0 #[.val (.ref r)] [])) tt → Steps p.tables e below (s₁.setTop (entryFrame m #[(.ref r)] 1)) tt := fun tt k' => castTop (own_ef_itrN m r) k'
  have ltr := E.lt
  obtain ⟨T1, h1, X1, e1, E1, A1, D1, -, st1⟩ := newO X0 hx hZ hown (ow hw 211 rfl) (ow hw 212 rfl) (ow hw 213 rfl) e0 (g := (mkF m 0 #[.val (.ref r)] [])) rfl (hb hby d_46_10_0) (by decide) (by decide)
  obtain ⟨t, go_t⟩ : ∃ z, z = h0.size := ⟨_, rfl⟩
  rw [← go_t] at A1 D1 st1
  have gh_t := (Nat.le_of_eq go_t.symm : h0.size ≤ t)
  have ge_t := Nat.le_trans Z0 gh_t
  have K2_ := (Keep.refl h0 []).ext E1
  have ne3_ := (Nat.ne_of_lt (Nat.lt_of_lt_of_le ltr (Nat.le_of_eq go_t.symm)) : r ≠ t)
  have A_t := (⟨A1, (D1 (Or.inr (ow hw 229 rfl)) (ty := (.object "java/util/List")) (by decide)), (D1 (Or.inr (ow hw 231 rfl)) (ty := .int) (by decide)), (D1 (Or.inl (ow hw 233 rfl)) (ty := .int) (by decide)), (D1 (Or.inr (ow hw 235 rfl)) (ty := .boolean) (by decide))⟩ : own_It0 Z h1 t)
  have f4_ := (A.ext E1)
  have f5_ := (B.ext E1)
  have Z7_ := (Nat.le_trans Z0 K2_.1)
  have f8_ := (E.ext E1)
  obtain ⟨cq6, kq6, q6a, q6b, q6c⟩ := isOf hZ e1 f8_
  obtain ⟨_, _, ⟨T6, L6, k6, n6⟩, -, X6, ⟨Lc6, hQ6, l6, y6, z6⟩, st6⟩ := X1.virtualBackUp hx (x := (⟨"java/util/ImmutableCollections$AbstractImmutableList", "size", "()I"⟩ : MethodName)) (y := (⟨"java/util/ImmutableCollections$ListN", "size", "()I"⟩ : MethodName)) (owner := "java/util/AbstractCollection") hown (mvT hZ (ow hw 214 rfl)) (mvT hZ (ow hw 215 rfl)) (mvT hZ (ow hw 216 rfl)) (by decide) (mvT hZ (ow hw 217 rfl)) (mvT hZ (ow hw 218 rfl)) (backOf (W := 3) (own_szN l Z a0 hw [] r q cq ty n S h1 n0 Z7_ f4_ f5_) hZ (ow hw 220 rfl) (ow hw 219 rfl) (by decide) (by decide)) q6a q6c (g := (mkF m 6 #[.val (.ref r)] [(.ref r), (.ref r), (.ref t), (.ref t)])) rfl (by rw [hml]; rfl) (Steps.refl _) (argsL := []) (rest := [(.ref r), (.ref t), (.ref t)]) (lenOf own_pd15 rfl) rfl (by show 2 * 0 + _ ≤ _; exact Nat.le_of_eq rfl) (hb hby d_46_10_6) (fun _ _ => ⟨rfl, e1, (by decide : 1 + 0 ≤ _), (by decide : 4 + 0 ≤ _)⟩)
  dsimp only [Pt.U, Pt.locs, Pt.cells, Pt.slots] at X6 l6 y6 z6 st6 hQ6
  subst l6 y6 z6
  obtain ⟨rfl, N6, e6⟩ := hQ6
  have N9_ := Fr.app N0 N6
  obtain ⟨_, _, ⟨T10, L10, k10, n10⟩, -, X10, ⟨Lc10, hQ10, l10, y10, z10⟩, st10⟩ := X6.specialBack hx (y := (⟨"java/util/ImmutableCollections$ListItr", "<init>", "(Ljava/util/List;I)V"⟩ : MethodName)) rfl hown (mvT hZ (ow hw 223 rfl)) (mvT hZ (ow hw 224 rfl)) (mvT hZ (ow hw 226 rfl)) (by decide) (backOf (W := 1) (own_itI l Z a0 hw [] t r n h1 n0 Z7_ A_t ge_t) hZ (ow hw 226 rfl) (ow hw 213 rfl) (by decide) (by decide)) (g := (mkF m 9 #[.val (.ref r)] [(.int n), (.ref r), (.ref t), (.ref t)])) rfl (by rw [hml]; rfl) (Steps.refl _) (a := t) (argsL := [(.ref r), (.int n)]) (rest := [(.ref t)]) (lenOf own_pd16 rfl) rfl (by show 2 * 0 + _ ≤ _; exact Nat.le_of_eq rfl) (hb hby d_46_10_9) (fun _ _ => ⟨rfl, e6, (by decide : 1 + 0 ≤ _), (by decide : 4 + 0 ≤ _)⟩)
  dsimp only [Pt.U, Pt.locs, Pt.cells, Pt.slots] at X10 l10 y10 z10 st10 hQ10
  subst l10 y10 z10
  obtain ⟨h10, e10⟩ : ∃ z, T10.heap = z := ⟨_, rfl⟩
  rw [e10] at hQ10
  obtain ⟨rfl, N10, K10, A10⟩ := hQ10
  have N11_ := Fr.app N9_ N10
  have K12_ := K2_.trans K10 (allS (Or.inr gh_t) all0)
  obtain ⟨fs, hr, hrun, hended, hW, hsame⟩ := X10.leave (v := some (.ref t)) (fun h => by rw [Bd.returns] at h; cases h)
  refine ⟨_, _, pre0 _ ?_, hrun, hended, _, _, rfl, ?_, ⟨_, rfl⟩, hW, hsame.mono (by decide) (by decide)⟩
  · show Steps _ _ _ (s₁.setTop (mkF m 0 #[.val (.ref r)] [])) _
    refine st1 _ ?_
    refine XS.dup X1.here hx rfl (hb hby d_46_10_3) rfl rfl ?_
    refine XS.aloadN X1.here hx rfl (hb hby d_46_10_4) rfl rfl ?_
    refine XS.aloadN X1.here hx rfl (hb hby d_46_10_5) rfl rfl ?_
    show Steps _ _ _ (T1.setTop (mkF m 6 #[.val (.ref r)] [(.ref r), (.ref r), (.ref t), (.ref t)])) _
    refine st6.trans ?_
    show Steps _ _ _ (T6.setTop (mkF m 9 #[.val (.ref r)] [(.int n), (.ref r), (.ref t), (.ref t)])) _
    refine st10.trans ?_
    show Steps _ _ _ (T10.setTop (mkF m 12 #[.val (.ref r)] [(.ref t)])) _
    exact retOut X10 hx Bd.returns rfl (Or.inr (Or.inr (Or.inr (Or.inr ⟨rfl, rfl, rfl⟩)))) (hb hby d_46_10_12) hr
  · show own_QItr Z r n h0 n0 _ T10.heap _
    rw [e10]
    exact ⟨t, rfl, N11_, K12_, gh_t, A10⟩
theorem d_53_3_0 : decode jdk_53_method_3_code 0 = .ok (.aload_n 0, 1) := by decide +kernel
theorem d_53_3_1 : decode jdk_53_method_3_code 1 = .ok (.getfield 17, 3) := by decide +kernel
theorem d_53_3_4 : decode jdk_53_method_3_code 4 = .ok (.aload_n 0, 1) := by decide +kernel
theorem d_53_3_5 : decode jdk_53_method_3_code 5 = .ok (.getfield 13, 3) := by decide +kernel
theorem d_53_3_8 : decode jdk_53_method_3_code 8 = .ok (.if_icmp .eq 7, 3) := by decide +kernel
theorem d_53_3_11 : decode jdk_53_method_3_code 11 = .ok (.iconst 1, 1) := by decide +kernel
theorem d_53_3_12 : decode jdk_53_method_3_code 12 = .ok (.goto 4, 3) := by decide +kernel
theorem d_53_3_16 : decode jdk_53_method_3_code 16 = .ok (.ireturn, 1) := by decide +kernel
theorem own_ef_hnY (m : MethodId) (x0 : Addr) : entryFrame m #[(.ref x0)] 1 = mkF m 0 #[.val (.ref x0)] [] := by first | (simp [entryFrame, mkF, argsToLocals, Value.category]; done) | rfl
theorem own_hnY (l : Launch) (Z : State) (a0 : Array Value) (hw : ∀ d ∈ tables_1, d.before a0 Z = true) (ws : List Jvm.Cond) (t r : Addr) (n k : Int32) (hk : ¬ k = n) (h0 : Heap) (n0 : Nat) (Z0 : n0 ≤ h0.size) (A : own_It Z h0 t r n k) :
    MetFree l (⟨"java/util/ImmutableCollections$ListItr", "hasNext", "()Z"⟩ : MethodName) (head1 (Jvm.Cond.code (⟨"java/util/ImmutableCollections$ListItr", "hasNext", "()Z"⟩ : MethodName) jdk_53_method_3_code 1 (some .boolean) :: ws) ({ frames := 0, cells := 0, slots := 0, locals := 0 } : Room)) (fun av U => av = #[(.ref t)] ∧ Z.Warmed39 U.vm ∧ U.heap = h0) (fun _ _ _ _ _ => True) (fun _ U oc U' => ∃ v L, oc = .returned v ∧ own_QV (.int 1) h0 n0 v U'.heap L ∧ FrameEnd U oc U' L ({ frames := 0, cells := 0, slots := 0, locals := 0 } : Room).cells ({ frames := 0, cells := 0, slots := 0, locals := 0 } : Room).slots) := by
  refine MetFree.of_bodySF (plainFor_of_name own_pn14) hisR ?_
  intro p e s m args below meth c s₁ Bd hml0 hP hK
  obtain ⟨rfl, hZ, hh⟩ := hP
  have hx := Bd.exec
  have hby := Bd.bytes
  have hml : c.maxLocals = 1 := hml0
  have hown : s.vm.findClass "java/util/ImmutableCollections$ListItr" = some m.cls := findClass_of_methodNamed Bd.named
  have hnm := (name_of_methodNamed Bd.named Bd.method).1
  have X0 : Stand p l e ({ frames := 0, cells := 0, slots := 0, locals := 0 } : Room) s m #[(.ref t)] below meth c s₁ [] 0 0 := Stand.of_body Bd
  have e0 : s₁.heap = h0 := by rw [← hh, Bd.state]; rfl
  have N0 := Fr.nil n0
  have pre0 : ∀ tt, Steps p.tables e below (s₁.setTop (mkF m 0 #[.val (.ref t)] [])) tt → Steps p.tables e below (s₁.setTop (entryFrame m #[(.ref t)] 1)) tt := fun tt k' => castTop (own_ef_hnY m t) k'
  obtain ⟨T1, X1, e1, st1⟩ := getF X0 hx hZ hown (host := "") (Or.inl (ow hw 232 rfl)) Via.refl e0 A.2.2.2 (g := (mkF m 1 #[.val (.ref t)] [(.ref t)])) rfl rfl (hb hby d_53_3_1)
  obtain ⟨T2, X2, e2, st2⟩ := getF X1 hx hZ hown (host := "") (Or.inl (ow hw 230 rfl)) Via.refl e1 A.2.2.1 (g := (mkF m 5 #[.val (.ref t)] [(.ref t), (.int k)])) rfl rfl (hb hby d_53_3_5)
  obtain ⟨fs, hr, hrun, hended, hW, hsame⟩ := X2.leave (v := some (.int 1)) (fun h => by rw [Bd.returns] at h; cases h)
  refine ⟨_, _, pre0 _ ?_, hrun, hended, _, _, rfl, ?_, ⟨_, rfl⟩, hW, hsame.mono (by decide) (by decide)⟩
  · show Steps _ _ _ (s₁.setTop (mkF m 0 #[.val (.ref t)] [])) _
    refine XS.aloadN X0.here hx rfl (hb hby d_53_3_0) rfl rfl ?_
    show Steps _ _ _ (s₁.setTop (mkF m 1 #[.val (.ref t)] [(.ref t)])) _
    refine st1 _ ?_
    refine XS.aloadN X1.here hx rfl (hb hby d_53_3_4) rfl rfl ?_
    show Steps _ _ _ (T1.setTop (mkF m 5 #[.val (.ref t)] [(.ref t), (.int k)])) _
    refine st2 _ ?_
    show Steps _ _ _ (T2.setTop (mkF m 8 #[.val (.ref t)] [(.int n), (.int k)])) _
    refine XS.icmpNo X2.here hx rfl (hb hby d_53_3_8) rfl (XT.ii_eq_f hk) ?_
    refine XT.iconstV X2.here hx rfl 1 (hb hby d_53_3_11) rfl ?_
    show Steps _ _ _ (T2.setTop (mkF m 12 #[.val (.ref t)] [(.int 1)])) _
    refine XS.goto X2.here hx rfl rfl (hb hby d_53_3_12) (show (0 : Int) ≤ ((12 : Nat) : Int) + (4) by decide) (show (((12 : Nat) : Int) + (4)).toNat = 16 by decide) ?_
    show Steps _ _ _ (T2.setTop (mkF m 16 #[.val (.ref t)] [(.int 1)])) _
    exact retOut X2 hx Bd.returns rfl (Or.inl ⟨rfl, Or.inr (Or.inl rfl), _, rfl⟩) (hb hby d_53_3_16) hr
  · show own_QV (.int 1) h0 n0 _ T2.heap _
    rw [e2]
    exact ⟨rfl, N0, rfl⟩
theorem d_53_3_15 : decode jdk_53_method_3_code 15 = .ok (.iconst 0, 1) := by decide +kernel
theorem own_ef_hnN (m : MethodId) (x0 : Addr) : entryFrame m #[(.ref x0)] 1 = mkF m 0 #[.val (.ref x0)] [] := by first | (simp [entryFrame, mkF, argsToLocals, Value.category]; done) | rfl
theorem own_hnN (l : Launch) (Z : State) (a0 : Array Value) (hw : ∀ d ∈ tables_1, d.before a0 Z = true) (ws : List Jvm.Cond) (t r : Addr) (n k : Int32) (hk : k = n) (h0 : Heap) (n0 : Nat) (Z0 : n0 ≤ h0.size) (A : own_It Z h0 t r n k) :
    MetFree l (⟨"java/util/ImmutableCollections$ListItr", "hasNext", "()Z"⟩ : MethodName) (head1 (Jvm.Cond.code (⟨"java/util/ImmutableCollections$ListItr", "hasNext", "()Z"⟩ : MethodName) jdk_53_method_3_code 1 (some .boolean) :: ws) ({ frames := 0, cells := 0, slots := 0, locals := 0 } : Room)) (fun av U => av = #[(.ref t)] ∧ Z.Warmed39 U.vm ∧ U.heap = h0) (fun _ _ _ _ _ => True) (fun _ U oc U' => ∃ v L, oc = .returned v ∧ own_QV (.int 0) h0 n0 v U'.heap L ∧ FrameEnd U oc U' L ({ frames := 0, cells := 0, slots := 0, locals := 0 } : Room).cells ({ frames := 0, cells := 0, slots := 0, locals := 0 } : Room).slots) := by
  refine MetFree.of_bodySF (plainFor_of_name own_pn14) hisR ?_
  intro p e s m args below meth c s₁ Bd hml0 hP hK
  obtain ⟨rfl, hZ, hh⟩ := hP
  have hx := Bd.exec
  have hby := Bd.bytes
  have hml : c.maxLocals = 1 := hml0
  have hown : s.vm.findClass "java/util/ImmutableCollections$ListItr" = some m.cls := findClass_of_methodNamed Bd.named
  have hnm := (name_of_methodNamed Bd.named Bd.method).1
  have X0 : Stand p l e ({ frames := 0, cells := 0, slots := 0, locals := 0 } : Room) s m #[(.ref t)] below meth c s₁ [] 0 0 := Stand.of_body Bd
  have e0 : s₁.heap = h0 := by rw [← hh, Bd.state]; rfl
  have N0 := Fr.nil n0
  have pre0 : ∀ tt, Steps p.tables e below (s₁.setTop (mkF m 0 #[.val (.ref t)] [])) tt → Steps p.tables e below (s₁.setTop (entryFrame m #[(.ref t)] 1)) tt := fun tt k' => castTop (own_ef_hnN m t) k'
  obtain ⟨T1, X1, e1, st1⟩ := getF X0 hx hZ hown (host := "") (Or.inl (ow hw 232 rfl)) Via.refl e0 A.2.2.2 (g := (mkF m 1 #[.val (.ref t)] [(.ref t)])) rfl rfl (hb hby d_53_3_1)
  obtain ⟨T2, X2, e2, st2⟩ := getF X1 hx hZ hown (host := "") (Or.inl (ow hw 230 rfl)) Via.refl e1 A.2.2.1 (g := (mkF m 5 #[.val (.ref t)] [(.ref t), (.int k)])) rfl rfl (hb hby d_53_3_5)
  obtain ⟨fs, hr, hrun, hended, hW, hsame⟩ := X2.leave (v := some (.int 0)) (fun h => by rw [Bd.returns] at h; cases h)
  refine ⟨_, _, pre0 _ ?_, hrun, hended, _, _, rfl, ?_, ⟨_, rfl⟩, hW, hsame.mono (by decide) (by decide)⟩
  · show Steps _ _ _ (s₁.setTop (mkF m 0 #[.val (.ref t)] [])) _
    refine XS.aloadN X0.here hx rfl (hb hby d_53_3_0) rfl rfl ?_
    show Steps _ _ _ (s₁.setTop (mkF m 1 #[.val (.ref t)] [(.ref t)])) _
    refine st1 _ ?_
    refine XS.aloadN X1.here hx rfl (hb hby d_53_3_4) rfl rfl ?_
    show Steps _ _ _ (T1.setTop (mkF m 5 #[.val (.ref t)] [(.ref t), (.int k)])) _
    refine st2 _ ?_
    show Steps _ _ _ (T2.setTop (mkF m 8 #[.val (.ref t)] [(.int n), (.int k)])) _
    refine XS.icmpYes X2.here hx rfl rfl (hb hby d_53_3_8) rfl (XT.ii_eq_t hk) (show (0 : Int) ≤ ((8 : Nat) : Int) + (7) by decide) (show (((8 : Nat) : Int) + (7)).toNat = 15 by decide) ?_
    refine XT.iconstV X2.here hx rfl 0 (hb hby d_53_3_15) rfl ?_
    show Steps _ _ _ (T2.setTop (mkF m 16 #[.val (.ref t)] [(.int 0)])) _
    exact retOut X2 hx Bd.returns rfl (Or.inl ⟨rfl, Or.inr (Or.inl rfl), _, rfl⟩) (hb hby d_53_3_16) hr
  · show own_QV (.int 0) h0 n0 _ T2.heap _
    rw [e2]
    exact ⟨rfl, N0, rfl⟩
theorem d_44_5_0 : decode jdk_44_method_5_code 0 = .ok (.iload_n 1, 1) := by decide +kernel
theorem d_44_5_1 : decode jdk_44_method_5_code 1 = .ok (.ifCond .ne 8, 3) := by decide +kernel
theorem d_44_5_4 : decode jdk_44_method_5_code 4 = .ok (.aload_n 0, 1) := by decide +kernel
theorem d_44_5_5 : decode jdk_44_method_5_code 5 = .ok (.getfield 13, 3) := by decide +kernel
theorem d_44_5_8 : decode jdk_44_method_5_code 8 = .ok (.areturn, 1) := by decide +kernel
theorem own_ef_g12_0 (m : MethodId) (x0 : Addr) (x1 : Int32) : entryFrame m #[(.ref x0), (.int x1)] 2 = mkF m 0 #[.val (.ref x0), .val (.int x1)] [] := by first | (simp [entryFrame, mkF, argsToLocals, Value.category]; done) | rfl
theorem own_g12_0 (l : Launch) (Z : State) (a0 : Array Value) (hw : ∀ d ∈ tables_1, d.before a0 Z = true) (ws : List Jvm.Cond) {D IC EL EE EM MO b0 b1 : Addr} {cD cI cE : Cell} (G : own_G Z D IC EL EE EM MO b0 b1 cD cI cE) (r y : Addr) (v1 : Value) (h0 : Heap) (n0 : Nat) (Z0 : n0 ≤ h0.size) (A : own_L12 Z h0 r (.ref y) v1) (O : Old Z n0 h0) :
    MetFree l (⟨"java/util/ImmutableCollections$List12", "get", "(I)Ljava/lang/Object;"⟩ : MethodName) (head1 (Jvm.Cond.code (⟨"java/util/ImmutableCollections$List12", "get", "(I)Ljava/lang/Object;"⟩ : MethodName) jdk_44_method_5_code 2 (some (.object "java/lang/Object")) :: ws) ({ frames := 0, cells := 0, slots := 0, locals := 0 } : Room)) (fun av U => av = #[(.ref r), (.int 0)] ∧ Z.Warmed39 U.vm ∧ U.heap = h0) (fun _ _ _ _ _ => True) (fun _ U oc U' => ∃ v L, oc = .returned v ∧ own_QV (.ref y) h0 n0 v U'.heap L ∧ FrameEnd U oc U' L ({ frames := 0, cells := 0, slots := 0, locals := 0 } : Room).cells ({ frames := 0, cells := 0, slots := 0, locals := 0 } : Room).slots) := by
  refine MetFree.of_bodySF (plainFor_of_name own_pn9) hisR ?_
  intro p e s m args below meth c s₁ Bd hml0 hP hK
  obtain ⟨rfl, hZ, hh⟩ := hP
  have hx := Bd.exec
  have hby := Bd.bytes
  have hml : c.maxLocals = 2 := hml0
  have hown : s.vm.findClass "java/util/ImmutableCollections$List12" = some m.cls := findClass_of_methodNamed Bd.named
  have hnm := (name_of_methodNamed Bd.named Bd.method).1
  have X0 : Stand p l e ({ frames := 0, cells := 0, slots := 0, locals := 0 } : Room) s m #[(.ref r), (.int 0)] below meth c s₁ [] 0 0 := Stand.of_body Bd
  have e0 : s₁.heap = h0 := by rw [← hh, Bd.state]; rfl
  have N0 := Fr.nil n0
  have pre0 : ∀ tt, Steps p.tables e below (s₁.setTop (mkF m 0 #[.val (.ref r), .val (.int 0)] [])) tt → Steps p.tables e below (s₁.setTop (entryFrame m #[(.ref r), (.int 0)] 2)) tt := fun tt k' => castTop (own_ef_g12_0 m r 0) k'
  obtain ⟨T1, X1, e1, st1⟩ := getF X0 hx hZ hown (host := "") (Or.inl (ow hw 172 rfl)) Via.refl e0 A.2.1 (g := (mkF m 5 #[.val (.ref r), .val (.int 0)] [(.ref r)])) rfl rfl (hb hby d_44_5_5)
  obtain ⟨fs, hr, hrun, hended, hW, hsame⟩ := X1.leave (v := some (.ref y)) (fun h => by rw [Bd.returns] at h; cases h)
  refine ⟨_, _, pre0 _ ?_, hrun, hended, _, _, rfl, ?_, ⟨_, rfl⟩, hW, hsame.mono (by decide) (by decide)⟩
  · show Steps _ _ _ (s₁.setTop (mkF m 0 #[.val (.ref r), .val (.int 0)] [])) _
    refine XS.iloadN X0.here hx rfl (hb hby d_44_5_0) rfl ?_
    show Steps _ _ _ (s₁.setTop (mkF m 1 #[.val (.ref r), .val (.int 0)] [(.int 0)])) _
    refine XS.ifNo X0.here hx rfl (hb hby d_44_5_1) rfl (by decide) ?_
    refine XS.aloadN X0.here hx rfl (hb hby d_44_5_4) rfl rfl ?_
    show Steps _ _ _ (s₁.setTop (mkF m 5 #[.val (.ref r), .val (.int 0)] [(.ref r)])) _
    refine st1 _ ?_
    show Steps _ _ _ (T1.setTop (mkF m 8 #[.val (.ref r), .val (.int 0)] [(.ref y)])) _
    exact retOut X1 hx Bd.returns rfl (Or.inr (Or.inr (Or.inr (Or.inr ⟨rfl, rfl, rfl⟩)))) (hb hby d_44_5_8) hr
  · show own_QV (.ref y) h0 n0 _ T1.heap _
    rw [e1]
    exact ⟨rfl, N0, rfl⟩
theorem d_44_5_9 : decode jdk_44_method_5_code 9 = .ok (.iload_n 1, 1) := by decide +kernel
theorem d_44_5_10 : decode jdk_44_method_5_code 10 = .ok (.iconst 1, 1) := by decide +kernel
theorem d_44_5_11 : decode jdk_44_method_5_code 11 = .ok (.if_icmp .ne 18, 3) := by decide +kernel
theorem d_44_5_14 : decode jdk_44_method_5_code 14 = .ok (.aload_n 0, 1) := by decide +kernel
theorem d_44_5_15 : decode jdk_44_method_5_code 15 = .ok (.getfield 24, 3) := by decide +kernel
theorem d_44_5_18 : decode jdk_44_method_5_code 18 = .ok (.getstatic 19, 3) := by decide +kernel
theorem d_44_5_21 : decode jdk_44_method_5_code 21 = .ok (.if_acmp .eq 8, 3) := by decide +kernel
theorem d_44_5_24 : decode jdk_44_method_5_code 24 = .ok (.aload_n 0, 1) := by decide +kernel
theorem d_44_5_25 : decode jdk_44_method_5_code 25 = .ok (.getfield 24, 3) := by decide +kernel
theorem d_44_5_28 : decode jdk_44_method_5_code 28 = .ok (.areturn, 1) := by decide +kernel
theorem own_ef_g12_1 (m : MethodId) (x0 : Addr) (x1 : Int32) : entryFrame m #[(.ref x0), (.int x1)] 2 = mkF m 0 #[.val (.ref x0), .val (.int x1)] [] := by first | (simp [entryFrame, mkF, argsToLocals, Value.category]; done) | rfl
theorem own_g12_1 (l : Launch) (Z : State) (a0 : Array Value) (hw : ∀ d ∈ tables_1, d.before a0 Z = true) (ws : List Jvm.Cond) {D IC EL EE EM MO b0 b1 : Addr} {cD cI cE : Cell} (G : own_G Z D IC EL EE EM MO b0 b1 cD cI cE) (r y : Addr) (v0 : Value) (hE : y ≠ EM) (h0 : Heap) (n0 : Nat) (Z0 : n0 ≤ h0.size) (A : own_L12 Z h0 r v0 (.ref y)) (O : Old Z n0 h0) :
    MetFree l (⟨"java/util/ImmutableCollections$List12", "get", "(I)Ljava/lang/Object;"⟩ : MethodName) (head1 (Jvm.Cond.code (⟨"java/util/ImmutableCollections$List12", "get", "(I)Ljava/lang/Object;"⟩ : MethodName) jdk_44_method_5_code 2 (some (.object "java/lang/Object")) :: ws) ({ frames := 0, cells := 0, slots := 0, locals := 0 } : Room)) (fun av U => av = #[(.ref r), (.int 1)] ∧ Z.Warmed39 U.vm ∧ U.heap = h0) (fun _ _ _ _ _ => True) (fun _ U oc U' => ∃ v L, oc = .returned v ∧ own_QV (.ref y) h0 n0 v U'.heap L ∧ FrameEnd U oc U' L ({ frames := 0, cells := 0, slots := 0, locals := 0 } : Room).cells ({ frames := 0, cells := 0, slots := 0, locals := 0 } : Room).slots) := by
  refine MetFree.of_bodySF (plainFor_of_name own_pn9) hisR ?_
  intro p e s m args below meth c s₁ Bd hml0 hP hK
  obtain ⟨rfl, hZ, hh⟩ := hP
  have hx := Bd.exec
  have hby := Bd.bytes
  have hml : c.maxLocals = 2 := hml0
  have hown : s.vm.findClass "java/util/ImmutableCollections$List12" = some m.cls := findClass_of_methodNamed Bd.named
  have hnm := (name_of_methodNamed Bd.named Bd.method).1
  have X0 : Stand p l e ({ frames := 0, cells := 0, slots := 0, locals := 0 } : Room) s m #[(.ref r), (.int 1)] below meth c s₁ [] 0 0 := Stand.of_body Bd
  have e0 : s₁.heap = h0 := by rw [← hh, Bd.state]; rfl
  have N0 := Fr.nil n0
  have pre0 : ∀ tt, Steps p.tables e below (s₁.setTop (mkF m 0 #[.val (.ref r), .val (.int 1)] [])) tt → Steps p.tables e below (s₁.setTop (entryFrame m #[(.ref r), (.int 1)] 2)) tt := fun tt k' => castTop (own_ef_g12_1 m r 1) k'
  obtain ⟨T1, X1, e1, st1⟩ := getF X0 hx hZ hown (host := "") (Or.inl (ow hw 175 rfl)) Via.refl e0 A.2.2 (g := (mkF m 15 #[.val (.ref r), .val (.int 1)] [(.ref r)])) rfl rfl (hb hby d_44_5_15)
  obtain ⟨T2, X2, e2, st2⟩ := getS2 X1 hx hZ hown (Or.inr (ow hw 174 rfl)) Via.refl e1 (G.2.2.2.2.1.1.ext O.2) (g := (mkF m 18 #[.val (.ref r), .val (.int 1)] [(.ref y)])) rfl (hb hby d_44_5_18)
  obtain ⟨T3, X3, e3, st3⟩ := getF X2 hx hZ hown (host := "") (Or.inl (ow hw 175 rfl)) Via.refl e2 A.2.2 (g := (mkF m 25 #[.val (.ref r), .val (.int 1)] [(.ref r)])) rfl rfl (hb hby d_44_5_25)
  obtain ⟨fs, hr, hrun, hended, hW, hsame⟩ := X3.leave (v := some (.ref y)) (fun h => by rw [Bd.returns] at h; cases h)
  refine ⟨_, _, pre0 _ ?_, hrun, hended, _, _, rfl, ?_, ⟨_, rfl⟩, hW, hsame.mono (by decide) (by decide)⟩
  · show Steps _ _ _ (s₁.setTop (mkF m 0 #[.val (.ref r), .val (.int 1)] [])) _
    refine XS.iloadN X0.here hx rfl (hb hby d_44_5_0) rfl ?_
    show Steps _ _ _ (s₁.setTop (mkF m 1 #[.val (.ref r), .val (.int 1)] [(.int 1)])) _
    refine XS.ifYes X0.here hx rfl rfl (hb hby d_44_5_1) rfl (by decide) (show (0 : Int) ≤ ((1 : Nat) : Int) + (8) by decide) (show (((1 : Nat) : Int) + (8)).toNat = 9 by decide) ?_
    refine XS.iloadN X0.here hx rfl (hb hby d_44_5_9) rfl ?_
    refine XT.iconstV X0.here hx rfl 1 (hb hby d_44_5_10) rfl ?_
    show Steps _ _ _ (s₁.setTop (mkF m 11 #[.val (.ref r), .val (.int 1)] [(.int 1), (.int 1)])) _
    refine XS.icmpNo X0.here hx rfl (hb hby d_44_5_11) rfl (by decide) ?_
    refine XS.aloadN X0.here hx rfl (hb hby d_44_5_14) rfl rfl ?_
    show Steps _ _ _ (s₁.setTop (mkF m 15 #[.val (.ref r), .val (.int 1)] [(.ref r)])) _
    refine st1 _ ?_
    show Steps _ _ _ (T1.setTop (mkF m 18 #[.val (.ref r), .val (.int 1)] [(.ref y)])) _
    refine st2 _ ?_
    show Steps _ _ _ (T2.setTop (mkF m 21 #[.val (.ref r), .val (.int 1)] [(.ref EM), (.ref y)])) _
    refine Jvm.RoadKit.acmp (g := (mkF m 21 #[.val (.ref r), .val (.int 1)] [(.ref EM), (.ref y)])) X2 hx rfl rfl rfl (pc0 := 21) (pc' := 24) (same := false) rfl (hb hby d_44_5_21) rfl (decide_eq_false fun q => hE (Value.ref.inj q)) (by decide) (by decide) ?_
    refine XS.aloadN X2.here hx rfl (hb hby d_44_5_24) rfl rfl ?_
    show Steps _ _ _ (T2.setTop (mkF m 25 #[.val (.ref r), .val (.int 1)] [(.ref r)])) _
    refine st3 _ ?_
    show Steps _ _ _ (T3.setTop (mkF m 28 #[.val (.ref r), .val (.int 1)] [(.ref y)])) _
    exact retOut X3 hx Bd.returns rfl (Or.inr (Or.inr (Or.inr (Or.inr ⟨rfl, rfl, rfl⟩)))) (hb hby d_44_5_28) hr
  · show own_QV (.ref y) h0 n0 _ T3.heap _
    rw [e3]
    exact ⟨rfl, N0, rfl⟩
theorem d_45_4_0 : decode jdk_45_method_4_code 0 = .ok (.aload_n 0, 1) := by decide +kernel
theorem d_45_4_1 : decode jdk_45_method_4_code 1 = .ok (.getfield 7, 3) := by decide +kernel
theorem d_45_4_4 : decode jdk_45_method_4_code 4 = .ok (.iload_n 1, 1) := by decide +kernel
theorem d_45_4_5 : decode jdk_45_method_4_code 5 = .ok (.aaload, 1) := by decide +kernel
theorem d_45_4_6 : decode jdk_45_method_4_code 6 = .ok (.areturn, 1) := by decide +kernel
theorem own_ef_gN_0 (m : MethodId) (x0 : Addr) (x1 : Int32) : entryFrame m #[(.ref x0), (.int x1)] 2 = mkF m 0 #[.val (.ref x0), .val (.int x1)] [] := by first | (simp [entryFrame, mkF, argsToLocals, Value.category]; done) | rfl
theorem own_gN_0 (l : Launch) (Z : State) (a0 : Array Value) (hw : ∀ d ∈ tables_1, d.before a0 Z = true) (ws : List Jvm.Cond) {D IC EL EE EM MO b0 b1 : Addr} {cD cI cE : Cell} (G : own_G Z D IC EL EE EM MO b0 b1 cD cI cE) (r q y1 y2 y3 : Addr) (av0 : Value) (h0 : Heap) (n0 : Nat) (Z0 : n0 ≤ h0.size) (A : own_LN Z h0 r (.ref q) av0) (B : own_Oa Z h0 q 3 [.ref y1, .ref y2, .ref y3]) (O : Old Z n0 h0) :
    MetFree l (⟨"java/util/ImmutableCollections$ListN", "get", "(I)Ljava/lang/Object;"⟩ : MethodName) (head1 (Jvm.Cond.code (⟨"java/util/ImmutableCollections$ListN", "get", "(I)Ljava/lang/Object;"⟩ : MethodName) jdk_45_method_4_code 2 (some (.object "java/lang/Object")) :: ws) ({ frames := 0, cells := 0, slots := 0, locals := 0 } : Room)) (fun av U => av = #[(.ref r), (.int 0)] ∧ Z.Warmed39 U.vm ∧ U.heap = h0) (fun _ _ _ _ _ => True) (fun _ U oc U' => ∃ v L, oc = .returned v ∧ own_QV (.ref y1) h0 n0 v U'.heap L ∧ FrameEnd U oc U' L ({ frames := 0, cells := 0, slots := 0, locals := 0 } : Room).cells ({ frames := 0, cells := 0, slots := 0, locals := 0 } : Room).slots) := by
  refine MetFree.of_bodySF (plainFor_of_name own_pn10) hisR ?_
  intro p e s m args below meth c s₁ Bd hml0 hP hK
  obtain ⟨rfl, hZ, hh⟩ := hP
  have hx := Bd.exec
  have hby := Bd.bytes
  have hml : c.maxLocals = 2 := hml0
  have hown : s.vm.findClass "java/util/ImmutableCollections$ListN" = some m.cls := findClass_of_methodNamed Bd.named
  have hnm := (name_of_methodNamed Bd.named Bd.method).1
  have X0 : Stand p l e ({ frames := 0, cells := 0, slots := 0, locals := 0 } : Room) s m #[(.ref r), (.int 0)] below meth c s₁ [] 0 0 := Stand.of_body Bd
  have e0 : s₁.heap = h0 := by rw [← hh, Bd.state]; rfl
  have N0 := Fr.nil n0
  have pre0 : ∀ tt, Steps p.tables e below (s₁.setTop (mkF m 0 #[.val (.ref r), .val (.int 0)] [])) tt → Steps p.tables e below (s₁.setTop (entryFrame m #[(.ref r), (.int 0)] 2)) tt := fun tt k' => castTop (own_ef_gN_0 m r 0) k'
  obtain ⟨T1, X1, e1, st1⟩ := getF X0 hx hZ hown (host := "") (Or.inl (ow hw 221 rfl)) Via.refl e0 A.2.1 (g := (mkF m 1 #[.val (.ref r), .val (.int 0)] [(.ref r)])) rfl rfl (hb hby d_45_4_1)
  obtain ⟨kq, Bq, -⟩ := id B
  obtain ⟨fs, hr, hrun, hended, hW, hsame⟩ := X1.leave (v := some (.ref y1)) (fun h => by rw [Bd.returns] at h; cases h)
  refine ⟨_, _, pre0 _ ?_, hrun, hended, _, _, rfl, ?_, ⟨_, rfl⟩, hW, hsame.mono (by decide) (by decide)⟩
  · show Steps _ _ _ (s₁.setTop (mkF m 0 #[.val (.ref r), .val (.int 0)] [])) _
    refine XS.aloadN X0.here hx rfl (hb hby d_45_4_0) rfl rfl ?_
    show Steps _ _ _ (s₁.setTop (mkF m 1 #[.val (.ref r), .val (.int 0)] [(.ref r)])) _
    refine st1 _ ?_
    refine XS.iloadN X1.here hx rfl (hb hby d_45_4_4) rfl ?_
    show Steps _ _ _ (T1.setTop (mkF m 5 #[.val (.ref r), .val (.int 0)] [(.int 0), (.ref q)])) _
    refine own_aald X1 hx hZ e1 Bq rfl (by decide) rfl (g := (mkF m 5 #[.val (.ref r), .val (.int 0)] [(.int 0), (.ref q)])) rfl rfl (hb hby d_45_4_5) _ ?_
    show Steps _ _ _ (T1.setTop (mkF m 6 #[.val (.ref r), .val (.int 0)] [(.ref y1)])) _
    exact retOut X1 hx Bd.returns rfl (Or.inr (Or.inr (Or.inr (Or.inr ⟨rfl, rfl, rfl⟩)))) (hb hby d_45_4_6) hr
  · show own_QV (.ref y1) h0 n0 _ T1.heap _
    rw [e1]
    exact ⟨rfl, N0, rfl⟩
theorem own_ef_gN_1 (m : MethodId) (x0 : Addr) (x1 : Int32) : entryFrame m #[(.ref x0), (.int x1)] 2 = mkF m 0 #[.val (.ref x0), .val (.int x1)] [] := by first | (simp [entryFrame, mkF, argsToLocals, Value.category]; done) | rfl
theorem own_gN_1 (l : Launch) (Z : State) (a0 : Array Value) (hw : ∀ d ∈ tables_1, d.before a0 Z = true) (ws : List Jvm.Cond) {D IC EL EE EM MO b0 b1 : Addr} {cD cI cE : Cell} (G : own_G Z D IC EL EE EM MO b0 b1 cD cI cE) (r q y1 y2 y3 : Addr) (av0 : Value) (h0 : Heap) (n0 : Nat) (Z0 : n0 ≤ h0.size) (A : own_LN Z h0 r (.ref q) av0) (B : own_Oa Z h0 q 3 [.ref y1, .ref y2, .ref y3]) (O : Old Z n0 h0) :
    MetFree l (⟨"java/util/ImmutableCollections$ListN", "get", "(I)Ljava/lang/Object;"⟩ : MethodName) (head1 (Jvm.Cond.code (⟨"java/util/ImmutableCollections$ListN", "get", "(I)Ljava/lang/Object;"⟩ : MethodName) jdk_45_method_4_code 2 (some (.object "java/lang/Object")) :: ws) ({ frames := 0, cells := 0, slots := 0, locals := 0 } : Room)) (fun av U => av = #[(.ref r), (.int 1)] ∧ Z.Warmed39 U.vm ∧ U.heap = h0) (fun _ _ _ _ _ => True) (fun _ U oc U' => ∃ v L, oc = .returned v ∧ own_QV (.ref y2) h0 n0 v U'.heap L ∧ FrameEnd U oc U' L ({ frames := 0, cells := 0, slots := 0, locals := 0 } : Room).cells ({ frames := 0, cells := 0, slots := 0, locals := 0 } : Room).slots) := by
  refine MetFree.of_bodySF (plainFor_of_name own_pn10) hisR ?_
  intro p e s m args below meth c s₁ Bd hml0 hP hK
  obtain ⟨rfl, hZ, hh⟩ := hP
  have hx := Bd.exec
  have hby := Bd.bytes
  have hml : c.maxLocals = 2 := hml0
  have hown : s.vm.findClass "java/util/ImmutableCollections$ListN" = some m.cls := findClass_of_methodNamed Bd.named
  have hnm := (name_of_methodNamed Bd.named Bd.method).1
  have X0 : Stand p l e ({ frames := 0, cells := 0, slots := 0, locals := 0 } : Room) s m #[(.ref r), (.int 1)] below meth c s₁ [] 0 0 := Stand.of_body Bd
  have e0 : s₁.heap = h0 := by rw [← hh, Bd.state]; rfl
  have N0 := Fr.nil n0
  have pre0 : ∀ tt, Steps p.tables e below (s₁.setTop (mkF m 0 #[.val (.ref r), .val (.int 1)] [])) tt → Steps p.tables e below (s₁.setTop (entryFrame m #[(.ref r), (.int 1)] 2)) tt := fun tt k' => castTop (own_ef_gN_1 m r 1) k'
  obtain ⟨T1, X1, e1, st1⟩ := getF X0 hx hZ hown (host := "") (Or.inl (ow hw 221 rfl)) Via.refl e0 A.2.1 (g := (mkF m 1 #[.val (.ref r), .val (.int 1)] [(.ref r)])) rfl rfl (hb hby d_45_4_1)
  obtain ⟨kq, Bq, -⟩ := id B
  obtain ⟨fs, hr, hrun, hended, hW, hsame⟩ := X1.leave (v := some (.ref y2)) (fun h => by rw [Bd.returns] at h; cases h)
  refine ⟨_, _, pre0 _ ?_, hrun, hended, _, _, rfl, ?_, ⟨_, rfl⟩, hW, hsame.mono (by decide) (by decide)⟩
  · show Steps _ _ _ (s₁.setTop (mkF m 0 #[.val (.ref r), .val (.int 1)] [])) _
    refine XS.aloadN X0.here hx rfl (hb hby d_45_4_0) rfl rfl ?_
    show Steps _ _ _ (s₁.setTop (mkF m 1 #[.val (.ref r), .val (.int 1)] [(.ref r)])) _
    refine st1 _ ?_
    refine XS.iloadN X1.here hx rfl (hb hby d_45_4_4) rfl ?_
    show Steps _ _ _ (T1.setTop (mkF m 5 #[.val (.ref r), .val (.int 1)] [(.int 1), (.ref q)])) _
    refine own_aald X1 hx hZ e1 Bq rfl (by decide) rfl (g := (mkF m 5 #[.val (.ref r), .val (.int 1)] [(.int 1), (.ref q)])) rfl rfl (hb hby d_45_4_5) _ ?_
    show Steps _ _ _ (T1.setTop (mkF m 6 #[.val (.ref r), .val (.int 1)] [(.ref y2)])) _
    exact retOut X1 hx Bd.returns rfl (Or.inr (Or.inr (Or.inr (Or.inr ⟨rfl, rfl, rfl⟩)))) (hb hby d_45_4_6) hr
  · show own_QV (.ref y2) h0 n0 _ T1.heap _
    rw [e1]
    exact ⟨rfl, N0, rfl⟩
theorem own_ef_gN_2 (m : MethodId) (x0 : Addr) (x1 : Int32) : entryFrame m #[(.ref x0), (.int x1)] 2 = mkF m 0 #[.val (.ref x0), .val (.int x1)] [] := by first | (simp [entryFrame, mkF, argsToLocals, Value.category]; done) | rfl
theorem own_gN_2 (l : Launch) (Z : State) (a0 : Array Value) (hw : ∀ d ∈ tables_1, d.before a0 Z = true) (ws : List Jvm.Cond) {D IC EL EE EM MO b0 b1 : Addr} {cD cI cE : Cell} (G : own_G Z D IC EL EE EM MO b0 b1 cD cI cE) (r q y1 y2 y3 : Addr) (av0 : Value) (h0 : Heap) (n0 : Nat) (Z0 : n0 ≤ h0.size) (A : own_LN Z h0 r (.ref q) av0) (B : own_Oa Z h0 q 3 [.ref y1, .ref y2, .ref y3]) (O : Old Z n0 h0) :
    MetFree l (⟨"java/util/ImmutableCollections$ListN", "get", "(I)Ljava/lang/Object;"⟩ : MethodName) (head1 (Jvm.Cond.code (⟨"java/util/ImmutableCollections$ListN", "get", "(I)Ljava/lang/Object;"⟩ : MethodName) jdk_45_method_4_code 2 (some (.object "java/lang/Object")) :: ws) ({ frames := 0, cells := 0, slots := 0, locals := 0 } : Room)) (fun av U => av = #[(.ref r), (.int 2)] ∧ Z.Warmed39 U.vm ∧ U.heap = h0) (fun _ _ _ _ _ => True) (fun _ U oc U' => ∃ v L, oc = .returned v ∧ own_QV (.ref y3) h0 n0 v U'.heap L ∧ FrameEnd U oc U' L ({ frames := 0, cells := 0, slots := 0, locals := 0 } : Room).cells ({ frames := 0, cells := 0, slots := 0, locals := 0 } : Room).slots) := by
  refine MetFree.of_bodySF (plainFor_of_name own_pn10) hisR ?_
  intro p e s m args below meth c s₁ Bd hml0 hP hK
  obtain ⟨rfl, hZ, hh⟩ := hP
  have hx := Bd.exec
  have hby := Bd.bytes
  have hml : c.maxLocals = 2 := hml0
  have hown : s.vm.findClass "java/util/ImmutableCollections$ListN" = some m.cls := findClass_of_methodNamed Bd.named
  have hnm := (name_of_methodNamed Bd.named Bd.method).1
  have X0 : Stand p l e ({ frames := 0, cells := 0, slots := 0, locals := 0 } : Room) s m #[(.ref r), (.int 2)] below meth c s₁ [] 0 0 := Stand.of_body Bd
  have e0 : s₁.heap = h0 := by rw [← hh, Bd.state]; rfl
  have N0 := Fr.nil n0
  have pre0 : ∀ tt, Steps p.tables e below (s₁.setTop (mkF m 0 #[.val (.ref r), .val (.int 2)] [])) tt → Steps p.tables e below (s₁.setTop (entryFrame m #[(.ref r), (.int 2)] 2)) tt := fun tt k' => castTop (own_ef_gN_2 m r 2) k'
  obtain ⟨T1, X1, e1, st1⟩ := getF X0 hx hZ hown (host := "") (Or.inl (ow hw 221 rfl)) Via.refl e0 A.2.1 (g := (mkF m 1 #[.val (.ref r), .val (.int 2)] [(.ref r)])) rfl rfl (hb hby d_45_4_1)
  obtain ⟨kq, Bq, -⟩ := id B
  obtain ⟨fs, hr, hrun, hended, hW, hsame⟩ := X1.leave (v := some (.ref y3)) (fun h => by rw [Bd.returns] at h; cases h)
  refine ⟨_, _, pre0 _ ?_, hrun, hended, _, _, rfl, ?_, ⟨_, rfl⟩, hW, hsame.mono (by decide) (by decide)⟩
  · show Steps _ _ _ (s₁.setTop (mkF m 0 #[.val (.ref r), .val (.int 2)] [])) _
    refine XS.aloadN X0.here hx rfl (hb hby d_45_4_0) rfl rfl ?_
    show Steps _ _ _ (s₁.setTop (mkF m 1 #[.val (.ref r), .val (.int 2)] [(.ref r)])) _
    refine st1 _ ?_
    refine XS.iloadN X1.here hx rfl (hb hby d_45_4_4) rfl ?_
    show Steps _ _ _ (T1.setTop (mkF m 5 #[.val (.ref r), .val (.int 2)] [(.int 2), (.ref q)])) _
    refine own_aald X1 hx hZ e1 Bq rfl (by decide) rfl (g := (mkF m 5 #[.val (.ref r), .val (.int 2)] [(.int 2), (.ref q)])) rfl rfl (hb hby d_45_4_5) _ ?_
    show Steps _ _ _ (T1.setTop (mkF m 6 #[.val (.ref r), .val (.int 2)] [(.ref y3)])) _
    exact retOut X1 hx Bd.returns rfl (Or.inr (Or.inr (Or.inr (Or.inr ⟨rfl, rfl, rfl⟩)))) (hb hby d_45_4_6) hr
  · show own_QV (.ref y3) h0 n0 _ T1.heap _
    rw [e1]
    exact ⟨rfl, N0, rfl⟩
theorem own_pd17 : parseMethodDescriptor "(I)Ljava/lang/Object;" = some ⟨[.int], some (.object "java/lang/Object")⟩ := by decide +kernel
theorem d_53_4_0 : decode jdk_53_method_4_code 0 = .ok (.aload_n 0, 1) := by decide +kernel
theorem d_53_4_1 : decode jdk_53_method_4_code 1 = .ok (.getfield 17, 3) := by decide +kernel
theorem d_53_4_4 : decode jdk_53_method_4_code 4 = .ok (.istore_n 1, 1) := by decide +kernel
theorem d_53_4_5 : decode jdk_53_method_4_code 5 = .ok (.aload_n 0, 1) := by decide +kernel
theorem d_53_4_6 : decode jdk_53_method_4_code 6 = .ok (.getfield 7, 3) := by decide +kernel
theorem d_53_4_9 : decode jdk_53_method_4_code 9 = .ok (.iload_n 1, 1) := by decide +kernel
theorem d_53_4_10 : decode jdk_53_method_4_code 10 = .ok (.invokeinterface 24 2, 5) := by decide +kernel
theorem d_53_4_15 : decode jdk_53_method_4_code 15 = .ok (.astore_n 2, 1) := by decide +kernel
theorem d_53_4_16 : decode jdk_53_method_4_code 16 = .ok (.aload_n 0, 1) := by decide +kernel
theorem d_53_4_17 : decode jdk_53_method_4_code 17 = .ok (.iload_n 1, 1) := by decide +kernel
theorem d_53_4_18 : decode jdk_53_method_4_code 18 = .ok (.iconst 1, 1) := by decide +kernel
theorem d_53_4_19 : decode jdk_53_method_4_code 19 = .ok (.iadd, 1) := by decide +kernel
theorem d_53_4_20 : decode jdk_53_method_4_code 20 = .ok (.putfield 17, 3) := by decide +kernel
theorem d_53_4_23 : decode jdk_53_method_4_code 23 = .ok (.aload_n 2, 1) := by decide +kernel
theorem d_53_4_24 : decode jdk_53_method_4_code 24 = .ok (.areturn, 1) := by decide +kernel
theorem own_ef_nx12_0 (m : MethodId) (x0 : Addr) : entryFrame m #[(.ref x0)] 3 = mkF m 0 #[.val (.ref x0), .unset, .unset] [] := by first | (simp [entryFrame, mkF, argsToLocals, Value.category]; done) | rfl
theorem own_nx12_0 (l : Launch) (Z : State) (a0 : Array Value) (hw : ∀ d ∈ tables_1, d.before a0 Z = true) (ws : List Jvm.Cond) {D IC EL EE EM MO b0 b1 : Addr} {cD cI cE : Cell} (G : own_G Z D IC EL EE EM MO b0 b1 cD cI cE) (t r : Addr) (n : Int32) (y : Addr) (v1 : Value) (h0 : Heap) (n0 : Nat) (Z0 : n0 ≤ h0.size) (A : own_It Z h0 t r n 0) (gt : n0 ≤ t) (B : own_L12 Z h0 r (.ref y) v1) (O : Old Z n0 h0) :
    MetFree l (⟨"java/util/ImmutableCollections$ListItr", "next", "()Ljava/lang/Object;"⟩ : MethodName) (head1 ((Jvm.Cond.codeWith (⟨"java/util/ImmutableCollections$ListItr", "next", "()Ljava/lang/Object;"⟩ : MethodName) jdk_53_method_4_code 3 (some (.object "java/lang/Object")) [((0 : Nat), (24 : Nat), (25 : Nat), (30 : Nat))]) :: ws) ({ frames := 1, cells := 0, slots := 0, locals := 13 } : Room)) (fun av U => av = #[(.ref t)] ∧ Z.Warmed39 U.vm ∧ U.heap = h0) (fun _ _ _ _ _ => True) (fun _ U oc U' => ∃ v L, oc = .returned v ∧ own_QNx Z t r y n 0 h0 n0 v U'.heap L ∧ FrameEnd U oc U' L ({ frames := 1, cells := 0, slots := 0, locals := 13 } : Room).cells ({ frames := 1, cells := 0, slots := 0, locals := 13 } : Room).slots) := by
  refine MetFree.of_bodySF (plainFor_of_name own_pn14) hisWith ?_
  intro p e s m args below meth c s₁ Bd hml0 hP hK
  obtain ⟨rfl, hZ, hh⟩ := hP
  have hx := Bd.exec
  have hby := Bd.bytes
  have hml : c.maxLocals = 3 := hml0
  have hown : s.vm.findClass "java/util/ImmutableCollections$ListItr" = some m.cls := findClass_of_methodNamed Bd.named
  have hnm := (name_of_methodNamed Bd.named Bd.method).1
  have X0 : Stand p l e ({ frames := 1, cells := 0, slots := 0, locals := 13 } : Room) s m #[(.ref t)] below meth c s₁ [] 0 0 := Stand.of_body Bd
  have e0 : s₁.heap = h0 := by rw [← hh, Bd.state]; rfl
  have N0 := Fr.nil n0
  have pre0 : ∀ tt, Steps p.tables e below (s₁.setTop (mkF m 0 #[.val (.ref t), .unset, .unset] [])) tt → Steps p.tables e below (s₁.setTop (entryFrame m #[(.ref t)] 3)) tt := fun tt k' => castTop (own_ef_nx12_0 m t) k'
  obtain ⟨T1, X1, e1, st1⟩ := getF X0 hx hZ hown (host := "") (Or.inl (ow hw 232 rfl)) Via.refl e0 A.2.2.2 (g := (mkF m 1 #[.val (.ref t), .unset, .unset] [(.ref t)])) rfl rfl (hb hby d_53_4_1)
  obtain ⟨T2, X2, e2, st2⟩ := getF X1 hx hZ hown (host := "") (Or.inl (ow hw 228 rfl)) Via.refl e1 A.2.1 (g := (mkF m 6 #[.val (.ref t), .val (.int 0), .unset] [(.ref t)])) rfl rfl (hb hby d_53_4_6)
  obtain ⟨cq3, kq3, q3a, q3b, q3c⟩ := isOf hZ e2 B.1
  obtain ⟨_, _, ⟨T3, L3, k3, n3⟩, -, X3, ⟨Lc3, hQ3, l3, y3, z3⟩, st3⟩ := X2.interfaceBack hx (xi := (⟨"java/util/List", "get", "(I)Ljava/lang/Object;"⟩ : MethodName)) (y := (⟨"java/util/ImmutableCollections$List12", "get", "(I)Ljava/lang/Object;"⟩ : MethodName)) hown (mvT hZ (ow hw 277 rfl)) (mvT hZ (ow hw 278 rfl)) (mvT hZ (ow hw 279 rfl)) (mvT hZ (ow hw 280 rfl)) (mvT hZ (ow hw 281 rfl)) (mvT hZ (ow hw 282 rfl)) (mvT hZ (ow hw 283 rfl)) (mvT hZ (ow hw 197 rfl)) (by decide) (backOf (W := 0) (own_g12_0 l Z a0 hw [] G r y v1 h0 n0 Z0 B O) hZ (ow hw 284 rfl) (ow hw 149 rfl) (by decide) (by decide)) q3a q3b q3c (g := (mkF m 10 #[.val (.ref t), .val (.int 0), .unset] [(.int 0), (.ref r)])) rfl (by rw [hml]; rfl) (Steps.refl _) (argsL := [(.int 0)]) (rest := []) (lenOf own_pd17 rfl) rfl (by show 2 * 0 + _ ≤ _; exact Nat.le_of_eq rfl) (hb hby d_53_4_10) (fun _ _ => ⟨rfl, e2, (by decide : 0 + 0 ≤ _), (by decide : 0 + 0 ≤ _)⟩)
  dsimp only [Pt.U, Pt.locs, Pt.cells, Pt.slots] at X3 l3 y3 z3 st3 hQ3
  subst l3 y3 z3
  obtain ⟨rfl, N3, e3⟩ := hQ3
  have N4_ := Fr.app N0 N3
  obtain ⟨T5, h5, X5, e5, W5, st5⟩ := putF X3 hx hZ hown (host := "") (Or.inl (ow hw 232 rfl)) Via.refl e3 A.2.2.2 A.1 (Or.inl (ow hw 233 rfl)) (ow hw 212 rfl) (ty := .int) (by decide) rfl rfl (g := (mkF m 20 #[.val (.ref t), .val (.int 0), .val (.ref y)] [(.int (0 + 1)), (.ref t)])) rfl rfl (hb hby d_53_4_20)
  have N5 := Fr.snoc X5 N4_ gt
  have K6_ := (Keep.refl h0 [t]).wr W5 (Or.inl (List.mem_of_getElem? (i := 0) rfl))
  have F5 := A.2.2.2.same W5
  have f7_ := (A.1.wr W5)
  have f8_ := (A.2.1.other W5 (Or.inr (slot_ne (Or.inr (ow hw 229 rfl)) (Or.inl (ow hw 233 rfl)) (by decide) (t := (.object "java/util/List")) (by decide) (t' := .int) (by decide))))
  have f9_ := (A.2.2.1.other W5 (Or.inr (slot_ne (Or.inr (ow hw 231 rfl)) (Or.inl (ow hw 233 rfl)) (by decide) (t := .int) (by decide) (t' := .int) (by decide))))
  obtain ⟨fs, hr, hrun, hended, hW, hsame⟩ := X5.leave (v := some (.ref y)) (fun h => by rw [Bd.returns] at h; cases h)
  refine ⟨_, _, pre0 _ ?_, hrun, hended, _, _, rfl, ?_, ⟨_, rfl⟩, hW, hsame.mono (by decide) (by decide)⟩
  · show Steps _ _ _ (s₁.setTop (mkF m 0 #[.val (.ref t), .unset, .unset] [])) _
    refine XS.aloadN X0.here hx rfl (hb hby d_53_4_0) rfl rfl ?_
    show Steps _ _ _ (s₁.setTop (mkF m 1 #[.val (.ref t), .unset, .unset] [(.ref t)])) _
    refine st1 _ ?_
    show Steps _ _ _ (T1.setTop (mkF m 4 #[.val (.ref t), .unset, .unset] [(.int 0)])) _
    refine XS.istoreN X1.here hx rfl (hb hby d_53_4_4) rfl rfl ?_
    refine XS.aloadN X1.here hx rfl (hb hby d_53_4_5) rfl rfl ?_
    show Steps _ _ _ (T1.setTop (mkF m 6 #[.val (.ref t), .val (.int 0), .unset] [(.ref t)])) _
    refine st2 _ ?_
    refine XS.iloadN X2.here hx rfl (hb hby d_53_4_9) rfl ?_
    show Steps _ _ _ (T2.setTop (mkF m 10 #[.val (.ref t), .val (.int 0), .unset] [(.int 0), (.ref r)])) _
    refine st3.trans ?_
    show Steps _ _ _ (T3.setTop (mkF m 15 #[.val (.ref t), .val (.int 0), .unset] [(.ref y)])) _
    refine XS.astoreN X3.here hx rfl (hb hby d_53_4_15) rfl rfl rfl ?_
    refine XS.aloadN X3.here hx rfl (hb hby d_53_4_16) rfl rfl ?_
    refine XS.iloadN X3.here hx rfl (hb hby d_53_4_17) rfl ?_
    refine XT.iconstV X3.here hx rfl 1 (hb hby d_53_4_18) rfl ?_
    show Steps _ _ _ (T3.setTop (mkF m 19 #[.val (.ref t), .val (.int 0), .val (.ref y)] [(.int 1), (.int 0), (.ref t)])) _
    refine XS.iadd X3.here hx rfl (hb hby d_53_4_19) rfl ?_
    show Steps _ _ _ (T3.setTop (mkF m 20 #[.val (.ref t), .val (.int 0), .val (.ref y)] [(.int (0 + 1)), (.ref t)])) _
    refine st5 _ ?_
    refine XS.aloadN X5.here hx rfl (hb hby d_53_4_23) rfl rfl ?_
    show Steps _ _ _ (T5.setTop (mkF m 24 #[.val (.ref t), .val (.int 0), .val (.ref y)] [(.ref y)])) _
    exact retOut X5 hx Bd.returns rfl (Or.inr (Or.inr (Or.inr (Or.inr ⟨rfl, rfl, rfl⟩)))) (hb hby d_53_4_24) hr
  · show own_QNx Z t r y n 0 h0 n0 _ T5.heap _
    rw [e5]
    exact ⟨rfl, N5, K6_, ⟨f7_, f8_, f9_, F5⟩⟩
theorem own_ef_nx12_1 (m : MethodId) (x0 : Addr) : entryFrame m #[(.ref x0)] 3 = mkF m 0 #[.val (.ref x0), .unset, .unset] [] := by first | (simp [entryFrame, mkF, argsToLocals, Value.category]; done) | rfl
theorem own_nx12_1 (l : Launch) (Z : State) (a0 : Array Value) (hw : ∀ d ∈ tables_1, d.before a0 Z = true) (ws : List Jvm.Cond) {D IC EL EE EM MO b0 b1 : Addr} {cD cI cE : Cell} (G : own_G Z D IC EL EE EM MO b0 b1 cD cI cE) (t r : Addr) (n : Int32) (y : Addr) (v0 : Value) (hE : y ≠ EM) (h0 : Heap) (n0 : Nat) (Z0 : n0 ≤ h0.size) (A : own_It Z h0 t r n 1) (gt : n0 ≤ t) (B : own_L12 Z h0 r v0 (.ref y)) (O : Old Z n0 h0) :
    MetFree l (⟨"java/util/ImmutableCollections$ListItr", "next", "()Ljava/lang/Object;"⟩ : MethodName) (head1 ((Jvm.Cond.codeWith (⟨"java/util/ImmutableCollections$ListItr", "next", "()Ljava/lang/Object;"⟩ : MethodName) jdk_53_method_4_code 3 (some (.object "java/lang/Object")) [((0 : Nat), (24 : Nat), (25 : Nat), (30 : Nat))]) :: ws) ({ frames := 1, cells := 0, slots := 0, locals := 13 } : Room)) (fun av U => av = #[(.ref t)] ∧ Z.Warmed39 U.vm ∧ U.heap = h0) (fun _ _ _ _ _ => True) (fun _ U oc U' => ∃ v L, oc = .returned v ∧ own_QNx Z t r y n 1 h0 n0 v U'.heap L ∧ FrameEnd U oc U' L ({ frames := 1, cells := 0, slots := 0, locals := 13 } : Room).cells ({ frames := 1, cells := 0, slots := 0, locals := 13 } : Room).slots) := by
  refine MetFree.of_bodySF (plainFor_of_name own_pn14) hisWith ?_
  intro p e s m args below meth c s₁ Bd hml0 hP hK
  obtain ⟨rfl, hZ, hh⟩ := hP
  have hx := Bd.exec
  have hby := Bd.bytes
  have hml : c.maxLocals = 3 := hml0
  have hown : s.vm.findClass "java/util/ImmutableCollections$ListItr" = some m.cls := findClass_of_methodNamed Bd.named
  have hnm := (name_of_methodNamed Bd.named Bd.method).1
  have X0 : Stand p l e ({ frames := 1, cells := 0, slots := 0, locals := 13 } : Room) s m #[(.ref t)] below meth c s₁ [] 0 0 := Stand.of_body Bd
  have e0 : s₁.heap = h0 := by rw [← hh, Bd.state]; rfl
  have N0 := Fr.nil n0
  have pre0 : ∀ tt, Steps p.tables e below (s₁.setTop (mkF m 0 #[.val (.ref t), .unset, .unset] [])) tt → Steps p.tables e below (s₁.setTop (entryFrame m #[(.ref t)] 3)) tt := fun tt k' => castTop (own_ef_nx12_1 m t) k'
  obtain ⟨T1, X1, e1, st1⟩ := getF X0 hx hZ hown (host := "") (Or.inl (ow hw 232 rfl)) Via.refl e0 A.2.2.2 (g := (mkF m 1 #[.val (.ref t), .unset, .unset] [(.ref t)])) rfl rfl (hb hby d_53_4_1)
  obtain ⟨T2, X2, e2, st2⟩ := getF X1 hx hZ hown (host := "") (Or.inl (ow hw 228 rfl)) Via.refl e1 A.2.1 (g := (mkF m 6 #[.val (.ref t), .val (.int 1), .unset] [(.ref t)])) rfl rfl (hb hby d_53_4_6)
  obtain ⟨cq3, kq3, q3a, q3b, q3c⟩ := isOf hZ e2 B.1
  obtain ⟨_, _, ⟨T3, L3, k3, n3⟩, -, X3, ⟨Lc3, hQ3, l3, y3, z3⟩, st3⟩ := X2.interfaceBack hx (xi := (⟨"java/util/List", "get", "(I)Ljava/lang/Object;"⟩ : MethodName)) (y := (⟨"java/util/ImmutableCollections$List12", "get", "(I)Ljava/lang/Object;"⟩ : MethodName)) hown (mvT hZ (ow hw 277 rfl)) (mvT hZ (ow hw 278 rfl)) (mvT hZ (ow hw 279 rfl)) (mvT hZ (ow hw 280 rfl)) (mvT hZ (ow hw 281 rfl)) (mvT hZ (ow hw 282 rfl)) (mvT hZ (ow hw 283 rfl)) (mvT hZ (ow hw 197 rfl)) (by decide) (backOf (W := 0) (own_g12_1 l Z a0 hw [] G r y v0 hE h0 n0 Z0 B O) hZ (ow hw 284 rfl) (ow hw 149 rfl) (by decide) (by decide)) q3a q3b q3c (g := (mkF m 10 #[.val (.ref t), .val (.int 1), .unset] [(.int 1), (.ref r)])) rfl (by rw [hml]; rfl) (Steps.refl _) (argsL := [(.int 1)]) (rest := []) (lenOf own_pd17 rfl) rfl (by show 2 * 0 + _ ≤ _; exact Nat.le_of_eq rfl) (hb hby d_53_4_10) (fun _ _ => ⟨rfl, e2, (by decide : 0 + 0 ≤ _), (by decide : 0 + 0 ≤ _)⟩)
  dsimp only [Pt.U, Pt.locs, Pt.cells, Pt.slots] at X3 l3 y3 z3 st3 hQ3
  subst l3 y3 z3
  obtain ⟨rfl, N3, e3⟩ := hQ3
  have N4_ := Fr.app N0 N3
  obtain ⟨T5, h5, X5, e5, W5, st5⟩ := putF X3 hx hZ hown (host := "") (Or.inl (ow hw 232 rfl)) Via.refl e3 A.2.2.2 A.1 (Or.inl (ow hw 233 rfl)) (ow hw 212 rfl) (ty := .int) (by decide) rfl rfl (g := (mkF m 20 #[.val (.ref t), .val (.int 1), .val (.ref y)] [(.int (1 + 1)), (.ref t)])) rfl rfl (hb hby d_53_4_20)
  have N5 := Fr.snoc X5 N4_ gt
  have K6_ := (Keep.refl h0 [t]).wr W5 (Or.inl (List.mem_of_getElem? (i := 0) rfl))
  have F5 := A.2.2.2.same W5
  have f7_ := (A.1.wr W5)
  have f8_ := (A.2.1.other W5 (Or.inr (slot_ne (Or.inr (ow hw 229 rfl)) (Or.inl (ow hw 233 rfl)) (by decide) (t := (.object "java/util/List")) (by decide) (t' := .int) (by decide))))
  have f9_ := (A.2.2.1.other W5 (Or.inr (slot_ne (Or.inr (ow hw 231 rfl)) (Or.inl (ow hw 233 rfl)) (by decide) (t := .int) (by decide) (t' := .int) (by decide))))
  obtain ⟨fs, hr, hrun, hended, hW, hsame⟩ := X5.leave (v := some (.ref y)) (fun h => by rw [Bd.returns] at h; cases h)
  refine ⟨_, _, pre0 _ ?_, hrun, hended, _, _, rfl, ?_, ⟨_, rfl⟩, hW, hsame.mono (by decide) (by decide)⟩
  · show Steps _ _ _ (s₁.setTop (mkF m 0 #[.val (.ref t), .unset, .unset] [])) _
    refine XS.aloadN X0.here hx rfl (hb hby d_53_4_0) rfl rfl ?_
    show Steps _ _ _ (s₁.setTop (mkF m 1 #[.val (.ref t), .unset, .unset] [(.ref t)])) _
    refine st1 _ ?_
    show Steps _ _ _ (T1.setTop (mkF m 4 #[.val (.ref t), .unset, .unset] [(.int 1)])) _
    refine XS.istoreN X1.here hx rfl (hb hby d_53_4_4) rfl rfl ?_
    refine XS.aloadN X1.here hx rfl (hb hby d_53_4_5) rfl rfl ?_
    show Steps _ _ _ (T1.setTop (mkF m 6 #[.val (.ref t), .val (.int 1), .unset] [(.ref t)])) _
    refine st2 _ ?_
    refine XS.iloadN X2.here hx rfl (hb hby d_53_4_9) rfl ?_
    show Steps _ _ _ (T2.setTop (mkF m 10 #[.val (.ref t), .val (.int 1), .unset] [(.int 1), (.ref r)])) _
    refine st3.trans ?_
    show Steps _ _ _ (T3.setTop (mkF m 15 #[.val (.ref t), .val (.int 1), .unset] [(.ref y)])) _
    refine XS.astoreN X3.here hx rfl (hb hby d_53_4_15) rfl rfl rfl ?_
    refine XS.aloadN X3.here hx rfl (hb hby d_53_4_16) rfl rfl ?_
    refine XS.iloadN X3.here hx rfl (hb hby d_53_4_17) rfl ?_
    refine XT.iconstV X3.here hx rfl 1 (hb hby d_53_4_18) rfl ?_
    show Steps _ _ _ (T3.setTop (mkF m 19 #[.val (.ref t), .val (.int 1), .val (.ref y)] [(.int 1), (.int 1), (.ref t)])) _
    refine XS.iadd X3.here hx rfl (hb hby d_53_4_19) rfl ?_
    show Steps _ _ _ (T3.setTop (mkF m 20 #[.val (.ref t), .val (.int 1), .val (.ref y)] [(.int (1 + 1)), (.ref t)])) _
    refine st5 _ ?_
    refine XS.aloadN X5.here hx rfl (hb hby d_53_4_23) rfl rfl ?_
    show Steps _ _ _ (T5.setTop (mkF m 24 #[.val (.ref t), .val (.int 1), .val (.ref y)] [(.ref y)])) _
    exact retOut X5 hx Bd.returns rfl (Or.inr (Or.inr (Or.inr (Or.inr ⟨rfl, rfl, rfl⟩)))) (hb hby d_53_4_24) hr
  · show own_QNx Z t r y n 1 h0 n0 _ T5.heap _
    rw [e5]
    exact ⟨rfl, N5, K6_, ⟨f7_, f8_, f9_, F5⟩⟩
theorem own_ef_nxN_0 (m : MethodId) (x0 : Addr) : entryFrame m #[(.ref x0)] 3 = mkF m 0 #[.val (.ref x0), .unset, .unset] [] := by first | (simp [entryFrame, mkF, argsToLocals, Value.category]; done) | rfl
theorem own_nxN_0 (l : Launch) (Z : State) (a0 : Array Value) (hw : ∀ d ∈ tables_1, d.before a0 Z = true) (ws : List Jvm.Cond) {D IC EL EE EM MO b0 b1 : Addr} {cD cI cE : Cell} (G : own_G Z D IC EL EE EM MO b0 b1 cD cI cE) (t r : Addr) (n : Int32) (q y1 y2 y3 : Addr) (av0 : Value) (h0 : Heap) (n0 : Nat) (Z0 : n0 ≤ h0.size) (A : own_It Z h0 t r n 0) (gt : n0 ≤ t) (B : own_LN Z h0 r (.ref q) av0) (B' : own_Oa Z h0 q 3 [.ref y1, .ref y2, .ref y3]) (O : Old Z n0 h0) :
    MetFree l (⟨"java/util/ImmutableCollections$ListItr", "next", "()Ljava/lang/Object;"⟩ : MethodName) (head1 ((Jvm.Cond.codeWith (⟨"java/util/ImmutableCollections$ListItr", "next", "()Ljava/lang/Object;"⟩ : MethodName) jdk_53_method_4_code 3 (some (.object "java/lang/Object")) [((0 : Nat), (24 : Nat), (25 : Nat), (30 : Nat))]) :: ws) ({ frames := 1, cells := 0, slots := 0, locals := 13 } : Room)) (fun av U => av = #[(.ref t)] ∧ Z.Warmed39 U.vm ∧ U.heap = h0) (fun _ _ _ _ _ => True) (fun _ U oc U' => ∃ v L, oc = .returned v ∧ own_QNx Z t r y1 n 0 h0 n0 v U'.heap L ∧ FrameEnd U oc U' L ({ frames := 1, cells := 0, slots := 0, locals := 13 } : Room).cells ({ frames := 1, cells := 0, slots := 0, locals := 13 } : Room).slots) := by
  refine MetFree.of_bodySF (plainFor_of_name own_pn14) hisWith ?_
  intro p e s m args below meth c s₁ Bd hml0 hP hK
  obtain ⟨rfl, hZ, hh⟩ := hP
  have hx := Bd.exec
  have hby := Bd.bytes
  have hml : c.maxLocals = 3 := hml0
  have hown : s.vm.findClass "java/util/ImmutableCollections$ListItr" = some m.cls := findClass_of_methodNamed Bd.named
  have hnm := (name_of_methodNamed Bd.named Bd.method).1
  have X0 : Stand p l e ({ frames := 1, cells := 0, slots := 0, locals := 13 } : Room) s m #[(.ref t)] below meth c s₁ [] 0 0 := Stand.of_body Bd
  have e0 : s₁.heap = h0 := by rw [← hh, Bd.state]; rfl
  have N0 := Fr.nil n0
  have pre0 : ∀ tt, Steps p.tables e below (s₁.setTop (mkF m 0 #[.val (.ref t), .unset, .unset] [])) tt → Steps p.tables e below (s₁.setTop (entryFrame m #[(.ref t)] 3)) tt := fun tt k' => castTop (own_ef_nxN_0 m t) k'
  obtain ⟨T1, X1, e1, st1⟩ := getF X0 hx hZ hown (host := "") (Or.inl (ow hw 232 rfl)) Via.refl e0 A.2.2.2 (g := (mkF m 1 #[.val (.ref t), .unset, .unset] [(.ref t)])) rfl rfl (hb hby d_53_4_1)
  obtain ⟨T2, X2, e2, st2⟩ := getF X1 hx hZ hown (host := "") (Or.inl (ow hw 228 rfl)) Via.refl e1 A.2.1 (g := (mkF m 6 #[.val (.ref t), .val (.int 0), .unset] [(.ref t)])) rfl rfl (hb hby d_53_4_6)
  obtain ⟨cq3, kq3, q3a, q3b, q3c⟩ := isOf hZ e2 B.1
  obtain ⟨_, _, ⟨T3, L3, k3, n3⟩, -, X3, ⟨Lc3, hQ3, l3, y3, z3⟩, st3⟩ := X2.interfaceBack hx (xi := (⟨"java/util/List", "get", "(I)Ljava/lang/Object;"⟩ : MethodName)) (y := (⟨"java/util/ImmutableCollections$ListN", "get", "(I)Ljava/lang/Object;"⟩ : MethodName)) hown (mvT hZ (ow hw 277 rfl)) (mvT hZ (ow hw 278 rfl)) (mvT hZ (ow hw 279 rfl)) (mvT hZ (ow hw 318 rfl)) (mvT hZ (ow hw 319 rfl)) (mvT hZ (ow hw 320 rfl)) (mvT hZ (ow hw 321 rfl)) (mvT hZ (ow hw 209 rfl)) (by decide) (backOf (W := 0) (own_gN_0 l Z a0 hw [] G r q y1 y2 y3 av0 h0 n0 Z0 B B' O) hZ (ow hw 322 rfl) (ow hw 219 rfl) (by decide) (by decide)) q3a q3b q3c (g := (mkF m 10 #[.val (.ref t), .val (.int 0), .unset] [(.int 0), (.ref r)])) rfl (by rw [hml]; rfl) (Steps.refl _) (argsL := [(.int 0)]) (rest := []) (lenOf own_pd17 rfl) rfl (by show 2 * 0 + _ ≤ _; exact Nat.le_of_eq rfl) (hb hby d_53_4_10) (fun _ _ => ⟨rfl, e2, (by decide : 0 + 0 ≤ _), (by decide : 0 + 0 ≤ _)⟩)
  dsimp only [Pt.U, Pt.locs, Pt.cells, Pt.slots] at X3 l3 y3 z3 st3 hQ3
  subst l3 y3 z3
  obtain ⟨rfl, N3, e3⟩ := hQ3
  have N4_ := Fr.app N0 N3
  obtain ⟨T5, h5, X5, e5, W5, st5⟩ := putF X3 hx hZ hown (host := "") (Or.inl (ow hw 232 rfl)) Via.refl e3 A.2.2.2 A.1 (Or.inl (ow hw 233 rfl)) (ow hw 212 rfl) (ty := .int) (by decide) rfl rfl (g := (mkF m 20 #[.val (.ref t), .val (.int 0), .val (.ref y1)] [(.int (0 + 1)), (.ref t)])) rfl rfl (hb hby d_53_4_20)
  have N5 := Fr.snoc X5 N4_ gt
  have K6_ := (Keep.refl h0 [t]).wr W5 (Or.inl (List.mem_of_getElem? (i := 0) rfl))
  have F5 := A.2.2.2.same W5
  have f7_ := (A.1.wr W5)
  have f8_ := (A.2.1.other W5 (Or.inr (slot_ne (Or.inr (ow hw 229 rfl)) (Or.inl (ow hw 233 rfl)) (by decide) (t := (.object "java/util/List")) (by decide) (t' := .int) (by decide))))
  have f9_ := (A.2.2.1.other W5 (Or.inr (slot_ne (Or.inr (ow hw 231 rfl)) (Or.inl (ow hw 233 rfl)) (by decide) (t := .int) (by decide) (t' := .int) (by decide))))
  obtain ⟨fs, hr, hrun, hended, hW, hsame⟩ := X5.leave (v := some (.ref y1)) (fun h => by rw [Bd.returns] at h; cases h)
  refine ⟨_, _, pre0 _ ?_, hrun, hended, _, _, rfl, ?_, ⟨_, rfl⟩, hW, hsame.mono (by decide) (by decide)⟩
  · show Steps _ _ _ (s₁.setTop (mkF m 0 #[.val (.ref t), .unset, .unset] [])) _
    refine XS.aloadN X0.here hx rfl (hb hby d_53_4_0) rfl rfl ?_
    show Steps _ _ _ (s₁.setTop (mkF m 1 #[.val (.ref t), .unset, .unset] [(.ref t)])) _
    refine st1 _ ?_
    show Steps _ _ _ (T1.setTop (mkF m 4 #[.val (.ref t), .unset, .unset] [(.int 0)])) _
    refine XS.istoreN X1.here hx rfl (hb hby d_53_4_4) rfl rfl ?_
    refine XS.aloadN X1.here hx rfl (hb hby d_53_4_5) rfl rfl ?_
    show Steps _ _ _ (T1.setTop (mkF m 6 #[.val (.ref t), .val (.int 0), .unset] [(.ref t)])) _
    refine st2 _ ?_
    refine XS.iloadN X2.here hx rfl (hb hby d_53_4_9) rfl ?_
    show Steps _ _ _ (T2.setTop (mkF m 10 #[.val (.ref t), .val (.int 0), .unset] [(.int 0), (.ref r)])) _
    refine st3.trans ?_
    show Steps _ _ _ (T3.setTop (mkF m 15 #[.val (.ref t), .val (.int 0), .unset] [(.ref y1)])) _
    refine XS.astoreN X3.here hx rfl (hb hby d_53_4_15) rfl rfl rfl ?_
    refine XS.aloadN X3.here hx rfl (hb hby d_53_4_16) rfl rfl ?_
    refine XS.iloadN X3.here hx rfl (hb hby d_53_4_17) rfl ?_
    refine XT.iconstV X3.here hx rfl 1 (hb hby d_53_4_18) rfl ?_
    show Steps _ _ _ (T3.setTop (mkF m 19 #[.val (.ref t), .val (.int 0), .val (.ref y1)] [(.int 1), (.int 0), (.ref t)])) _
    refine XS.iadd X3.here hx rfl (hb hby d_53_4_19) rfl ?_
    show Steps _ _ _ (T3.setTop (mkF m 20 #[.val (.ref t), .val (.int 0), .val (.ref y1)] [(.int (0 + 1)), (.ref t)])) _
    refine st5 _ ?_
    refine XS.aloadN X5.here hx rfl (hb hby d_53_4_23) rfl rfl ?_
    show Steps _ _ _ (T5.setTop (mkF m 24 #[.val (.ref t), .val (.int 0), .val (.ref y1)] [(.ref y1)])) _
    exact retOut X5 hx Bd.returns rfl (Or.inr (Or.inr (Or.inr (Or.inr ⟨rfl, rfl, rfl⟩)))) (hb hby d_53_4_24) hr
  · show own_QNx Z t r y1 n 0 h0 n0 _ T5.heap _
    rw [e5]
    exact ⟨rfl, N5, K6_, ⟨f7_, f8_, f9_, F5⟩⟩
theorem own_ef_nxN_1 (m : MethodId) (x0 : Addr) : entryFrame m #[(.ref x0)] 3 = mkF m 0 #[.val (.ref x0), .unset, .unset] [] := by first | (simp [entryFrame, mkF, argsToLocals, Value.category]; done) | rfl
theorem own_nxN_1 (l : Launch) (Z : State) (a0 : Array Value) (hw : ∀ d ∈ tables_1, d.before a0 Z = true) (ws : List Jvm.Cond) {D IC EL EE EM MO b0 b1 : Addr} {cD cI cE : Cell} (G : own_G Z D IC EL EE EM MO b0 b1 cD cI cE) (t r : Addr) (n : Int32) (q y1 y2 y3 : Addr) (av0 : Value) (h0 : Heap) (n0 : Nat) (Z0 : n0 ≤ h0.size) (A : own_It Z h0 t r n 1) (gt : n0 ≤ t) (B : own_LN Z h0 r (.ref q) av0) (B' : own_Oa Z h0 q 3 [.ref y1, .ref y2, .ref y3]) (O : Old Z n0 h0) :
    MetFree l (⟨"java/util/ImmutableCollections$ListItr", "next", "()Ljava/lang/Object;"⟩ : MethodName) (head1 ((Jvm.Cond.codeWith (⟨"java/util/ImmutableCollections$ListItr", "next", "()Ljava/lang/Object;"⟩ : MethodName) jdk_53_method_4_code 3 (some (.object "java/lang/Object")) [((0 : Nat), (24 : Nat), (25 : Nat), (30 : Nat))]) :: ws) ({ frames := 1, cells := 0, slots := 0, locals := 13 } : Room)) (fun av U => av = #[(.ref t)] ∧ Z.Warmed39 U.vm ∧ U.heap = h0) (fun _ _ _ _ _ => True) (fun _ U oc U' => ∃ v L, oc = .returned v ∧ own_QNx Z t r y2 n 1 h0 n0 v U'.heap L ∧ FrameEnd U oc U' L ({ frames := 1, cells := 0, slots := 0, locals := 13 } : Room).cells ({ frames := 1, cells := 0, slots := 0, locals := 13 } : Room).slots) := by
  refine MetFree.of_bodySF (plainFor_of_name own_pn14) hisWith ?_
  intro p e s m args below meth c s₁ Bd hml0 hP hK
  obtain ⟨rfl, hZ, hh⟩ := hP
  have hx := Bd.exec
  have hby := Bd.bytes
  have hml : c.maxLocals = 3 := hml0
  have hown : s.vm.findClass "java/util/ImmutableCollections$ListItr" = some m.cls := findClass_of_methodNamed Bd.named
  have hnm := (name_of_methodNamed Bd.named Bd.method).1
  have X0 : Stand p l e ({ frames := 1, cells := 0, slots := 0, locals := 13 } : Room) s m #[(.ref t)] below meth c s₁ [] 0 0 := Stand.of_body Bd
  have e0 : s₁.heap = h0 := by rw [← hh, Bd.state]; rfl
  have N0 := Fr.nil n0
  have pre0 : ∀ tt, Steps p.tables e below (s₁.setTop (mkF m 0 #[.val (.ref t), .unset, .unset] [])) tt → Steps p.tables e below (s₁.setTop (entryFrame m #[(.ref t)] 3)) tt := fun tt k' => castTop (own_ef_nxN_1 m t) k'
  obtain ⟨T1, X1, e1, st1⟩ := getF X0 hx hZ hown (host := "") (Or.inl (ow hw 232 rfl)) Via.refl e0 A.2.2.2 (g := (mkF m 1 #[.val (.ref t), .unset, .unset] [(.ref t)])) rfl rfl (hb hby d_53_4_1)
  obtain ⟨T2, X2, e2, st2⟩ := getF X1 hx hZ hown (host := "") (Or.inl (ow hw 228 rfl)) Via.refl e1 A.2.1 (g := (mkF m 6 #[.val (.ref t), .val (.int 1), .unset] [(.ref t)])) rfl rfl (hb hby d_53_4_6)
  obtain ⟨cq3, kq3, q3a, q3b, q3c⟩ := isOf hZ e2 B.1
  obtain ⟨_, _, ⟨T3, L3, k3, n3⟩, -, X3, ⟨Lc3, hQ3, l3, y3, z3⟩, st3⟩ := X2.interfaceBack hx (xi := (⟨"java/util/List", "get", "(I)Ljava/lang/Object;"⟩ : MethodName)) (y := (⟨"java/util/ImmutableCollections$ListN", "get", "(I)Ljava/lang/Object;"⟩ : MethodName)) hown (mvT hZ (ow hw 277 rfl)) (mvT hZ (ow hw 278 rfl)) (mvT hZ (ow hw 279 rfl)) (mvT hZ (ow hw 318 rfl)) (mvT hZ (ow hw 319 rfl)) (mvT hZ (ow hw 320 rfl)) (mvT hZ (ow hw 321 rfl)) (mvT hZ (ow hw 209 rfl)) (by decide) (backOf (W := 0) (own_gN_1 l Z a0 hw [] G r q y1 y2 y3 av0 h0 n0 Z0 B B' O) hZ (ow hw 322 rfl) (ow hw 219 rfl) (by decide) (by decide)) q3a q3b q3c (g := (mkF m 10 #[.val (.ref t), .val (.int 1), .unset] [(.int 1), (.ref r)])) rfl (by rw [hml]; rfl) (Steps.refl _) (argsL := [(.int 1)]) (rest := []) (lenOf own_pd17 rfl) rfl (by show 2 * 0 + _ ≤ _; exact Nat.le_of_eq rfl) (hb hby d_53_4_10) (fun _ _ => ⟨rfl, e2, (by decide : 0 + 0 ≤ _), (by decide : 0 + 0 ≤ _)⟩)
  dsimp only [Pt.U, Pt.locs, Pt.cells, Pt.slots] at X3 l3 y3 z3 st3 hQ3
  subst l3 y3 z3
  obtain ⟨rfl, N3, e3⟩ := hQ3
  have N4_ := Fr.app N0 N3
  obtain ⟨T5, h5, X5, e5, W5, st5⟩ := putF X3 hx hZ hown (host := "") (Or.inl (ow hw 232 rfl)) Via.refl e3 A.2.2.2 A.1 (Or.inl (ow hw 233 rfl)) (ow hw 212 rfl) (ty := .int) (by decide) rfl rfl (g := (mkF m 20 #[.val (.ref t), .val (.int 1), .val (.ref y2)] [(.int (1 + 1)), (.ref t)])) rfl rfl (hb hby d_53_4_20)
  have N5 := Fr.snoc X5 N4_ gt
  have K6_ := (Keep.refl h0 [t]).wr W5 (Or.inl (List.mem_of_getElem? (i := 0) rfl))
  have F5 := A.2.2.2.same W5
  have f7_ := (A.1.wr W5)
  have f8_ := (A.2.1.other W5 (Or.inr (slot_ne (Or.inr (ow hw 229 rfl)) (Or.inl (ow hw 233 rfl)) (by decide) (t := (.object "java/util/List")) (by decide) (t' := .int) (by decide))))
  have f9_ := (A.2.2.1.other W5 (Or.inr (slot_ne (Or.inr (ow hw 231 rfl)) (Or.inl (ow hw 233 rfl)) (by decide) (t := .int) (by decide) (t' := .int) (by decide))))
  obtain ⟨fs, hr, hrun, hended, hW, hsame⟩ := X5.leave (v := some (.ref y2)) (fun h => by rw [Bd.returns] at h; cases h)
  refine ⟨_, _, pre0 _ ?_, hrun, hended, _, _, rfl, ?_, ⟨_, rfl⟩, hW, hsame.mono (by decide) (by decide)⟩
  · show Steps _ _ _ (s₁.setTop (mkF m 0 #[.val (.ref t), .unset, .unset] [])) _
    refine XS.aloadN X0.here hx rfl (hb hby d_53_4_0) rfl rfl ?_
    show Steps _ _ _ (s₁.setTop (mkF m 1 #[.val (.ref t), .unset, .unset] [(.ref t)])) _
    refine st1 _ ?_
    show Steps _ _ _ (T1.setTop (mkF m 4 #[.val (.ref t), .unset, .unset] [(.int 1)])) _
    refine XS.istoreN X1.here hx rfl (hb hby d_53_4_4) rfl rfl ?_
    refine XS.aloadN X1.here hx rfl (hb hby d_53_4_5) rfl rfl ?_
    show Steps _ _ _ (T1.setTop (mkF m 6 #[.val (.ref t), .val (.int 1), .unset] [(.ref t)])) _
    refine st2 _ ?_
    refine XS.iloadN X2.here hx rfl (hb hby d_53_4_9) rfl ?_
    show Steps _ _ _ (T2.setTop (mkF m 10 #[.val (.ref t), .val (.int 1), .unset] [(.int 1), (.ref r)])) _
    refine st3.trans ?_
    show Steps _ _ _ (T3.setTop (mkF m 15 #[.val (.ref t), .val (.int 1), .unset] [(.ref y2)])) _
    refine XS.astoreN X3.here hx rfl (hb hby d_53_4_15) rfl rfl rfl ?_
    refine XS.aloadN X3.here hx rfl (hb hby d_53_4_16) rfl rfl ?_
    refine XS.iloadN X3.here hx rfl (hb hby d_53_4_17) rfl ?_
    refine XT.iconstV X3.here hx rfl 1 (hb hby d_53_4_18) rfl ?_
    show Steps _ _ _ (T3.setTop (mkF m 19 #[.val (.ref t), .val (.int 1), .val (.ref y2)] [(.int 1), (.int 1), (.ref t)])) _
    refine XS.iadd X3.here hx rfl (hb hby d_53_4_19) rfl ?_
    show Steps _ _ _ (T3.setTop (mkF m 20 #[.val (.ref t), .val (.int 1), .val (.ref y2)] [(.int (1 + 1)), (.ref t)])) _
    refine st5 _ ?_
    refine XS.aloadN X5.here hx rfl (hb hby d_53_4_23) rfl rfl ?_
    show Steps _ _ _ (T5.setTop (mkF m 24 #[.val (.ref t), .val (.int 1), .val (.ref y2)] [(.ref y2)])) _
    exact retOut X5 hx Bd.returns rfl (Or.inr (Or.inr (Or.inr (Or.inr ⟨rfl, rfl, rfl⟩)))) (hb hby d_53_4_24) hr
  · show own_QNx Z t r y2 n 1 h0 n0 _ T5.heap _
    rw [e5]
    exact ⟨rfl, N5, K6_, ⟨f7_, f8_, f9_, F5⟩⟩
theorem own_ef_nxN_2 (m : MethodId) (x0 : Addr) : entryFrame m #[(.ref x0)] 3 = mkF m 0 #[.val (.ref x0), .unset, .unset] [] := by first | (simp [entryFrame, mkF, argsToLocals, Value.category]; done) | rfl
theorem own_nxN_2 (l : Launch) (Z : State) (a0 : Array Value) (hw : ∀ d ∈ tables_1, d.before a0 Z = true) (ws : List Jvm.Cond) {D IC EL EE EM MO b0 b1 : Addr} {cD cI cE : Cell} (G : own_G Z D IC EL EE EM MO b0 b1 cD cI cE) (t r : Addr) (n : Int32) (q y1 y2 y3 : Addr) (av0 : Value) (h0 : Heap) (n0 : Nat) (Z0 : n0 ≤ h0.size) (A : own_It Z h0 t r n 2) (gt : n0 ≤ t) (B : own_LN Z h0 r (.ref q) av0) (B' : own_Oa Z h0 q 3 [.ref y1, .ref y2, .ref y3]) (O : Old Z n0 h0) :
    MetFree l (⟨"java/util/ImmutableCollections$ListItr", "next", "()Ljava/lang/Object;"⟩ : MethodName) (head1 ((Jvm.Cond.codeWith (⟨"java/util/ImmutableCollections$ListItr", "next", "()Ljava/lang/Object;"⟩ : MethodName) jdk_53_method_4_code 3 (some (.object "java/lang/Object")) [((0 : Nat), (24 : Nat), (25 : Nat), (30 : Nat))]) :: ws) ({ frames := 1, cells := 0, slots := 0, locals := 13 } : Room)) (fun av U => av = #[(.ref t)] ∧ Z.Warmed39 U.vm ∧ U.heap = h0) (fun _ _ _ _ _ => True) (fun _ U oc U' => ∃ v L, oc = .returned v ∧ own_QNx Z t r y3 n 2 h0 n0 v U'.heap L ∧ FrameEnd U oc U' L ({ frames := 1, cells := 0, slots := 0, locals := 13 } : Room).cells ({ frames := 1, cells := 0, slots := 0, locals := 13 } : Room).slots) := by
  refine MetFree.of_bodySF (plainFor_of_name own_pn14) hisWith ?_
  intro p e s m args below meth c s₁ Bd hml0 hP hK
  obtain ⟨rfl, hZ, hh⟩ := hP
  have hx := Bd.exec
  have hby := Bd.bytes
  have hml : c.maxLocals = 3 := hml0
  have hown : s.vm.findClass "java/util/ImmutableCollections$ListItr" = some m.cls := findClass_of_methodNamed Bd.named
  have hnm := (name_of_methodNamed Bd.named Bd.method).1
  have X0 : Stand p l e ({ frames := 1, cells := 0, slots := 0, locals := 13 } : Room) s m #[(.ref t)] below meth c s₁ [] 0 0 := Stand.of_body Bd
  have e0 : s₁.heap = h0 := by rw [← hh, Bd.state]; rfl
  have N0 := Fr.nil n0
  have pre0 : ∀ tt, Steps p.tables e below (s₁.setTop (mkF m 0 #[.val (.ref t), .unset, .unset] [])) tt → Steps p.tables e below (s₁.setTop (entryFrame m #[(.ref t)] 3)) tt := fun tt k' => castTop (own_ef_nxN_2 m t) k'
  obtain ⟨T1, X1, e1, st1⟩ := getF X0 hx hZ hown (host := "") (Or.inl (ow hw 232 rfl)) Via.refl e0 A.2.2.2 (g := (mkF m 1 #[.val (.ref t), .unset, .unset] [(.ref t)])) rfl rfl (hb hby d_53_4_1)
  obtain ⟨T2, X2, e2, st2⟩ := getF X1 hx hZ hown (host := "") (Or.inl (ow hw 228 rfl)) Via.refl e1 A.2.1 (g := (mkF m 6 #[.val (.ref t), .val (.int 2), .unset] [(.ref t)])) rfl rfl (hb hby d_53_4_6)
  obtain ⟨cq3, kq3, q3a, q3b, q3c⟩ := isOf hZ e2 B.1
  obtain ⟨_, _, ⟨T3, L3, k3, n3⟩, -, X3, ⟨Lc3, hQ3, l3, y3, z3⟩, st3⟩ := X2.interfaceBack hx (xi := (⟨"java/util/List", "get", "(I)Ljava/lang/Object;"⟩ : MethodName)) (y := (⟨"java/util/ImmutableCollections$ListN", "get", "(I)Ljava/lang/Object;"⟩ : MethodName)) hown (mvT hZ (ow hw 277 rfl)) (mvT hZ (ow hw 278 rfl)) (mvT hZ (ow hw 279 rfl)) (mvT hZ (ow hw 318 rfl)) (mvT hZ (ow hw 319 rfl)) (mvT hZ (ow hw 320 rfl)) (mvT hZ (ow hw 321 rfl)) (mvT hZ (ow hw 209 rfl)) (by decide) (backOf (W := 0) (own_gN_2 l Z a0 hw [] G r q y1 y2 y3 av0 h0 n0 Z0 B B' O) hZ (ow hw 322 rfl) (ow hw 219 rfl) (by decide) (by decide)) q3a q3b q3c (g := (mkF m 10 #[.val (.ref t), .val (.int 2), .unset] [(.int 2), (.ref r)])) rfl (by rw [hml]; rfl) (Steps.refl _) (argsL := [(.int 2)]) (rest := []) (lenOf own_pd17 rfl) rfl (by show 2 * 0 + _ ≤ _; exact Nat.le_of_eq rfl) (hb hby d_53_4_10) (fun _ _ => ⟨rfl, e2, (by decide : 0 + 0 ≤ _), (by decide : 0 + 0 ≤ _)⟩)
  dsimp only [Pt.U, Pt.locs, Pt.cells, Pt.slots] at X3 l3 y3 z3 st3 hQ3
  subst l3 y3 z3
  obtain ⟨rfl, N3, e3⟩ := hQ3
  have N4_ := Fr.app N0 N3
  obtain ⟨T5, h5, X5, e5, W5, st5⟩ := putF X3 hx hZ hown (host := "") (Or.inl (ow hw 232 rfl)) Via.refl e3 A.2.2.2 A.1 (Or.inl (ow hw 233 rfl)) (ow hw 212 rfl) (ty := .int) (by decide) rfl rfl (g := (mkF m 20 #[.val (.ref t), .val (.int 2), .val (.ref y3)] [(.int (2 + 1)), (.ref t)])) rfl rfl (hb hby d_53_4_20)
  have N5 := Fr.snoc X5 N4_ gt
  have K6_ := (Keep.refl h0 [t]).wr W5 (Or.inl (List.mem_of_getElem? (i := 0) rfl))
  have F5 := A.2.2.2.same W5
  have f7_ := (A.1.wr W5)
  have f8_ := (A.2.1.other W5 (Or.inr (slot_ne (Or.inr (ow hw 229 rfl)) (Or.inl (ow hw 233 rfl)) (by decide) (t := (.object "java/util/List")) (by decide) (t' := .int) (by decide))))
  have f9_ := (A.2.2.1.other W5 (Or.inr (slot_ne (Or.inr (ow hw 231 rfl)) (Or.inl (ow hw 233 rfl)) (by decide) (t := .int) (by decide) (t' := .int) (by decide))))
  obtain ⟨fs, hr, hrun, hended, hW, hsame⟩ := X5.leave (v := some (.ref y3)) (fun h => by rw [Bd.returns] at h; cases h)
  refine ⟨_, _, pre0 _ ?_, hrun, hended, _, _, rfl, ?_, ⟨_, rfl⟩, hW, hsame.mono (by decide) (by decide)⟩
  · show Steps _ _ _ (s₁.setTop (mkF m 0 #[.val (.ref t), .unset, .unset] [])) _
    refine XS.aloadN X0.here hx rfl (hb hby d_53_4_0) rfl rfl ?_
    show Steps _ _ _ (s₁.setTop (mkF m 1 #[.val (.ref t), .unset, .unset] [(.ref t)])) _
    refine st1 _ ?_
    show Steps _ _ _ (T1.setTop (mkF m 4 #[.val (.ref t), .unset, .unset] [(.int 2)])) _
    refine XS.istoreN X1.here hx rfl (hb hby d_53_4_4) rfl rfl ?_
    refine XS.aloadN X1.here hx rfl (hb hby d_53_4_5) rfl rfl ?_
    show Steps _ _ _ (T1.setTop (mkF m 6 #[.val (.ref t), .val (.int 2), .unset] [(.ref t)])) _
    refine st2 _ ?_
    refine XS.iloadN X2.here hx rfl (hb hby d_53_4_9) rfl ?_
    show Steps _ _ _ (T2.setTop (mkF m 10 #[.val (.ref t), .val (.int 2), .unset] [(.int 2), (.ref r)])) _
    refine st3.trans ?_
    show Steps _ _ _ (T3.setTop (mkF m 15 #[.val (.ref t), .val (.int 2), .unset] [(.ref y3)])) _
    refine XS.astoreN X3.here hx rfl (hb hby d_53_4_15) rfl rfl rfl ?_
    refine XS.aloadN X3.here hx rfl (hb hby d_53_4_16) rfl rfl ?_
    refine XS.iloadN X3.here hx rfl (hb hby d_53_4_17) rfl ?_
    refine XT.iconstV X3.here hx rfl 1 (hb hby d_53_4_18) rfl ?_
    show Steps _ _ _ (T3.setTop (mkF m 19 #[.val (.ref t), .val (.int 2), .val (.ref y3)] [(.int 1), (.int 2), (.ref t)])) _
    refine XS.iadd X3.here hx rfl (hb hby d_53_4_19) rfl ?_
    show Steps _ _ _ (T3.setTop (mkF m 20 #[.val (.ref t), .val (.int 2), .val (.ref y3)] [(.int (2 + 1)), (.ref t)])) _
    refine st5 _ ?_
    refine XS.aloadN X5.here hx rfl (hb hby d_53_4_23) rfl rfl ?_
    show Steps _ _ _ (T5.setTop (mkF m 24 #[.val (.ref t), .val (.int 2), .val (.ref y3)] [(.ref y3)])) _
    exact retOut X5 hx Bd.returns rfl (Or.inr (Or.inr (Or.inr (Or.inr ⟨rfl, rfl, rfl⟩)))) (hb hby d_53_4_24) hr
  · show own_QNx Z t r y3 n 2 h0 n0 _ T5.heap _
    rw [e5]
    exact ⟨rfl, N5, K6_, ⟨f7_, f8_, f9_, F5⟩⟩
theorem own_nxA (l : Launch) (Z : State) (a0 : Array Value) (hw : ∀ d ∈ tables_1, d.before a0 Z = true) (ws : List Jvm.Cond) {D IC EL EE EM MO b0 b1 : Addr} {cD cI cE : Cell} (G : own_G Z D IC EL EE EM MO b0 b1 cD cI cE) (t r y : Addr) (xs : List Addr) (n k : Int32) (i : Nat) (hk : k = Int32.ofNat i) (hi : xs[i]? = some y) (h0 : Heap) (n0 : Nat) (Z0 : n0 ≤ h0.size) (A : own_It Z h0 t r n k) (gt : n0 ≤ t) (B : own_IL Z EL EM h0 r xs) (O : Old Z n0 h0) :
    MetFree l (⟨"java/util/ImmutableCollections$ListItr", "next", "()Ljava/lang/Object;"⟩ : MethodName) (head1 ((Jvm.Cond.codeWith (⟨"java/util/ImmutableCollections$ListItr", "next", "()Ljava/lang/Object;"⟩ : MethodName) jdk_53_method_4_code 3 (some (.object "java/lang/Object")) [((0 : Nat), (24 : Nat), (25 : Nat), (30 : Nat))]) :: ws) ({ frames := 1, cells := 0, slots := 0, locals := 13 } : Room)) (fun av U => av = #[(.ref t)] ∧ Z.Warmed39 U.vm ∧ U.heap = h0) (fun _ _ _ _ _ => True) (fun _ U oc U' => ∃ v L, oc = .returned v ∧ own_QNx Z t r y n k h0 n0 v U'.heap L ∧ FrameEnd U oc U' L ({ frames := 1, cells := 0, slots := 0, locals := 13 } : Room).cells ({ frames := 1, cells := 0, slots := 0, locals := 13 } : Room).slots) := by
  subst hk
  match xs, B, i, hi, A with
  | [x], B, 0, hi, A => cases hi; exact own_nx12_0 l Z a0 hw ws G t r n _ _ h0 n0 Z0 A gt B O
  | [x, x'], B, 0, hi, A => cases hi; exact own_nx12_0 l Z a0 hw ws G t r n _ _ h0 n0 Z0 A gt B.1 O
  | [x, x'], B, 1, hi, A => cases hi; exact own_nx12_1 l Z a0 hw ws G t r n _ _ B.2 h0 n0 Z0 A gt B.1 O
  | [y1, y2, y3], B, 0, hi, A => cases hi; obtain ⟨q, B, B'⟩ := B; exact own_nxN_0 l Z a0 hw ws G t r n q _ _ _ _ h0 n0 Z0 A gt B B' O
  | [y1, y2, y3], B, 1, hi, A => cases hi; obtain ⟨q, B, B'⟩ := B; exact own_nxN_1 l Z a0 hw ws G t r n q _ _ _ _ h0 n0 Z0 A gt B B' O
  | [y1, y2, y3], B, 2, hi, A => cases hi; obtain ⟨q, B, B'⟩ := B; exact own_nxN_2 l Z a0 hw ws G t r n q _ _ _ _ h0 n0 Z0 A gt B B' O
  | [], _, i, hi, _ => simp at hi
  | [x], _, i + 1, hi, _ => simp at hi
  | [x, x'], _, i + 2, hi, _ => simp at hi
  | [y1, y2, y3], _, i + 3, hi, _ => simp at hi
  | _ :: _ :: _ :: _ :: _, B, _, _, _ => exact B.elim
end OwnE
/-! ## Instance.traffic, in pieces (printed by gen302_e.py) -/
section OwnF
variable {p : Program} {l : Launch} {e : Env} {s : State} {m : MethodId} {args : Array Value} {below : List Frame} {meth : Method} {c : Code} {T : State} {locs : List Loc} {Z : State} {a0 : Array Value} {h : Heap} {n0 : Nat}
theorem d_prog_6_8_0 : decode prog_6_method_8_code 0 = .ok (.aload_n 0, 1) := by decide +kernel
theorem d_prog_6_8_1 : decode prog_6_method_8_code 1 = .ok (.getfield 23, 3) := by decide +kernel
theorem d_prog_6_8_4 : decode prog_6_method_8_code 4 = .ok (.invokeinterface 35 1, 5) := by decide +kernel
theorem d_prog_6_8_9 : decode prog_6_method_8_code 9 = .ok (.aload_n 0, 1) := by decide +kernel
theorem d_prog_6_8_10 : decode prog_6_method_8_code 10 = .ok (.getfield 26, 3) := by decide +kernel
theorem d_prog_6_8_13 : decode prog_6_method_8_code 13 = .ok (.invokeinterface 35 1, 5) := by decide +kernel
theorem d_prog_6_8_18 : decode prog_6_method_8_code 18 = .ok (.multianewarray 39 2, 4) := by decide +kernel
theorem d_prog_6_8_22 : decode prog_6_method_8_code 22 = .ok (.astore_n 1, 1) := by decide +kernel
theorem d_prog_6_8_23 : decode prog_6_method_8_code 23 = .ok (.aload_n 0, 1) := by decide +kernel
theorem d_prog_6_8_24 : decode prog_6_method_8_code 24 = .ok (.getfield 32, 3) := by decide +kernel
theorem own_t0 (X : Stand p l e ({ frames := 3, cells := 4, slots := 10, locals := 39 } : Room) s m args below meth c T locs 0 0) (hx : p.tables.exec = Jvm.exec) (hZ : Z.Warmed39 s.vm) (hw : ∀ d ∈ tables_1, d.before a0 Z = true) {D IC EL EE EM MO b0 b1 : Addr} {cD cI cE : Cell} (G : own_G Z D IC EL EE EM MO b0 b1 cD cI cE) (hby : c.code = prog_6_method_8_code) (hml : c.maxLocals = 4) (hown : s.vm.findClass "com/example/overweave/overweave/Instance" = some m.cls) (eT : T.heap = h) (N0 : Fr n0 locs) (Z0 : n0 ≤ h.size) (O : Old Z n0 h) {o ru rd rq : Addr} {us ds : List Addr} {n1 n2 : Int32} (I : own_In Z h o ru rd rq) (IU : own_IL Z EL EM h ru us) (ID : own_IL Z EL EM h rd ds) (hn1 : (n1 = 1 ∧ us.length = 1) ∨ (n1 = 2 ∧ us.length = 2)) (hn2 : (n2 = 1 ∧ ds.length = 1) ∨ (n2 = 2 ∧ ds.length = 2)) :
    ∃ T' h' L' g, Stand p l e ({ frames := 3, cells := 4, slots := 10, locals := 39 } : Room) s m args below meth c T' L' 3 6 ∧ T'.heap = h' ∧ Fr n0 L' ∧ Ext h h' ∧ h.size ≤ g ∧ own_Gr Z g h' g n1 n2 0 0 0 0 ∧ ∀ target, Steps p.tables e below (T'.setTop (mkF m 27 #[.val (.ref o), .val (.ref g), .unset, .unset] [(.ref rq)])) target → Steps p.tables e below (T.setTop (mkF m 0 #[.val (.ref o), .unset, .unset, .unset] [])) target := by
  obtain ⟨T1, X1, e1, st1⟩ := getF X hx hZ hown (host := "") (Or.inl (ow hw 177 rfl)) Via.refl eT I.2.1 (g := (mkF m 1 #[.val (.ref o), .unset, .unset, .unset] [(.ref o)])) rfl rfl (hb hby d_prog_6_8_1)
  obtain ⟨cq2, kq2, q2a, q2b, q2c⟩ := isOf hZ e1 (IU.exa12 (hn1.imp (·.2) (·.2)))
  obtain ⟨_, _, ⟨T2, L2, k2, n2⟩, -, X2, ⟨Lc2, hQ2, l2, y2, z2⟩, st2⟩ := X1.interfaceBack hx (xi := (⟨"java/util/List", "size", "()I"⟩ : MethodName)) (y := (⟨"java/util/ImmutableCollections$List12", "size", "()I"⟩ : MethodName)) hown (mvT hZ (ow hw 190 rfl)) (mvT hZ (ow hw 191 rfl)) (mvT hZ (ow hw 192 rfl)) (mvT hZ (ow hw 193 rfl)) (mvT hZ (ow hw 194 rfl)) (mvT hZ (ow hw 195 rfl)) (mvT hZ (ow hw 196 rfl)) (mvT hZ (ow hw 197 rfl)) (by decide) (backOf (W := 0) (own_szA l Z a0 hw [] G ru us n1 hn1 h n0 Z0 IU O) hZ (ow hw 198 rfl) (ow hw 149 rfl) (by decide) (by decide)) q2a q2b q2c (g := (mkF m 4 #[.val (.ref o), .unset, .unset, .unset] [(.ref ru)])) rfl (by rw [hml]; rfl) (Steps.refl _) (argsL := []) (rest := []) (lenOf own_pd15 rfl) rfl (by show 2 * 0 + _ ≤ _; exact Nat.le_of_eq rfl) (hb hby d_prog_6_8_4) (fun _ _ => ⟨rfl, e1, (by decide : 0 + 0 ≤ _), (by decide : 0 + 0 ≤ _)⟩)
  dsimp only [Pt.U, Pt.locs, Pt.cells, Pt.slots] at X2 l2 y2 z2 st2 hQ2
  subst l2 y2 z2
  obtain ⟨rfl, N2, e2⟩ := hQ2
  have N3_ := Fr.app N0 N2
  obtain ⟨T4, X4, e4, st4⟩ := getF X2 hx hZ hown (host := "") (Or.inl (ow hw 179 rfl)) Via.refl e2 I.2.2.1 (g := (mkF m 10 #[.val (.ref o), .unset, .unset, .unset] [(.ref o), (.int n1)])) rfl rfl (hb hby d_prog_6_8_10)
  obtain ⟨cq5, kq5, q5a, q5b, q5c⟩ := isOf hZ e4 (ID.exa12 (hn2.imp (·.2) (·.2)))
  obtain ⟨_, _, ⟨T5, L5, k5, n5⟩, -, X5, ⟨Lc5, hQ5, l5, y5, z5⟩, st5⟩ := X4.interfaceBack hx (xi := (⟨"java/util/List", "size", "()I"⟩ : MethodName)) (y := (⟨"java/util/ImmutableCollections$List12", "size", "()I"⟩ : MethodName)) hown (mvT hZ (ow hw 190 rfl)) (mvT hZ (ow hw 191 rfl)) (mvT hZ (ow hw 192 rfl)) (mvT hZ (ow hw 193 rfl)) (mvT hZ (ow hw 194 rfl)) (mvT hZ (ow hw 195 rfl)) (mvT hZ (ow hw 196 rfl)) (mvT hZ (ow hw 197 rfl)) (by decide) (backOf (W := 1) (own_szA l Z a0 hw [] G rd ds n2 hn2 h n0 Z0 ID O) hZ (ow hw 198 rfl) (ow hw 149 rfl) (by decide) (by decide)) q5a q5b q5c (g := (mkF m 13 #[.val (.ref o), .unset, .unset, .unset] [(.ref rd), (.int n1)])) rfl (by rw [hml]; rfl) (Steps.refl _) (argsL := []) (rest := [(.int n1)]) (lenOf own_pd15 rfl) rfl (by show 2 * 0 + _ ≤ _; exact Nat.le_of_eq rfl) (hb hby d_prog_6_8_13) (fun _ _ => ⟨rfl, e4, (by decide : 0 + 0 ≤ _), (by decide : 0 + 0 ≤ _)⟩)
  dsimp only [Pt.U, Pt.locs, Pt.cells, Pt.slots] at X5 l5 y5 z5 st5 hQ5
  subst l5 y5 z5
  obtain ⟨rfl, N5, e5⟩ := hQ5
  have N6_ := Fr.app N3_ N5
  obtain ⟨T7, h7, X7, e7, E7, G7, st7⟩ := own_grid X5 hx hZ hown (ow hw 199 rfl) (ow hw 200 rfl) (ow hw 201 rfl) e5 (g := (mkF m 18 #[.val (.ref o), .unset, .unset, .unset] [(.int n2), (.int n1)])) rfl (hb hby d_prog_6_8_18) rfl (hn1.imp (·.1) (·.1)) (hn2.imp (·.1) (·.1)) (by decide) (by decide)
  obtain ⟨g, go_g⟩ : ∃ z, z = h.size := ⟨_, rfl⟩
  rw [← go_g] at G7 st7
  have gh_g := (Nat.le_of_eq go_g.symm : h.size ≤ g)
  have ge_g := Nat.le_trans Z0 gh_g
  have K8_ := (Keep.refl h []).ext E7
  have f10_ := (I.2.2.2.ext E7)
  obtain ⟨T9, X9, e9, st9⟩ := getF X7 hx hZ hown (host := "") (Or.inl (ow hw 183 rfl)) Via.refl e7 f10_ (g := (mkF m 24 #[.val (.ref o), .val (.ref g), .unset, .unset] [(.ref o)])) rfl rfl (hb hby d_prog_6_8_24)
  refine ⟨T9, h7, _, g, X9, e9, N6_, E7, gh_g, G7, fun target k' => ?_⟩
  show Steps _ _ _ (T.setTop (mkF m 0 #[.val (.ref o), .unset, .unset, .unset] [])) _
  refine XS.aloadN X.here hx rfl (hb hby d_prog_6_8_0) rfl rfl ?_
  show Steps _ _ _ (T.setTop (mkF m 1 #[.val (.ref o), .unset, .unset, .unset] [(.ref o)])) _
  refine st1 _ ?_
  show Steps _ _ _ (T1.setTop (mkF m 4 #[.val (.ref o), .unset, .unset, .unset] [(.ref ru)])) _
  refine st2.trans ?_
  refine XS.aloadN X2.here hx rfl (hb hby d_prog_6_8_9) rfl rfl ?_
  show Steps _ _ _ (T2.setTop (mkF m 10 #[.val (.ref o), .unset, .unset, .unset] [(.ref o), (.int n1)])) _
  refine st4 _ ?_
  show Steps _ _ _ (T4.setTop (mkF m 13 #[.val (.ref o), .unset, .unset, .unset] [(.ref rd), (.int n1)])) _
  refine st5.trans ?_
  show Steps _ _ _ (T5.setTop (mkF m 18 #[.val (.ref o), .unset, .unset, .unset] [(.int n2), (.int n1)])) _
  refine st7 _ ?_
  show Steps _ _ _ (T7.setTop (mkF m 22 #[.val (.ref o), .unset, .unset, .unset] [(.ref g)])) _
  refine XS.astoreN X7.here hx rfl (hb hby d_prog_6_8_22) rfl rfl rfl ?_
  refine XS.aloadN X7.here hx rfl (hb hby d_prog_6_8_23) rfl rfl ?_
  show Steps _ _ _ (T7.setTop (mkF m 24 #[.val (.ref o), .val (.ref g), .unset, .unset] [(.ref o)])) _
  refine st9 _ ?_
  show Steps _ _ _ (T9.setTop (mkF m 27 #[.val (.ref o), .val (.ref g), .unset, .unset] [(.ref rq)])) _
  exact k'
theorem own_pd18 : parseMethodDescriptor "()Ljava/util/Iterator;" = some ⟨[], some (.object "java/util/Iterator")⟩ := by decide +kernel
theorem d_prog_6_8_27 : decode prog_6_method_8_code 27 = .ok (.invokeinterface 41 1, 5) := by decide +kernel
theorem d_prog_6_8_32 : decode prog_6_method_8_code 32 = .ok (.astore_n 2, 1) := by decide +kernel
theorem own_t27_1 (X : Stand p l e ({ frames := 3, cells := 4, slots := 10, locals := 39 } : Room) s m args below meth c T locs 3 6) (hx : p.tables.exec = Jvm.exec) (hZ : Z.Warmed39 s.vm) (hw : ∀ d ∈ tables_1, d.before a0 Z = true) {D IC EL EE EM MO b0 b1 : Addr} {cD cI cE : Cell} (G : own_G Z D IC EL EE EM MO b0 b1 cD cI cE) (hby : c.code = prog_6_method_8_code) (hml : c.maxLocals = 4) (hown : s.vm.findClass "com/example/overweave/overweave/Instance" = some m.cls) (eT : T.heap = h) (N0 : Fr n0 locs) (Z0 : n0 ≤ h.size) (O : Old Z n0 h) {o g r : Addr} {v0 : Value} (A : own_L12 Z h r v0 (.ref EM)) :
    ∃ T' h' L' t, Stand p l e ({ frames := 3, cells := 4, slots := 10, locals := 39 } : Room) s m args below meth c T' L' 4 10 ∧ T'.heap = h' ∧ Fr n0 L' ∧ Keep h h' [] ∧ h.size ≤ t ∧ own_It Z h' t r 1 0 ∧ ∀ target, Steps p.tables e below (T'.setTop (mkF m 33 #[.val (.ref o), .val (.ref g), .val (.ref t), .unset] [])) target → Steps p.tables e below (T.setTop (mkF m 27 #[.val (.ref o), .val (.ref g), .unset, .unset] [(.ref r)])) target := by
  obtain ⟨cq1, kq1, q1a, q1b, q1c⟩ := isOf hZ eT A.1
  obtain ⟨_, _, ⟨T1, L1, k1, n1⟩, -, X1, ⟨Lc1, hQ1, l1, y1, z1⟩, st1⟩ := X.interfaceBack hx (xi := (⟨"java/util/List", "iterator", "()Ljava/util/Iterator;"⟩ : MethodName)) (y := (⟨"java/util/ImmutableCollections$AbstractImmutableList", "iterator", "()Ljava/util/Iterator;"⟩ : MethodName)) hown (mvT hZ (ow hw 202 rfl)) (mvT hZ (ow hw 203 rfl)) (mvT hZ (ow hw 204 rfl)) (mvT hZ (ow hw 266 rfl)) (mvT hZ (ow hw 206 rfl)) (mvT hZ (ow hw 207 rfl)) (mvT hZ (ow hw 267 rfl)) (mvT hZ (ow hw 197 rfl)) (by decide) (backOf (W := 0) (own_itr1 l Z a0 hw [] G r v0 h n0 Z0 A O) hZ (ow hw 210 rfl) (ow hw 158 rfl) (by decide) (by decide)) q1a q1b q1c (g := (mkF m 27 #[.val (.ref o), .val (.ref g), .unset, .unset] [(.ref r)])) rfl (by rw [hml]; rfl) (Steps.refl _) (argsL := []) (rest := []) (lenOf own_pd18 rfl) rfl (by show 2 * 0 + _ ≤ _; exact Nat.le_of_eq rfl) (hb hby d_prog_6_8_27) (fun _ _ => ⟨rfl, eT, (by decide : 3 + 1 ≤ _), (by decide : 6 + 4 ≤ _)⟩)
  dsimp only [Pt.U, Pt.locs, Pt.cells, Pt.slots] at X1 l1 y1 z1 st1 hQ1
  subst l1 y1 z1
  obtain ⟨h1, e1⟩ : ∃ z, T1.heap = z := ⟨_, rfl⟩
  rw [e1] at hQ1
  obtain ⟨t, rfl, N1, K1, g1, A1⟩ := hQ1
  have N2_ := Fr.app N0 N1
  have K3_ := (Keep.refl h []).trans K1 all0
  refine ⟨T1, h1, _, t, X1, e1, N2_, K1, g1, A1, fun target k' => ?_⟩
  show Steps _ _ _ (T.setTop (mkF m 27 #[.val (.ref o), .val (.ref g), .unset, .unset] [(.ref r)])) _
  refine st1.trans ?_
  show Steps _ _ _ (T1.setTop (mkF m 32 #[.val (.ref o), .val (.ref g), .unset, .unset] [(.ref t)])) _
  refine XS.astoreN X1.here hx rfl (hb hby d_prog_6_8_32) rfl rfl rfl ?_
  show Steps _ _ _ (T1.setTop (mkF m 33 #[.val (.ref o), .val (.ref g), .val (.ref t), .unset] [])) _
  exact k'
theorem own_t27_2 (X : Stand p l e ({ frames := 3, cells := 4, slots := 10, locals := 39 } : Room) s m args below meth c T locs 3 6) (hx : p.tables.exec = Jvm.exec) (hZ : Z.Warmed39 s.vm) (hw : ∀ d ∈ tables_1, d.before a0 Z = true) {D IC EL EE EM MO b0 b1 : Addr} {cD cI cE : Cell} (G : own_G Z D IC EL EE EM MO b0 b1 cD cI cE) (hby : c.code = prog_6_method_8_code) (hml : c.maxLocals = 4) (hown : s.vm.findClass "com/example/overweave/overweave/Instance" = some m.cls) (eT : T.heap = h) (N0 : Fr n0 locs) (Z0 : n0 ≤ h.size) (O : Old Z n0 h) {o g r : Addr} {v0 : Value} {y : Addr} (hE : y ≠ EM) (A : own_L12 Z h r v0 (.ref y)) :
    ∃ T' h' L' t, Stand p l e ({ frames := 3, cells := 4, slots := 10, locals := 39 } : Room) s m args below meth c T' L' 4 10 ∧ T'.heap = h' ∧ Fr n0 L' ∧ Keep h h' [] ∧ h.size ≤ t ∧ own_It Z h' t r 2 0 ∧ ∀ target, Steps p.tables e below (T'.setTop (mkF m 33 #[.val (.ref o), .val (.ref g), .val (.ref t), .unset] [])) target → Steps p.tables e below (T.setTop (mkF m 27 #[.val (.ref o), .val (.ref g), .unset, .unset] [(.ref r)])) target := by
  obtain ⟨cq1, kq1, q1a, q1b, q1c⟩ := isOf hZ eT A.1
  obtain ⟨_, _, ⟨T1, L1, k1, n1⟩, -, X1, ⟨Lc1, hQ1, l1, y1, z1⟩, st1⟩ := X.interfaceBack hx (xi := (⟨"java/util/List", "iterator", "()Ljava/util/Iterator;"⟩ : MethodName)) (y := (⟨"java/util/ImmutableCollections$AbstractImmutableList", "iterator", "()Ljava/util/Iterator;"⟩ : MethodName)) hown (mvT hZ (ow hw 202 rfl)) (mvT hZ (ow hw 203 rfl)) (mvT hZ (ow hw 204 rfl)) (mvT hZ (ow hw 266 rfl)) (mvT hZ (ow hw 206 rfl)) (mvT hZ (ow hw 207 rfl)) (mvT hZ (ow hw 267 rfl)) (mvT hZ (ow hw 197 rfl)) (by decide) (backOf (W := 0) (own_itr2 l Z a0 hw [] G r v0 y hE h n0 Z0 A O) hZ (ow hw 210 rfl) (ow hw 158 rfl) (by decide) (by decide)) q1a q1b q1c (g := (mkF m 27 #[.val (.ref o), .val (.ref g), .unset, .unset] [(.ref r)])) rfl (by rw [hml]; rfl) (Steps.refl _) (argsL := []) (rest := []) (lenOf own_pd18 rfl) rfl (by show 2 * 0 + _ ≤ _; exact Nat.le_of_eq rfl) (hb hby d_prog_6_8_27) (fun _ _ => ⟨rfl, eT, (by decide : 3 + 1 ≤ _), (by decide : 6 + 4 ≤ _)⟩)
  dsimp only [Pt.U, Pt.locs, Pt.cells, Pt.slots] at X1 l1 y1 z1 st1 hQ1
  subst l1 y1 z1
  obtain ⟨h1, e1⟩ : ∃ z, T1.heap = z := ⟨_, rfl⟩
  rw [e1] at hQ1
  obtain ⟨t, rfl, N1, K1, g1, A1⟩ := hQ1
  have N2_ := Fr.app N0 N1
  have K3_ := (Keep.refl h []).trans K1 all0
  refine ⟨T1, h1, _, t, X1, e1, N2_, K1, g1, A1, fun target k' => ?_⟩
  show Steps _ _ _ (T.setTop (mkF m 27 #[.val (.ref o), .val (.ref g), .unset, .unset] [(.ref r)])) _
  refine st1.trans ?_
  show Steps _ _ _ (T1.setTop (mkF m 32 #[.val (.ref o), .val (.ref g), .unset, .unset] [(.ref t)])) _
  refine XS.astoreN X1.here hx rfl (hb hby d_prog_6_8_32) rfl rfl rfl ?_
  show Steps _ _ _ (T1.setTop (mkF m 33 #[.val (.ref o), .val (.ref g), .val (.ref t), .unset] [])) _
  exact k'
theorem own_t27_N (X : Stand p l e ({ frames := 3, cells := 4, slots := 10, locals := 39 } : Room) s m args below meth c T locs 3 6) (hx : p.tables.exec = Jvm.exec) (hZ : Z.Warmed39 s.vm) (hw : ∀ d ∈ tables_1, d.before a0 Z = true) {D IC EL EE EM MO b0 b1 : Addr} {cD cI cE : Cell} (G : own_G Z D IC EL EE EM MO b0 b1 cD cI cE) (hby : c.code = prog_6_method_8_code) (hml : c.maxLocals = 4) (hown : s.vm.findClass "com/example/overweave/overweave/Instance" = some m.cls) (eT : T.heap = h) (N0 : Fr n0 locs) (Z0 : n0 ≤ h.size) (O : Old Z n0 h) {o g r : Addr} {q : Addr} {cq : Cell} {ty : FieldType} {n : Int32} (S : cq.slots.size.toInt32 = n) (E : Exa Z h r "java/util/ImmutableCollections$ListN") (A : Fld Z h r "java/util/ImmutableCollections$ListN" "elements" "[Ljava/lang/Object;" (.ref q)) (B : Arr Z h q cq ty) :
    ∃ T' h' L' t, Stand p l e ({ frames := 3, cells := 4, slots := 10, locals := 39 } : Room) s m args below meth c T' L' 4 10 ∧ T'.heap = h' ∧ Fr n0 L' ∧ Keep h h' [] ∧ h.size ≤ t ∧ own_It Z h' t r n 0 ∧ ∀ target, Steps p.tables e below (T'.setTop (mkF m 33 #[.val (.ref o), .val (.ref g), .val (.ref t), .unset] [])) target → Steps p.tables e below (T.setTop (mkF m 27 #[.val (.ref o), .val (.ref g), .unset, .unset] [(.ref r)])) target := by
  obtain ⟨cq1, kq1, q1a, q1b, q1c⟩ := isOf hZ eT E
  obtain ⟨_, _, ⟨T1, L1, k1, n1⟩, -, X1, ⟨Lc1, hQ1, l1, y1, z1⟩, st1⟩ := X.interfaceBack hx (xi := (⟨"java/util/List", "iterator", "()Ljava/util/Iterator;"⟩ : MethodName)) (y := (⟨"java/util/ImmutableCollections$AbstractImmutableList", "iterator", "()Ljava/util/Iterator;"⟩ : MethodName)) hown (mvT hZ (ow hw 202 rfl)) (mvT hZ (ow hw 203 rfl)) (mvT hZ (ow hw 204 rfl)) (mvT hZ (ow hw 205 rfl)) (mvT hZ (ow hw 206 rfl)) (mvT hZ (ow hw 207 rfl)) (mvT hZ (ow hw 208 rfl)) (mvT hZ (ow hw 209 rfl)) (by decide) (backOf (W := 0) (own_itrN l Z a0 hw [] G r q cq ty n S h n0 Z0 E A B O) hZ (ow hw 210 rfl) (ow hw 158 rfl) (by decide) (by decide)) q1a q1b q1c (g := (mkF m 27 #[.val (.ref o), .val (.ref g), .unset, .unset] [(.ref r)])) rfl (by rw [hml]; rfl) (Steps.refl _) (argsL := []) (rest := []) (lenOf own_pd18 rfl) rfl (by show 2 * 0 + _ ≤ _; exact Nat.le_of_eq rfl) (hb hby d_prog_6_8_27) (fun _ _ => ⟨rfl, eT, (by decide : 3 + 1 ≤ _), (by decide : 6 + 4 ≤ _)⟩)
  dsimp only [Pt.U, Pt.locs, Pt.cells, Pt.slots] at X1 l1 y1 z1 st1 hQ1
  subst l1 y1 z1
  obtain ⟨h1, e1⟩ : ∃ z, T1.heap = z := ⟨_, rfl⟩
  rw [e1] at hQ1
  obtain ⟨t, rfl, N1, K1, g1, A1⟩ := hQ1
  have N2_ := Fr.app N0 N1
  have K3_ := (Keep.refl h []).trans K1 all0
  refine ⟨T1, h1, _, t, X1, e1, N2_, K1, g1, A1, fun target k' => ?_⟩
  show Steps _ _ _ (T.setTop (mkF m 27 #[.val (.ref o), .val (.ref g), .unset, .unset] [(.ref r)])) _
  refine st1.trans ?_
  show Steps _ _ _ (T1.setTop (mkF m 32 #[.val (.ref o), .val (.ref g), .unset, .unset] [(.ref t)])) _
  refine XS.astoreN X1.here hx rfl (hb hby d_prog_6_8_32) rfl rfl rfl ?_
  show Steps _ _ _ (T1.setTop (mkF m 33 #[.val (.ref o), .val (.ref g), .val (.ref t), .unset] [])) _
  exact k'
theorem own_t27 (X : Stand p l e ({ frames := 3, cells := 4, slots := 10, locals := 39 } : Room) s m args below meth c T locs 3 6) (hx : p.tables.exec = Jvm.exec) (hZ : Z.Warmed39 s.vm) (hw : ∀ d ∈ tables_1, d.before a0 Z = true) {D IC EL EE EM MO b0 b1 : Addr} {cD cI cE : Cell} (G : own_G Z D IC EL EE EM MO b0 b1 cD cI cE) (hby : c.code = prog_6_method_8_code) (hml : c.maxLocals = 4) (hown : s.vm.findClass "com/example/overweave/overweave/Instance" = some m.cls) (eT : T.heap = h) (N0 : Fr n0 locs) (Z0 : n0 ≤ h.size) (O : Old Z n0 h) {o g r : Addr} {xs : List Addr} (A : own_IL Z EL EM h r xs) :
    ∃ T' h' L' t, Stand p l e ({ frames := 3, cells := 4, slots := 10, locals := 39 } : Room) s m args below meth c T' L' 4 10 ∧ T'.heap = h' ∧ Fr n0 L' ∧ Keep h h' [] ∧ h.size ≤ t ∧ own_It Z h' t r (Int32.ofNat xs.length) 0 ∧ ∀ target, Steps p.tables e below (T'.setTop (mkF m 33 #[.val (.ref o), .val (.ref g), .val (.ref t), .unset] [])) target → Steps p.tables e below (T.setTop (mkF m 27 #[.val (.ref o), .val (.ref g), .unset, .unset] [(.ref r)])) target := by
  match xs, A with
  | [], A => obtain rfl : r = EL := A; exact own_t27_N X hx hZ hw G hby hml hown eT N0 Z0 O (n := Int32.ofNat 0) (by rw [G.2.2.2.1.2.2.2.2] <;> rfl) (G.2.2.2.1.2.1.ext O.2) (G.2.2.2.1.2.2.1.ext O.2) (G.2.2.2.1.2.2.2.1.ext O.2)
  | [x], A => exact own_t27_1 X hx hZ hw G hby hml hown eT N0 Z0 O A
  | [x, y], A => exact own_t27_2 X hx hZ hw G hby hml hown eT N0 Z0 O A.2 A.1
  | [x, y, z], A => obtain ⟨q, A, kq, ⟨cq, B, -, S, hz, -⟩, -⟩ := A; exact own_t27_N X hx hZ hw G hby hml hown eT N0 Z0 O (n := Int32.ofNat 3) (len_of (z := 3) S hz) A.1 A.2.1 B
  | _ :: _ :: _ :: _ :: _, A => exact A.elim
theorem own_pd19 : parseMethodDescriptor "()Ljava/lang/Object;" = some ⟨[], some (.object "java/lang/Object")⟩ := by decide +kernel
theorem own_pd20 : parseMethodDescriptor "()D" = some ⟨[], some .double⟩ := by decide +kernel
theorem d_prog_6_8_33 : decode prog_6_method_8_code 33 = .ok (.aload_n 2, 1) := by decide +kernel
theorem d_prog_6_8_34 : decode prog_6_method_8_code 34 = .ok (.invokeinterface 45 1, 5) := by decide +kernel
theorem d_prog_6_8_39 : decode prog_6_method_8_code 39 = .ok (.ifCond .eq 34, 3) := by decide +kernel
theorem d_prog_6_8_42 : decode prog_6_method_8_code 42 = .ok (.aload_n 2, 1) := by decide +kernel
theorem d_prog_6_8_43 : decode prog_6_method_8_code 43 = .ok (.invokeinterface 51 1, 5) := by decide +kernel
theorem d_prog_6_8_48 : decode prog_6_method_8_code 48 = .ok (.checkcast 55, 3) := by decide +kernel
theorem d_prog_6_8_51 : decode prog_6_method_8_code 51 = .ok (.astore_n 3, 1) := by decide +kernel
theorem d_prog_6_8_52 : decode prog_6_method_8_code 52 = .ok (.aload_n 1, 1) := by decide +kernel
theorem d_prog_6_8_53 : decode prog_6_method_8_code 53 = .ok (.aload_n 3, 1) := by decide +kernel
theorem d_prog_6_8_54 : decode prog_6_method_8_code 54 = .ok (.invokevirtual 57, 3) := by decide +kernel
theorem d_prog_6_8_57 : decode prog_6_method_8_code 57 = .ok (.aaload, 1) := by decide +kernel
theorem d_prog_6_8_58 : decode prog_6_method_8_code 58 = .ok (.aload_n 3, 1) := by decide +kernel
theorem d_prog_6_8_59 : decode prog_6_method_8_code 59 = .ok (.invokevirtual 60, 3) := by decide +kernel
theorem d_prog_6_8_62 : decode prog_6_method_8_code 62 = .ok (.dup2, 1) := by decide +kernel
theorem d_prog_6_8_63 : decode prog_6_method_8_code 63 = .ok (.daload, 1) := by decide +kernel
theorem d_prog_6_8_64 : decode prog_6_method_8_code 64 = .ok (.aload_n 3, 1) := by decide +kernel
theorem d_prog_6_8_65 : decode prog_6_method_8_code 65 = .ok (.invokevirtual 63, 3) := by decide +kernel
theorem d_prog_6_8_68 : decode prog_6_method_8_code 68 = .ok (.dadd, 1) := by decide +kernel
theorem d_prog_6_8_69 : decode prog_6_method_8_code 69 = .ok (.dastore, 1) := by decide +kernel
theorem d_prog_6_8_70 : decode prog_6_method_8_code 70 = .ok (.goto (-37), 3) := by decide +kernel
theorem own_turn_a (X : Stand p l e ({ frames := 3, cells := 4, slots := 10, locals := 39 } : Room) s m args below meth c T locs 4 10) (hx : p.tables.exec = Jvm.exec) (hZ : Z.Warmed39 s.vm) (hw : ∀ d ∈ tables_1, d.before a0 Z = true) {D IC EL EE EM MO b0 b1 : Addr} {cD cI cE : Cell} (G : own_G Z D IC EL EE EM MO b0 b1 cD cI cE) (hby : c.code = prog_6_method_8_code) (hml : c.maxLocals = 4) (hown : s.vm.findClass "com/example/overweave/overweave/Instance" = some m.cls) (eT : T.heap = h) (N0 : Fr n0 locs) (Z0 : n0 ≤ h.size) (O : Old Z n0 h) {o g t xr rq y y0 : Addr} {xs : List Addr} {n k u d n1 n2 : Int32} {i di : Nat} {vol w0 : UInt64} {k0 k1 : ClassId} {gv rv : List Value} (A : own_It Z h t rq n k) (gt : n0 ≤ t) (gx : n0 ≤ xr) (ngx : g ≠ xr) (hkn : ¬ k = n) (hk : k = Int32.ofNat i) (hi : xs[i]? = some y) (IQ : own_IL Z EL EM h rq xs) (Dm : own_Dm Z h y u d vol) (GA : Arv Z h g k0 (.array .double) n1 gv .null) (RA : Arv Z h xr k1 .double n2 rv (.double 0)) (hu : ¬ u < 0 ∧ u < n1) (hgu : gv.getD u.toNatClampNeg .null = .ref xr) (hd : ¬ d < 0 ∧ d < n2) (hrv : rv.getD d.toNatClampNeg (.double 0) = .double w0) (hdi : d.toNatClampNeg = di) (hdl : di < rv.length) (hnn : Jvm.Free.Fl.NoNaN64 (FP.dadd w0 vol)) :
    ∃ T' h' L', Stand p l e ({ frames := 3, cells := 4, slots := 10, locals := 39 } : Room) s m args below meth c T' L' 4 10 ∧ T'.heap = h' ∧ Fr n0 L' ∧ Keep h h' [t, xr] ∧ own_It Z h' t rq n (k + 1) ∧ Arv Z h' xr k1 .double n2 (rv.set di (.double (FP.dadd w0 vol))) (.double 0) ∧ ∀ target, Steps p.tables e below (T'.setTop (mkF m 33 #[.val (.ref o), .val (.ref g), .val (.ref t), .val (.ref y)] [])) target → Steps p.tables e below (T.setTop (mkF m 33 #[.val (.ref o), .val (.ref g), .val (.ref t), .unset] [])) target := by
  obtain ⟨cg, Cg, -⟩ := id GA
  obtain ⟨cx, Cx, -⟩ := id RA
  have ne_tg := ne_arr A.1 (ow hw 212 rfl) Cg
  have ne_tx := ne_arr A.1 (ow hw 212 rfl) Cx
  have ne_yt := ne_exa Dm.1 A.1 (by decide)
  obtain ⟨cq1, kq1, q1a, q1b, q1c⟩ := isOf hZ eT A.1
  obtain ⟨_, _, ⟨T1, L1, k1, n1⟩, -, X1, ⟨Lc1, hQ1, l1, y1, z1⟩, st1⟩ := X.interfaceBack hx (xi := (⟨"java/util/Iterator", "hasNext", "()Z"⟩ : MethodName)) (y := (⟨"java/util/ImmutableCollections$ListItr", "hasNext", "()Z"⟩ : MethodName)) hown (mvT hZ (ow hw 236 rfl)) (mvT hZ (ow hw 237 rfl)) (mvT hZ (ow hw 238 rfl)) (mvT hZ (ow hw 239 rfl)) (mvT hZ (ow hw 240 rfl)) (mvT hZ (ow hw 241 rfl)) (mvT hZ (ow hw 242 rfl)) (mvT hZ (ow hw 243 rfl)) (by decide) (backOf (W := 0) (own_hnY l Z a0 hw [] t rq n k hkn h n0 Z0 A) hZ (ow hw 244 rfl) (ow hw 213 rfl) (by decide) (by decide)) q1a q1b q1c (g := (mkF m 34 #[.val (.ref o), .val (.ref g), .val (.ref t), .unset] [(.ref t)])) rfl (by rw [hml]; rfl) (Steps.refl _) (argsL := []) (rest := []) (lenOf own_pd12 rfl) rfl (by show 2 * 0 + _ ≤ _; exact Nat.le_of_eq rfl) (hb hby d_prog_6_8_34) (fun _ _ => ⟨rfl, eT, (by decide : 4 + 0 ≤ _), (by decide : 10 + 0 ≤ _)⟩)
  dsimp only [Pt.U, Pt.locs, Pt.cells, Pt.slots] at X1 l1 y1 z1 st1 hQ1
  subst l1 y1 z1
  obtain ⟨rfl, N1, e1⟩ := hQ1
  have N2_ := Fr.app N0 N1
  obtain ⟨cq3, kq3, q3a, q3b, q3c⟩ := isOf hZ e1 A.1
  obtain ⟨_, _, ⟨T3, L3, k3, n3⟩, -, X3, ⟨Lc3, hQ3, l3, y3, z3⟩, st3⟩ := X1.interfaceBack hx (xi := (⟨"java/util/Iterator", "next", "()Ljava/lang/Object;"⟩ : MethodName)) (y := (⟨"java/util/ImmutableCollections$ListItr", "next", "()Ljava/lang/Object;"⟩ : MethodName)) hown (mvT hZ (ow hw 269 rfl)) (mvT hZ (ow hw 270 rfl)) (mvT hZ (ow hw 271 rfl)) (mvT hZ (ow hw 272 rfl)) (mvT hZ (ow hw 273 rfl)) (mvT hZ (ow hw 274 rfl)) (mvT hZ (ow hw 275 rfl)) (mvT hZ (ow hw 243 rfl)) (by decide) (backOfWith (W := 0) (own_nxA l Z a0 hw [] G t rq y xs n k i hk hi h n0 Z0 A gt IQ O) hZ (ow hw 276 rfl) (ow hw 213 rfl) (by decide) (by decide)) q3a q3b q3c (g := (mkF m 43 #[.val (.ref o), .val (.ref g), .val (.ref t), .unset] [(.ref t)])) rfl (by rw [hml]; rfl) (Steps.refl _) (argsL := []) (rest := []) (lenOf own_pd19 rfl) rfl (by show 2 * 0 + _ ≤ _; exact Nat.le_of_eq rfl) (hb hby d_prog_6_8_43) (fun _ _ => ⟨rfl, e1, (by decide : 4 + 0 ≤ _), (by decide : 10 + 0 ≤ _)⟩)
  dsimp only [Pt.U, Pt.locs, Pt.cells, Pt.slots] at X3 l3 y3 z3 st3 hQ3
  subst l3 y3 z3
  obtain ⟨h3, e3⟩ : ∃ z, T3.heap = z := ⟨_, rfl⟩
  rw [e3] at hQ3
  obtain ⟨rfl, N3, K3, A3⟩ := hQ3
  have N4_ := Fr.app N2_ N3
  have K5_ := (Keep.refl h [t, xr]).trans K3 (allS (Or.inl (List.mem_of_getElem? (i := 0) rfl)) all0)
  have f7_ := (Dm.1.keep K3)
  obtain ⟨T6, X6, e6, st6⟩ := castY X3 hx hZ hown (ow hw 285 rfl) e3 (Ins.self f7_) (g := (mkF m 48 #[.val (.ref o), .val (.ref g), .val (.ref t), .unset] [(.ref y)])) rfl rfl (hb hby d_prog_6_8_48)
  have f8_ := (Dm.2.1.keep K3 (ninS ne_yt nin0))
  have f9_ := (Dm.2.2.1.keep K3 (ninS ne_yt nin0))
  have f10_ := (Dm.2.2.2.keep K3 (ninS ne_yt nin0))
  have Z12_ := (Nat.le_trans Z0 K5_.1)
  obtain ⟨cq11, kq11, q11a, q11b, q11c⟩ := isOf hZ e6 f7_
  obtain ⟨_, _, ⟨T11, L11, k11, n11⟩, -, X11, ⟨Lc11, hQ11, l11, y11, z11⟩, st11⟩ := X6.virtualBack hx (y := (⟨"com/example/overweave/overweave/Instance$Demand", "getUser", "()I"⟩ : MethodName)) (z := (⟨"com/example/overweave/overweave/Instance$Demand", "getUser", "()I"⟩ : MethodName)) hown (mvT hZ (ow hw 287 rfl)) (mvT hZ (ow hw 288 rfl)) (notFace_of_selects (args := #[]) (mvT hZ (ow hw 290 rfl))) (mvT hZ (ow hw 290 rfl)) (mvT hZ (ow hw 289 rfl)) (by decide) (backOf (W := 1) (own_gu l Z a0 hw [] y u d vol h3 n0 Z12_ ⟨f7_, f8_, f9_, f10_⟩) hZ (ow hw 291 rfl) (ow hw 254 rfl) (by decide) (by decide)) q11a q11c (g := (mkF m 54 #[.val (.ref o), .val (.ref g), .val (.ref t), .val (.ref y)] [(.ref y), (.ref g)])) rfl (by rw [hml]; rfl) (Steps.refl _) (argsL := []) (rest := [(.ref g)]) (lenOf own_pd15 rfl) rfl (by show 2 * 0 + _ ≤ _; exact Nat.le_of_eq rfl) (hb hby d_prog_6_8_54) (fun _ _ => ⟨rfl, e6, (by decide : 4 + 0 ≤ _), (by decide : 10 + 0 ≤ _)⟩)
  dsimp only [Pt.U, Pt.locs, Pt.cells, Pt.slots] at X11 l11 y11 z11 st11 hQ11
  subst l11 y11 z11
  obtain ⟨rfl, N11, e11⟩ := hQ11
  have N13_ := Fr.app N4_ N11
  have f14_ := (GA.keep K3 (ninS (Ne.symm ne_tg) nin0))
  obtain ⟨cq15, kq15, q15a, q15b, q15c⟩ := isOf hZ e11 f7_
  obtain ⟨_, _, ⟨T15, L15, k15, n15⟩, -, X15, ⟨Lc15, hQ15, l15, y15, z15⟩, st15⟩ := X11.virtualBack hx (y := (⟨"com/example/overweave/overweave/Instance$Demand", "getDestination", "()I"⟩ : MethodName)) (z := (⟨"com/example/overweave/overweave/Instance$Demand", "getDestination", "()I"⟩ : MethodName)) hown (mvT hZ (ow hw 292 rfl)) (mvT hZ (ow hw 293 rfl)) (notFace_of_selects (args := #[]) (mvT hZ (ow hw 295 rfl))) (mvT hZ (ow hw 295 rfl)) (mvT hZ (ow hw 294 rfl)) (by decide) (backOf (W := 1) (own_gd l Z a0 hw [] y u d vol h3 n0 Z12_ ⟨f7_, f8_, f9_, f10_⟩) hZ (ow hw 296 rfl) (ow hw 254 rfl) (by decide) (by decide)) q15a q15c (g := (mkF m 59 #[.val (.ref o), .val (.ref g), .val (.ref t), .val (.ref y)] [(.ref y), (.ref xr)])) rfl (by rw [hml]; rfl) (Steps.refl _) (argsL := []) (rest := [(.ref xr)]) (lenOf own_pd15 rfl) rfl (by show 2 * 0 + _ ≤ _; exact Nat.le_of_eq rfl) (hb hby d_prog_6_8_59) (fun _ _ => ⟨rfl, e11, (by decide : 4 + 0 ≤ _), (by decide : 10 + 0 ≤ _)⟩)
  dsimp only [Pt.U, Pt.locs, Pt.cells, Pt.slots] at X15 l15 y15 z15 st15 hQ15
  subst l15 y15 z15
  obtain ⟨rfl, N15, e15⟩ := hQ15
  have N16_ := Fr.app N13_ N15
  have f17_ := (RA.keep K3 (ninS (Ne.symm ne_tx) nin0))
  obtain ⟨cq18, kq18, q18a, q18b, q18c⟩ := isOf hZ e15 f7_
  obtain ⟨_, _, ⟨T18, L18, k18, n18⟩, -, X18, ⟨Lc18, hQ18, l18, y18, z18⟩, st18⟩ := X15.virtualBack hx (y := (⟨"com/example/overweave/overweave/Instance$Demand", "getVolume", "()D"⟩ : MethodName)) (z := (⟨"com/example/overweave/overweave/Instance$Demand", "getVolume", "()D"⟩ : MethodName)) hown (mvT hZ (ow hw 297 rfl)) (mvT hZ (ow hw 298 rfl)) (notFace_of_selects (args := #[]) (mvT hZ (ow hw 300 rfl))) (mvT hZ (ow hw 300 rfl)) (mvT hZ (ow hw 299 rfl)) (by decide) (backOf (W := 4) (own_gv l Z a0 hw [] y u d vol h3 n0 Z12_ ⟨f7_, f8_, f9_, f10_⟩) hZ (ow hw 301 rfl) (ow hw 254 rfl) (by decide) (by decide)) q18a q18c (g := (mkF m 65 #[.val (.ref o), .val (.ref g), .val (.ref t), .val (.ref y)] [(.ref y), (.double w0), (.int d), (.ref xr)])) rfl (by rw [hml]; rfl) (Steps.refl _) (argsL := []) (rest := [(.double w0), (.int d), (.ref xr)]) (lenOf own_pd20 rfl) rfl (by show 2 * 0 + _ ≤ _; exact Nat.le_of_eq rfl) (hb hby d_prog_6_8_65) (fun _ _ => ⟨rfl, e15, (by decide : 4 + 0 ≤ _), (by decide : 10 + 0 ≤ _)⟩)
  dsimp only [Pt.U, Pt.locs, Pt.cells, Pt.slots] at X18 l18 y18 z18 st18 hQ18
  subst l18 y18 z18
  obtain ⟨rfl, N18, e18⟩ := hQ18
  have N19_ := Fr.app N16_ N18
  obtain ⟨T20, h20, X20, e20, W20, R20, st20⟩ := own_dast X18 hx hZ e18 f17_ hd hdi hdl (g := (mkF m 69 #[.val (.ref o), .val (.ref g), .val (.ref t), .val (.ref y)] [(.double (FP.dadd w0 vol)), (.int d), (.ref xr)])) rfl rfl (hb hby d_prog_6_8_69)
  have N20 := Fr.snoc X20 N19_ gx
  have K21_ := K5_.wr W20 (Or.inl (List.mem_of_getElem? (i := 1) rfl))
  have f22_ := (A3.1.wr W20)
  have f23_ := (A3.2.1.other W20 (Or.inl ne_tx))
  have f24_ := (A3.2.2.1.other W20 (Or.inl ne_tx))
  have f25_ := (A3.2.2.2.other W20 (Or.inl ne_tx))
  refine ⟨T20, h20, _, X20, e20, N20, K21_, ⟨f22_, f23_, f24_, f25_⟩, R20, fun target k' => ?_⟩
  show Steps _ _ _ (T.setTop (mkF m 33 #[.val (.ref o), .val (.ref g), .val (.ref t), .unset] [])) _
  refine XS.aloadN X.here hx rfl (hb hby d_prog_6_8_33) rfl rfl ?_
  show Steps _ _ _ (T.setTop (mkF m 34 #[.val (.ref o), .val (.ref g), .val (.ref t), .unset] [(.ref t)])) _
  refine st1.trans ?_
  show Steps _ _ _ (T1.setTop (mkF m 39 #[.val (.ref o), .val (.ref g), .val (.ref t), .unset] [(.int 1)])) _
  refine XS.ifNo X1.here hx rfl (hb hby d_prog_6_8_39) rfl (by decide) ?_
  refine XS.aloadN X1.here hx rfl (hb hby d_prog_6_8_42) rfl rfl ?_
  show Steps _ _ _ (T1.setTop (mkF m 43 #[.val (.ref o), .val (.ref g), .val (.ref t), .unset] [(.ref t)])) _
  refine st3.trans ?_
  show Steps _ _ _ (T3.setTop (mkF m 48 #[.val (.ref o), .val (.ref g), .val (.ref t), .unset] [(.ref y)])) _
  refine st6 _ ?_
  show Steps _ _ _ (T6.setTop (mkF m 51 #[.val (.ref o), .val (.ref g), .val (.ref t), .unset] [(.ref y)])) _
  refine XS.astoreN X6.here hx rfl (hb hby d_prog_6_8_51) rfl rfl rfl ?_
  refine XS.aloadN X6.here hx rfl (hb hby d_prog_6_8_52) rfl rfl ?_
  refine XS.aloadN X6.here hx rfl (hb hby d_prog_6_8_53) rfl rfl ?_
  show Steps _ _ _ (T6.setTop (mkF m 54 #[.val (.ref o), .val (.ref g), .val (.ref t), .val (.ref y)] [(.ref y), (.ref g)])) _
  refine st11.trans ?_
  show Steps _ _ _ (T11.setTop (mkF m 57 #[.val (.ref o), .val (.ref g), .val (.ref t), .val (.ref y)] [(.int u), (.ref g)])) _
  refine own_aald X11 hx hZ e11 f14_ rfl hu hgu (g := (mkF m 57 #[.val (.ref o), .val (.ref g), .val (.ref t), .val (.ref y)] [(.int u), (.ref g)])) rfl rfl (hb hby d_prog_6_8_57) _ ?_
  refine XS.aloadN X11.here hx rfl (hb hby d_prog_6_8_58) rfl rfl ?_
  show Steps _ _ _ (T11.setTop (mkF m 59 #[.val (.ref o), .val (.ref g), .val (.ref t), .val (.ref y)] [(.ref y), (.ref xr)])) _
  refine st15.trans ?_
  show Steps _ _ _ (T15.setTop (mkF m 62 #[.val (.ref o), .val (.ref g), .val (.ref t), .val (.ref y)] [(.int d), (.ref xr)])) _
  refine XT.dup2 X15.here hx rfl (hb hby d_prog_6_8_62) rfl rfl rfl ?_
  show Steps _ _ _ (T15.setTop (mkF m 63 #[.val (.ref o), .val (.ref g), .val (.ref t), .val (.ref y)] [(.int d), (.ref xr), (.int d), (.ref xr)])) _
  refine own_dald X15 hx hZ e15 f17_ hd hrv (g := (mkF m 63 #[.val (.ref o), .val (.ref g), .val (.ref t), .val (.ref y)] [(.int d), (.ref xr), (.int d), (.ref xr)])) rfl rfl (hb hby d_prog_6_8_63) _ ?_
  refine XS.aloadN X15.here hx rfl (hb hby d_prog_6_8_64) rfl rfl ?_
  show Steps _ _ _ (T15.setTop (mkF m 65 #[.val (.ref o), .val (.ref g), .val (.ref t), .val (.ref y)] [(.ref y), (.double w0), (.int d), (.ref xr)])) _
  refine st18.trans ?_
  show Steps _ _ _ (T18.setTop (mkF m 68 #[.val (.ref o), .val (.ref g), .val (.ref t), .val (.ref y)] [(.double vol), (.double w0), (.int d), (.ref xr)])) _
  refine XS.daddS X18.here hx rfl (hb hby d_prog_6_8_68) rfl hnn rfl ?_
  show Steps _ _ _ (T18.setTop (mkF m 69 #[.val (.ref o), .val (.ref g), .val (.ref t), .val (.ref y)] [(.double (FP.dadd w0 vol)), (.int d), (.ref xr)])) _
  refine st20 _ ?_
  show Steps _ _ _ (T20.setTop (mkF m 70 #[.val (.ref o), .val (.ref g), .val (.ref t), .val (.ref y)] [])) _
  refine XS.goto X20.here hx rfl rfl (hb hby d_prog_6_8_70) (show (0 : Int) ≤ ((70 : Nat) : Int) + (-37) by decide) (show (((70 : Nat) : Int) + (-37)).toNat = 33 by decide) ?_
  show Steps _ _ _ (T20.setTop (mkF m 33 #[.val (.ref o), .val (.ref g), .val (.ref t), .val (.ref y)] [])) _
  exact k'
theorem own_turn_b (X : Stand p l e ({ frames := 3, cells := 4, slots := 10, locals := 39 } : Room) s m args below meth c T locs 4 10) (hx : p.tables.exec = Jvm.exec) (hZ : Z.Warmed39 s.vm) (hw : ∀ d ∈ tables_1, d.before a0 Z = true) {D IC EL EE EM MO b0 b1 : Addr} {cD cI cE : Cell} (G : own_G Z D IC EL EE EM MO b0 b1 cD cI cE) (hby : c.code = prog_6_method_8_code) (hml : c.maxLocals = 4) (hown : s.vm.findClass "com/example/overweave/overweave/Instance" = some m.cls) (eT : T.heap = h) (N0 : Fr n0 locs) (Z0 : n0 ≤ h.size) (O : Old Z n0 h) {o g t xr rq y y0 : Addr} {xs : List Addr} {n k u d n1 n2 : Int32} {i di : Nat} {vol w0 : UInt64} {k0 k1 : ClassId} {gv rv : List Value} (A : own_It Z h t rq n k) (gt : n0 ≤ t) (gx : n0 ≤ xr) (ngx : g ≠ xr) (hkn : ¬ k = n) (hk : k = Int32.ofNat i) (hi : xs[i]? = some y) (IQ : own_IL Z EL EM h rq xs) (Dm : own_Dm Z h y u d vol) (GA : Arv Z h g k0 (.array .double) n1 gv .null) (RA : Arv Z h xr k1 .double n2 rv (.double 0)) (hu : ¬ u < 0 ∧ u < n1) (hgu : gv.getD u.toNatClampNeg .null = .ref xr) (hd : ¬ d < 0 ∧ d < n2) (hrv : rv.getD d.toNatClampNeg (.double 0) = .double w0) (hdi : d.toNatClampNeg = di) (hdl : di < rv.length) (hnn : Jvm.Free.Fl.NoNaN64 (FP.dadd w0 vol)) :
    ∃ T' h' L', Stand p l e ({ frames := 3, cells := 4, slots := 10, locals := 39 } : Room) s m args below meth c T' L' 4 10 ∧ T'.heap = h' ∧ Fr n0 L' ∧ Keep h h' [t, xr] ∧ own_It Z h' t rq n (k + 1) ∧ Arv Z h' xr k1 .double n2 (rv.set di (.double (FP.dadd w0 vol))) (.double 0) ∧ ∀ target, Steps p.tables e below (T'.setTop (mkF m 33 #[.val (.ref o), .val (.ref g), .val (.ref t), .val (.ref y)] [])) target → Steps p.tables e below (T.setTop (mkF m 33 #[.val (.ref o), .val (.ref g), .val (.ref t), .val (.ref y0)] [])) target := by
  obtain ⟨cg, Cg, -⟩ := id GA
  obtain ⟨cx, Cx, -⟩ := id RA
  have ne_tg := ne_arr A.1 (ow hw 212 rfl) Cg
  have ne_tx := ne_arr A.1 (ow hw 212 rfl) Cx
  have ne_yt := ne_exa Dm.1 A.1 (by decide)
  obtain ⟨cq1, kq1, q1a, q1b, q1c⟩ := isOf hZ eT A.1
  obtain ⟨_, _, ⟨T1, L1, k1, n1⟩, -, X1, ⟨Lc1, hQ1, l1, y1, z1⟩, st1⟩ := X.interfaceBack hx (xi := (⟨"java/util/Iterator", "hasNext", "()Z"⟩ : MethodName)) (y := (⟨"java/util/ImmutableCollections$ListItr", "hasNext", "()Z"⟩ : MethodName)) hown (mvT hZ (ow hw 236 rfl)) (mvT hZ (ow hw 237 rfl)) (mvT hZ (ow hw 238 rfl)) (mvT hZ (ow hw 239 rfl)) (mvT hZ (ow hw 240 rfl)) (mvT hZ (ow hw 241 rfl)) (mvT hZ (ow hw 242 rfl)) (mvT hZ (ow hw 243 rfl)) (by decide) (backOf (W := 0) (own_hnY l Z a0 hw [] t rq n k hkn h n0 Z0 A) hZ (ow hw 244 rfl) (ow hw 213 rfl) (by decide) (by decide)) q1a q1b q1c (g := (mkF m 34 #[.val (.ref o), .val (.ref g), .val (.ref t), .val (.ref y0)] [(.ref t)])) rfl (by rw [hml]; rfl) (Steps.refl _) (argsL := []) (rest := []) (lenOf own_pd12 rfl) rfl (by show 2 * 0 + _ ≤ _; exact Nat.le_of_eq rfl) (hb hby d_prog_6_8_34) (fun _ _ => ⟨rfl, eT, (by decide : 4 + 0 ≤ _), (by decide : 10 + 0 ≤ _)⟩)
  dsimp only [Pt.U, Pt.locs, Pt.cells, Pt.slots] at X1 l1 y1 z1 st1 hQ1
  subst l1 y1 z1
  obtain ⟨rfl, N1, e1⟩ := hQ1
  have N2_ := Fr.app N0 N1
  obtain ⟨cq3, kq3, q3a, q3b, q3c⟩ := isOf hZ e1 A.1
  obtain ⟨_, _, ⟨T3, L3, k3, n3⟩, -, X3, ⟨Lc3, hQ3, l3, y3, z3⟩, st3⟩ := X1.interfaceBack hx (xi := (⟨"java/util/Iterator", "next", "()Ljava/lang/Object;"⟩ : MethodName)) (y := (⟨"java/util/ImmutableCollections$ListItr", "next", "()Ljava/lang/Object;"⟩ : MethodName)) hown (mvT hZ (ow hw 269 rfl)) (mvT hZ (ow hw 270 rfl)) (mvT hZ (ow hw 271 rfl)) (mvT hZ (ow hw 272 rfl)) (mvT hZ (ow hw 273 rfl)) (mvT hZ (ow hw 274 rfl)) (mvT hZ (ow hw 275 rfl)) (mvT hZ (ow hw 243 rfl)) (by decide) (backOfWith (W := 0) (own_nxA l Z a0 hw [] G t rq y xs n k i hk hi h n0 Z0 A gt IQ O) hZ (ow hw 276 rfl) (ow hw 213 rfl) (by decide) (by decide)) q3a q3b q3c (g := (mkF m 43 #[.val (.ref o), .val (.ref g), .val (.ref t), .val (.ref y0)] [(.ref t)])) rfl (by rw [hml]; rfl) (Steps.refl _) (argsL := []) (rest := []) (lenOf own_pd19 rfl) rfl (by show 2 * 0 + _ ≤ _; exact Nat.le_of_eq rfl) (hb hby d_prog_6_8_43) (fun _ _ => ⟨rfl, e1, (by decide : 4 + 0 ≤ _), (by decide : 10 + 0 ≤ _)⟩)
  dsimp only [Pt.U, Pt.locs, Pt.cells, Pt.slots] at X3 l3 y3 z3 st3 hQ3
  subst l3 y3 z3
  obtain ⟨h3, e3⟩ : ∃ z, T3.heap = z := ⟨_, rfl⟩
  rw [e3] at hQ3
  obtain ⟨rfl, N3, K3, A3⟩ := hQ3
  have N4_ := Fr.app N2_ N3
  have K5_ := (Keep.refl h [t, xr]).trans K3 (allS (Or.inl (List.mem_of_getElem? (i := 0) rfl)) all0)
  have f7_ := (Dm.1.keep K3)
  obtain ⟨T6, X6, e6, st6⟩ := castY X3 hx hZ hown (ow hw 285 rfl) e3 (Ins.self f7_) (g := (mkF m 48 #[.val (.ref o), .val (.ref g), .val (.ref t), .val (.ref y0)] [(.ref y)])) rfl rfl (hb hby d_prog_6_8_48)
  have f8_ := (Dm.2.1.keep K3 (ninS ne_yt nin0))
  have f9_ := (Dm.2.2.1.keep K3 (ninS ne_yt nin0))
  have f10_ := (Dm.2.2.2.keep K3 (ninS ne_yt nin0))
  have Z12_ := (Nat.le_trans Z0 K5_.1)
  obtain ⟨cq11, kq11, q11a, q11b, q11c⟩ := isOf hZ e6 f7_
  obtain ⟨_, _, ⟨T11, L11, k11, n11⟩, -, X11, ⟨Lc11, hQ11, l11, y11, z11⟩, st11⟩ := X6.virtualBack hx (y := (⟨"com/example/overweave/overweave/Instance$Demand", "getUser", "()I"⟩ : MethodName)) (z := (⟨"com/example/overweave/overweave/Instance$Demand", "getUser", "()I"⟩ : MethodName)) hown (mvT hZ (ow hw 287 rfl)) (mvT hZ (ow hw 288 rfl)) (notFace_of_selects (args := #[]) (mvT hZ (ow hw 290 rfl))) (mvT hZ (ow hw 290 rfl)) (mvT hZ (ow hw 289 rfl)) (by decide) (backOf (W := 1) (own_gu l Z a0 hw [] y u d vol h3 n0 Z12_ ⟨f7_, f8_, f9_, f10_⟩) hZ (ow hw 291 rfl) (ow hw 254 rfl) (by decide) (by decide)) q11a q11c (g := (mkF m 54 #[.val (.ref o), .val (.ref g), .val (.ref t), .val (.ref y)] [(.ref y), (.ref g)])) rfl (by rw [hml]; rfl) (Steps.refl _) (argsL := []) (rest := [(.ref g)]) (lenOf own_pd15 rfl) rfl (by show 2 * 0 + _ ≤ _; exact Nat.le_of_eq rfl) (hb hby d_prog_6_8_54) (fun _ _ => ⟨rfl, e6, (by decide : 4 + 0 ≤ _), (by decide : 10 + 0 ≤ _)⟩)
  dsimp only [Pt.U, Pt.locs, Pt.cells, Pt.slots] at X11 l11 y11 z11 st11 hQ11
  subst l11 y11 z11
  obtain ⟨rfl, N11, e11⟩ := hQ11
  have N13_ := Fr.app N4_ N11
  have f14_ := (GA.keep K3 (ninS (Ne.symm ne_tg) nin0))
  obtain ⟨cq15, kq15, q15a, q15b, q15c⟩ := isOf hZ e11 f7_
  obtain ⟨_, _, ⟨T15, L15, k15, n15⟩, -, X15, ⟨Lc15, hQ15, l15, y15, z15⟩, st15⟩ := X11.virtualBack hx (y := (⟨"com/example/overweave/overweave/Instance$Demand", "getDestination", "()I"⟩ : MethodName)) (z := (⟨"com/example/overweave/overweave/Instance$Demand", "getDestination", "()I"⟩ : MethodName)) hown (mvT hZ (ow hw 292 rfl)) (mvT hZ (ow hw 293 rfl)) (notFace_of_selects (args := #[]) (mvT hZ (ow hw 295 rfl))) (mvT hZ (ow hw 295 rfl)) (mvT hZ (ow hw 294 rfl)) (by decide) (backOf (W := 1) (own_gd l Z a0 hw [] y u d vol h3 n0 Z12_ ⟨f7_, f8_, f9_, f10_⟩) hZ (ow hw 296 rfl) (ow hw 254 rfl) (by decide) (by decide)) q15a q15c (g := (mkF m 59 #[.val (.ref o), .val (.ref g), .val (.ref t), .val (.ref y)] [(.ref y), (.ref xr)])) rfl (by rw [hml]; rfl) (Steps.refl _) (argsL := []) (rest := [(.ref xr)]) (lenOf own_pd15 rfl) rfl (by show 2 * 0 + _ ≤ _; exact Nat.le_of_eq rfl) (hb hby d_prog_6_8_59) (fun _ _ => ⟨rfl, e11, (by decide : 4 + 0 ≤ _), (by decide : 10 + 0 ≤ _)⟩)
  dsimp only [Pt.U, Pt.locs, Pt.cells, Pt.slots] at X15 l15 y15 z15 st15 hQ15
  subst l15 y15 z15
  obtain ⟨rfl, N15, e15⟩ := hQ15
  have N16_ := Fr.app N13_ N15
  have f17_ := (RA.keep K3 (ninS (Ne.symm ne_tx) nin0))
  obtain ⟨cq18, kq18, q18a, q18b, q18c⟩ := isOf hZ e15 f7_
  obtain ⟨_, _, ⟨T18, L18, k18, n18⟩, -, X18, ⟨Lc18, hQ18, l18, y18, z18⟩, st18⟩ := X15.virtualBack hx (y := (⟨"com/example/overweave/overweave/Instance$Demand", "getVolume", "()D"⟩ : MethodName)) (z := (⟨"com/example/overweave/overweave/Instance$Demand", "getVolume", "()D"⟩ : MethodName)) hown (mvT hZ (ow hw 297 rfl)) (mvT hZ (ow hw 298 rfl)) (notFace_of_selects (args := #[]) (mvT hZ (ow hw 300 rfl))) (mvT hZ (ow hw 300 rfl)) (mvT hZ (ow hw 299 rfl)) (by decide) (backOf (W := 4) (own_gv l Z a0 hw [] y u d vol h3 n0 Z12_ ⟨f7_, f8_, f9_, f10_⟩) hZ (ow hw 301 rfl) (ow hw 254 rfl) (by decide) (by decide)) q18a q18c (g := (mkF m 65 #[.val (.ref o), .val (.ref g), .val (.ref t), .val (.ref y)] [(.ref y), (.double w0), (.int d), (.ref xr)])) rfl (by rw [hml]; rfl) (Steps.refl _) (argsL := []) (rest := [(.double w0), (.int d), (.ref xr)]) (lenOf own_pd20 rfl) rfl (by show 2 * 0 + _ ≤ _; exact Nat.le_of_eq rfl) (hb hby d_prog_6_8_65) (fun _ _ => ⟨rfl, e15, (by decide : 4 + 0 ≤ _), (by decide : 10 + 0 ≤ _)⟩)
  dsimp only [Pt.U, Pt.locs, Pt.cells, Pt.slots] at X18 l18 y18 z18 st18 hQ18
  subst l18 y18 z18
  obtain ⟨rfl, N18, e18⟩ := hQ18
  have N19_ := Fr.app N16_ N18
  obtain ⟨T20, h20, X20, e20, W20, R20, st20⟩ := own_dast X18 hx hZ e18 f17_ hd hdi hdl (g := (mkF m 69 #[.val (.ref o), .val (.ref g), .val (.ref t), .val (.ref y)] [(.double (FP.dadd w0 vol)), (.int d), (.ref xr)])) rfl rfl (hb hby d_prog_6_8_69)
  have N20 := Fr.snoc X20 N19_ gx
  have K21_ := K5_.wr W20 (Or.inl (List.mem_of_getElem? (i := 1) rfl))
  have f22_ := (A3.1.wr W20)
  have f23_ := (A3.2.1.other W20 (Or.inl ne_tx))
  have f24_ := (A3.2.2.1.other W20 (Or.inl ne_tx))
  have f25_ := (A3.2.2.2.other W20 (Or.inl ne_tx))
  refine ⟨T20, h20, _, X20, e20, N20, K21_, ⟨f22_, f23_, f24_, f25_⟩, R20, fun target k' => ?_⟩
  show Steps _ _ _ (T.setTop (mkF m 33 #[.val (.ref o), .val (.ref g), .val (.ref t), .val (.ref y0)] [])) _
  refine XS.aloadN X.here hx rfl (hb hby d_prog_6_8_33) rfl rfl ?_
  show Steps _ _ _ (T.setTop (mkF m 34 #[.val (.ref o), .val (.ref g), .val (.ref t), .val (.ref y0)] [(.ref t)])) _
  refine st1.trans ?_
  show Steps _ _ _ (T1.setTop (mkF m 39 #[.val (.ref o), .val (.ref g), .val (.ref t), .val (.ref y0)] [(.int 1)])) _
  refine XS.ifNo X1.here hx rfl (hb hby d_prog_6_8_39) rfl (by decide) ?_
  refine XS.aloadN X1.here hx rfl (hb hby d_prog_6_8_42) rfl rfl ?_
  show Steps _ _ _ (T1.setTop (mkF m 43 #[.val (.ref o), .val (.ref g), .val (.ref t), .val (.ref y0)] [(.ref t)])) _
  refine st3.trans ?_
  show Steps _ _ _ (T3.setTop (mkF m 48 #[.val (.ref o), .val (.ref g), .val (.ref t), .val (.ref y0)] [(.ref y)])) _
  refine st6 _ ?_
  show Steps _ _ _ (T6.setTop (mkF m 51 #[.val (.ref o), .val (.ref g), .val (.ref t), .val (.ref y0)] [(.ref y)])) _
  refine XS.astoreN X6.here hx rfl (hb hby d_prog_6_8_51) rfl rfl rfl ?_
  refine XS.aloadN X6.here hx rfl (hb hby d_prog_6_8_52) rfl rfl ?_
  refine XS.aloadN X6.here hx rfl (hb hby d_prog_6_8_53) rfl rfl ?_
  show Steps _ _ _ (T6.setTop (mkF m 54 #[.val (.ref o), .val (.ref g), .val (.ref t), .val (.ref y)] [(.ref y), (.ref g)])) _
  refine st11.trans ?_
  show Steps _ _ _ (T11.setTop (mkF m 57 #[.val (.ref o), .val (.ref g), .val (.ref t), .val (.ref y)] [(.int u), (.ref g)])) _
  refine own_aald X11 hx hZ e11 f14_ rfl hu hgu (g := (mkF m 57 #[.val (.ref o), .val (.ref g), .val (.ref t), .val (.ref y)] [(.int u), (.ref g)])) rfl rfl (hb hby d_prog_6_8_57) _ ?_
  refine XS.aloadN X11.here hx rfl (hb hby d_prog_6_8_58) rfl rfl ?_
  show Steps _ _ _ (T11.setTop (mkF m 59 #[.val (.ref o), .val (.ref g), .val (.ref t), .val (.ref y)] [(.ref y), (.ref xr)])) _
  refine st15.trans ?_
  show Steps _ _ _ (T15.setTop (mkF m 62 #[.val (.ref o), .val (.ref g), .val (.ref t), .val (.ref y)] [(.int d), (.ref xr)])) _
  refine XT.dup2 X15.here hx rfl (hb hby d_prog_6_8_62) rfl rfl rfl ?_
  show Steps _ _ _ (T15.setTop (mkF m 63 #[.val (.ref o), .val (.ref g), .val (.ref t), .val (.ref y)] [(.int d), (.ref xr), (.int d), (.ref xr)])) _
  refine own_dald X15 hx hZ e15 f17_ hd hrv (g := (mkF m 63 #[.val (.ref o), .val (.ref g), .val (.ref t), .val (.ref y)] [(.int d), (.ref xr), (.int d), (.ref xr)])) rfl rfl (hb hby d_prog_6_8_63) _ ?_
  refine XS.aloadN X15.here hx rfl (hb hby d_prog_6_8_64) rfl rfl ?_
  show Steps _ _ _ (T15.setTop (mkF m 65 #[.val (.ref o), .val (.ref g), .val (.ref t), .val (.ref y)] [(.ref y), (.double w0), (.int d), (.ref xr)])) _
  refine st18.trans ?_
  show Steps _ _ _ (T18.setTop (mkF m 68 #[.val (.ref o), .val (.ref g), .val (.ref t), .val (.ref y)] [(.double vol), (.double w0), (.int d), (.ref xr)])) _
  refine XS.daddS X18.here hx rfl (hb hby d_prog_6_8_68) rfl hnn rfl ?_
  show Steps _ _ _ (T18.setTop (mkF m 69 #[.val (.ref o), .val (.ref g), .val (.ref t), .val (.ref y)] [(.double (FP.dadd w0 vol)), (.int d), (.ref xr)])) _
  refine st20 _ ?_
  show Steps _ _ _ (T20.setTop (mkF m 70 #[.val (.ref o), .val (.ref g), .val (.ref t), .val (.ref y)] [])) _
  refine XS.goto X20.here hx rfl rfl (hb hby d_prog_6_8_70) (show (0 : Int) ≤ ((70 : Nat) : Int) + (-37) by decide) (show (((70 : Nat) : Int) + (-37)).toNat = 33 by decide) ?_
  show Steps _ _ _ (T20.setTop (mkF m 33 #[.val (.ref o), .val (.ref g), .val (.ref t), .val (.ref y)] [])) _
  exact k'
theorem d_prog_6_8_73 : decode prog_6_method_8_code 73 = .ok (.aload_n 1, 1) := by decide +kernel
theorem own_tend (X : Stand p l e ({ frames := 3, cells := 4, slots := 10, locals := 39 } : Room) s m args below meth c T locs 4 10) (hx : p.tables.exec = Jvm.exec) (hZ : Z.Warmed39 s.vm) (hw : ∀ d ∈ tables_1, d.before a0 Z = true) {D IC EL EE EM MO b0 b1 : Addr} {cD cI cE : Cell} (G : own_G Z D IC EL EE EM MO b0 b1 cD cI cE) (hby : c.code = prog_6_method_8_code) (hml : c.maxLocals = 4) (hown : s.vm.findClass "com/example/overweave/overweave/Instance" = some m.cls) (eT : T.heap = h) (N0 : Fr n0 locs) (Z0 : n0 ≤ h.size) (O : Old Z n0 h) {o g t rq : Addr} {s3 : Slot} {n k : Int32} (A : own_It Z h t rq n k) (hkn : k = n) :
    ∃ T' h' L', Stand p l e ({ frames := 3, cells := 4, slots := 10, locals := 39 } : Room) s m args below meth c T' L' 4 10 ∧ T'.heap = h' ∧ Fr n0 L' ∧ h' = h ∧ ∀ target, Steps p.tables e below (T'.setTop (mkF m 74 #[.val (.ref o), .val (.ref g), .val (.ref t), s3] [(.ref g)])) target → Steps p.tables e below (T.setTop (mkF m 33 #[.val (.ref o), .val (.ref g), .val (.ref t), s3] [])) target := by
  obtain ⟨cq1, kq1, q1a, q1b, q1c⟩ := isOf hZ eT A.1
  obtain ⟨_, _, ⟨T1, L1, k1, n1⟩, -, X1, ⟨Lc1, hQ1, l1, y1, z1⟩, st1⟩ := X.interfaceBack hx (xi := (⟨"java/util/Iterator", "hasNext", "()Z"⟩ : MethodName)) (y := (⟨"java/util/ImmutableCollections$ListItr", "hasNext", "()Z"⟩ : MethodName)) hown (mvT hZ (ow hw 236 rfl)) (mvT hZ (ow hw 237 rfl)) (mvT hZ (ow hw 238 rfl)) (mvT hZ (ow hw 239 rfl)) (mvT hZ (ow hw 240 rfl)) (mvT hZ (ow hw 241 rfl)) (mvT hZ (ow hw 242 rfl)) (mvT hZ (ow hw 243 rfl)) (by decide) (backOf (W := 0) (own_hnN l Z a0 hw [] t rq n k hkn h n0 Z0 A) hZ (ow hw 244 rfl) (ow hw 213 rfl) (by decide) (by decide)) q1a q1b q1c (g := (mkF m 34 #[.val (.ref o), .val (.ref g), .val (.ref t), s3] [(.ref t)])) rfl (by rw [hml]; rfl) (Steps.refl _) (argsL := []) (rest := []) (lenOf own_pd12 rfl) rfl (by show 2 * 0 + _ ≤ _; exact Nat.le_of_eq rfl) (hb hby d_prog_6_8_34) (fun _ _ => ⟨rfl, eT, (by decide : 4 + 0 ≤ _), (by decide : 10 + 0 ≤ _)⟩)
  dsimp only [Pt.U, Pt.locs, Pt.cells, Pt.slots] at X1 l1 y1 z1 st1 hQ1
  subst l1 y1 z1
  obtain ⟨rfl, N1, e1⟩ := hQ1
  have N2_ := Fr.app N0 N1
  refine ⟨T1, h, _, X1, e1, N2_, rfl, fun target k' => ?_⟩
  show Steps _ _ _ (T.setTop (mkF m 33 #[.val (.ref o), .val (.ref g), .val (.ref t), s3] [])) _
  refine XS.aloadN X.here hx rfl (hb hby d_prog_6_8_33) rfl rfl ?_
  show Steps _ _ _ (T.setTop (mkF m 34 #[.val (.ref o), .val (.ref g), .val (.ref t), s3] [(.ref t)])) _
  refine st1.trans ?_
  show Steps _ _ _ (T1.setTop (mkF m 39 #[.val (.ref o), .val (.ref g), .val (.ref t), s3] [(.int 0)])) _
  refine XS.ifYes X1.here hx rfl rfl (hb hby d_prog_6_8_39) rfl (by decide) (show (0 : Int) ≤ ((39 : Nat) : Int) + (34) by decide) (show (((39 : Nat) : Int) + (34)).toNat = 73 by decide) ?_
  refine XS.aloadN X1.here hx rfl (hb hby d_prog_6_8_73) rfl rfl ?_
  show Steps _ _ _ (T1.setTop (mkF m 74 #[.val (.ref o), .val (.ref g), .val (.ref t), s3] [(.ref g)])) _
  exact k'
theorem d_prog_6_8_74 : decode prog_6_method_8_code 74 = .ok (.areturn, 1) := by decide +kernel
end OwnF
/-! ## Instance.traffic, joined (printed by gen302_f.py) -/
section OwnH
open Jvm.Free.Fl
variable {p : Program} {l : Launch} {e : Env} {s : State} {m : MethodId} {args : Array Value} {below : List Frame} {meth : Method} {c : Code} {T : State} {locs : List Loc} {Z : State} {a0 : Array Value} {h h' : Heap} {n0 : Nat}
def own_stp (u d : Int32) (vol : UInt64) (a b : Int32) (f : UInt64) : UInt64 := if u = a ∧ d = b then FP.dadd f vol else f
def own_val (a b : Int32) (ps : List (Addr × Int32 × Int32 × UInt64)) : UInt64 := ps.foldl (fun f q => own_stp q.2.1 q.2.2.1 q.2.2.2 a b f) 0
theorem own_val_snoc (a b : Int32) (ps : List (Addr × Int32 × Int32 × UInt64)) (q : Addr × Int32 × Int32 × UInt64) : own_val a b (ps ++ [q]) = own_stp q.2.1 q.2.2.1 q.2.2.2 a b (own_val a b ps) := by simp [own_val, List.foldl_append]
theorem own_stp_mag {K : Nat} {u d a b : Int32} {vol f : UInt64} (hf : Mag64 K f) (hv : Mag64 1056 vol) (hK : 1056 ≤ K) (hK2 : K ≤ 2047) : Mag64 (K + 2) (own_stp u d vol a b f) := by
  unfold own_stp
  split
  · exact dadd_mag hf (hv.mono hK) hK2
  · exact hf.mono (by omega)
theorem own_val_mag (a b : Int32) : ∀ ps : List (Addr × Int32 × Int32 × UInt64), (∀ q ∈ ps, Mag64 1056 q.2.2.2) → ps.length ≤ 3 → Mag64 (1056 + 2 * ps.length) (own_val a b ps) := by
  have H : ∀ (ps : List (Addr × Int32 × Int32 × UInt64)) (f : UInt64) (K : Nat), (∀ q ∈ ps, Mag64 1056 q.2.2.2) → Mag64 K f → 1056 ≤ K → K + 2 * ps.length ≤ 2047 → Mag64 (K + 2 * ps.length) (ps.foldl (fun f q => own_stp q.2.1 q.2.2.1 q.2.2.2 a b f) f) := by
    intro ps
    induction ps with
    | nil => intro f K _ hf _ _; exact hf
    | cons q r ih =>
      intro f K hq hf hK hL
      simp only [List.length_cons] at hL
      have := ih (own_stp q.2.1 q.2.2.1 q.2.2.2 a b f) (K + 2) (fun x hx => hq x (List.mem_cons_of_mem _ hx)) (own_stp_mag hf (hq q (List.mem_cons_self ..)) hK (by omega)) (by omega) (by omega)
      simp only [List.length_cons, List.foldl_cons]
      rw [show K + 2 * (r.length + 1) = K + 2 + 2 * r.length by omega]
      exact this
  intro ps hq hl
  exact H ps 0 1056 hq (by unfold Mag64; decide) (Nat.le_refl _) (by omega)
def own_Ds (Z : State) (h : Heap) (n1 n2 : Int32) (ps : List (Addr × Int32 × Int32 × UInt64)) : Prop := ∀ q ∈ ps, own_Dm Z h q.1 q.2.1 q.2.2.1 q.2.2.2 ∧ (q.2.1 = 0 ∨ (q.2.1 = 1 ∧ n1 = 2)) ∧ (q.2.2.1 = 0 ∨ (q.2.2.1 = 1 ∧ n2 = 2)) ∧ Mag64 1056 q.2.2.2
theorem own_Gr.keep {b : Nat} {g : Addr} {n1 n2 : Int32} {f00 f01 f10 f11 : UInt64} (F : own_Gr Z b h g n1 n2 f00 f01 f10 f11) (K : Keep h h' []) : own_Gr Z b h' g n1 n2 f00 f01 f10 f11 := by
  obtain ⟨x0, x1, k0, k1, B, A, A0, A1⟩ := F
  exact ⟨x0, x1, k0, k1, B, A.keep K nin0, A0.keep K nin0, fun q => (A1 q).keep K nin0⟩
theorem own_Gr.low {b b' : Nat} {g : Addr} {n1 n2 : Int32} {f00 f01 f10 f11 : UInt64} (F : own_Gr Z b h g n1 n2 f00 f01 f10 f11) (q : b' ≤ b) : own_Gr Z b' h g n1 n2 f00 f01 f10 f11 := by
  obtain ⟨x0, x1, k0, k1, ⟨B1, B2, B3, B4⟩, r⟩ := F
  exact ⟨x0, x1, k0, k1, ⟨Nat.le_trans q B1, Nat.le_trans q B2, Nat.le_trans q B3, B4⟩, r⟩
theorem own_ofn {i j : Nat} (hi : i < 4) (hj : j < 4) (q : i ≠ j) : ¬ Int32.ofNat i = Int32.ofNat j := by
  have H : ∀ i j : Fin 4, i ≠ j → ¬ Int32.ofNat i.val = Int32.ofNat j.val := by decide
  exact H ⟨i, hi⟩ ⟨j, hj⟩ (fun e => q (congrArg Fin.val e))
theorem own_of1 {i : Nat} (hi : i < 4) : Int32.ofNat i + 1 = Int32.ofNat (i + 1) := by
  have H : ∀ i : Fin 4, Int32.ofNat i.val + 1 = Int32.ofNat (i.val + 1) := by decide
  exact H ⟨i, hi⟩
theorem own_turnG (X : Stand p l e ({ frames := 3, cells := 4, slots := 10, locals := 39 } : Room) s m args below meth c T locs 4 10) (hx : p.tables.exec = Jvm.exec) (hZ : Z.Warmed39 s.vm) (hw : ∀ d ∈ tables_1, d.before a0 Z = true) {D IC EL EE EM MO b0 b1 : Addr} {cD cI cE : Cell} (G : own_G Z D IC EL EE EM MO b0 b1 cD cI cE) (hby : c.code = prog_6_method_8_code) (hml : c.maxLocals = 4) (hown : s.vm.findClass "com/example/overweave/overweave/Instance" = some m.cls) (eT : T.heap = h) (N0 : Fr n0 locs) (Z0 : n0 ≤ h.size) (O : Old Z n0 h) {o g t rq y : Addr} {xs : List Addr} {n k u d n1 n2 : Int32} {i b K : Nat} {vol f00 f01 f10 f11 : UInt64} {s3 : Slot} (hs3 : s3 = .unset ∨ ∃ y0, s3 = .val (.ref y0)) (hb0 : n0 ≤ b) (Gr : own_Gr Z b h g n1 n2 f00 f01 f10 f11) (hn1 : n1 = 1 ∨ n1 = 2) (hn2 : n2 = 1 ∨ n2 = 2) (A : own_It Z h t rq n k) (gt : b ≤ t) (hkn : ¬ k = n) (hk : k = Int32.ofNat i) (hi : xs[i]? = some y) (IQ : own_IL Z EL EM h rq xs) (Dm : own_Dm Z h y u d vol)
    (M00 : Mag64 K f00) (M01 : Mag64 K f01) (M10 : Mag64 K f10) (M11 : Mag64 K f11) (hK : 1056 ≤ K) (hK2 : K ≤ 2045) (Mv : Mag64 1056 vol) (hu : u = 0 ∨ (u = 1 ∧ n1 = 2)) (hd : d = 0 ∨ (d = 1 ∧ n2 = 2)) :
    ∃ T' h' L', Stand p l e ({ frames := 3, cells := 4, slots := 10, locals := 39 } : Room) s m args below meth c T' L' 4 10 ∧ T'.heap = h' ∧ Fr n0 L' ∧ (∃ ws, Keep h h' ws ∧ ∀ x ∈ ws, b ≤ x) ∧ own_It Z h' t rq n (k + 1) ∧ own_Gr Z b h' g n1 n2 (own_stp u d vol 0 0 f00) (own_stp u d vol 0 1 f01) (own_stp u d vol 1 0 f10) (own_stp u d vol 1 1 f11) ∧
      ∀ target, Steps p.tables e below (T'.setTop (mkF m 33 #[.val (.ref o), .val (.ref g), .val (.ref t), .val (.ref y)] [])) target → Steps p.tables e below (T.setTop (mkF m 33 #[.val (.ref o), .val (.ref g), .val (.ref t), s3] [])) target := by
  obtain ⟨x0, x1, k0, k1, ⟨Bg, B0, B1, n01, ng0, ng1⟩, GA, R0, R1⟩ := Gr
  have nt0 : t ≠ x0 := by obtain ⟨c0, C0, -⟩ := id R0; exact ne_arr A.1 (ow hw 212 rfl) C0
  have ntg : t ≠ g := by obtain ⟨c0, C0, -⟩ := id GA; exact ne_arr A.1 (ow hw 212 rfl) C0
  have nt1 : n1 = 2 → t ≠ x1 := fun q => by obtain ⟨c0, C0, -⟩ := id (R1 q); exact ne_arr A.1 (ow hw 212 rfl) C0
  have nn : ∀ f, Mag64 K f → NoNaN64 (FP.dadd f vol) := fun f hf => ((dadd_mag hf (Mv.mono hK) (by omega)).fin (by omega)).noNaN
  have gt0 : n0 ≤ t := Nat.le_trans hb0 gt
  have l1 : (0 : Int32) < n1 := by rcases hn1 with rfl | rfl <;> decide
  have l2 : (0 : Int32) < n2 := by rcases hn2 with rfl | rfl <;> decide
  rcases hu with rfl | ⟨rfl, hq1⟩
  · rcases hd with rfl | ⟨rfl, hq2⟩
    · have H : ∃ T' h' L', Stand p l e ({ frames := 3, cells := 4, slots := 10, locals := 39 } : Room) s m args below meth c T' L' 4 10 ∧ T'.heap = h' ∧ Fr n0 L' ∧ Keep h h' [t, x0] ∧ own_It Z h' t rq n (k + 1) ∧ Arv Z h' x0 k1 .double n2 [.double (FP.dadd f00 vol), .double f01] (.double 0) ∧ ∀ target, Steps p.tables e below (T'.setTop (mkF m 33 #[.val (.ref o), .val (.ref g), .val (.ref t), .val (.ref y)] [])) target → Steps p.tables e below (T.setTop (mkF m 33 #[.val (.ref o), .val (.ref g), .val (.ref t), s3] [])) target := by
        rcases hs3 with rfl | ⟨y0, rfl⟩
        · exact own_turn_a (y0 := 0) X hx hZ hw G hby hml hown eT N0 Z0 O (di := 0) (w0 := f00) (xr := x0) (rv := [.double f00, .double f01]) A gt0 (Nat.le_trans hb0 B0) ng0 hkn hk hi IQ Dm GA R0 ⟨by decide, l1⟩ rfl ⟨by decide, l2⟩ rfl rfl (by simp) (nn _ M00)
        · exact own_turn_b X hx hZ hw G hby hml hown eT N0 Z0 O (di := 0) (w0 := f00) (xr := x0) (rv := [.double f00, .double f01]) A gt0 (Nat.le_trans hb0 B0) ng0 hkn hk hi IQ Dm GA R0 ⟨by decide, l1⟩ rfl ⟨by decide, l2⟩ rfl rfl (by simp) (nn _ M00)
      obtain ⟨T', h', L', X', e', N', K', A', RR, st⟩ := H
      refine ⟨T', h', L', X', e', N', ⟨_, K', allS gt (allS B0 all0)⟩, A', ?_, st⟩
      rw [show own_stp 0 0 vol 0 0 f00 = FP.dadd f00 vol from if_pos ⟨rfl, rfl⟩, show own_stp 0 0 vol 0 1 f01 = f01 from if_neg fun q => absurd q.2 (by decide), show own_stp 0 0 vol 1 0 f10 = f10 from if_neg fun q => absurd q.1 (by decide), show own_stp 0 0 vol 1 1 f11 = f11 from if_neg fun q => absurd q.1 (by decide)]
      exact ⟨x0, x1, k0, k1, ⟨Bg, B0, B1, n01, ng0, ng1⟩, GA.keep K' (ninS ntg.symm (ninS ng0 nin0)), RR, fun q => (R1 q).keep K' (ninS (nt1 q).symm (ninS n01.symm nin0))⟩
    · have H : ∃ T' h' L', Stand p l e ({ frames := 3, cells := 4, slots := 10, locals := 39 } : Room) s m args below meth c T' L' 4 10 ∧ T'.heap = h' ∧ Fr n0 L' ∧ Keep h h' [t, x0] ∧ own_It Z h' t rq n (k + 1) ∧ Arv Z h' x0 k1 .double n2 [.double f00, .double (FP.dadd f01 vol)] (.double 0) ∧ ∀ target, Steps p.tables e below (T'.setTop (mkF m 33 #[.val (.ref o), .val (.ref g), .val (.ref t), .val (.ref y)] [])) target → Steps p.tables e below (T.setTop (mkF m 33 #[.val (.ref o), .val (.ref g), .val (.ref t), s3] [])) target := by
        rcases hs3 with rfl | ⟨y0, rfl⟩
        · exact own_turn_a (y0 := 0) X hx hZ hw G hby hml hown eT N0 Z0 O (di := 1) (w0 := f01) (xr := x0) (rv := [.double f00, .double f01]) A gt0 (Nat.le_trans hb0 B0) ng0 hkn hk hi IQ Dm GA R0 ⟨by decide, l1⟩ rfl ⟨by decide, by rw [hq2]; decide⟩ rfl rfl (by simp) (nn _ M01)
        · exact own_turn_b X hx hZ hw G hby hml hown eT N0 Z0 O (di := 1) (w0 := f01) (xr := x0) (rv := [.double f00, .double f01]) A gt0 (Nat.le_trans hb0 B0) ng0 hkn hk hi IQ Dm GA R0 ⟨by decide, l1⟩ rfl ⟨by decide, by rw [hq2]; decide⟩ rfl rfl (by simp) (nn _ M01)
      obtain ⟨T', h', L', X', e', N', K', A', RR, st⟩ := H
      refine ⟨T', h', L', X', e', N', ⟨_, K', allS gt (allS B0 all0)⟩, A', ?_, st⟩
      rw [show own_stp 0 1 vol 0 0 f00 = f00 from if_neg fun q => absurd q.2 (by decide), show own_stp 0 1 vol 0 1 f01 = FP.dadd f01 vol from if_pos ⟨rfl, rfl⟩, show own_stp 0 1 vol 1 0 f10 = f10 from if_neg fun q => absurd q.1 (by decide), show own_stp 0 1 vol 1 1 f11 = f11 from if_neg fun q => absurd q.1 (by decide)]
      exact ⟨x0, x1, k0, k1, ⟨Bg, B0, B1, n01, ng0, ng1⟩, GA.keep K' (ninS ntg.symm (ninS ng0 nin0)), RR, fun q => (R1 q).keep K' (ninS (nt1 q).symm (ninS n01.symm nin0))⟩
  · rcases hd with rfl | ⟨rfl, hq2⟩
    · have H : ∃ T' h' L', Stand p l e ({ frames := 3, cells := 4, slots := 10, locals := 39 } : Room) s m args below meth c T' L' 4 10 ∧ T'.heap = h' ∧ Fr n0 L' ∧ Keep h h' [t, x1] ∧ own_It Z h' t rq n (k + 1) ∧ Arv Z h' x1 k1 .double n2 [.double (FP.dadd f10 vol), .double f11] (.double 0) ∧ ∀ target, Steps p.tables e below (T'.setTop (mkF m 33 #[.val (.ref o), .val (.ref g), .val (.ref t), .val (.ref y)] [])) target → Steps p.tables e below (T.setTop (mkF m 33 #[.val (.ref o), .val (.ref g), .val (.ref t), s3] [])) target := by
        rcases hs3 with rfl | ⟨y0, rfl⟩
        · exact own_turn_a (y0 := 0) X hx hZ hw G hby hml hown eT N0 Z0 O (di := 0) (w0 := f10) (xr := x1) (rv := [.double f10, .double f11]) A gt0 (Nat.le_trans hb0 B1) ng1 hkn hk hi IQ Dm GA (R1 (by exact hq1)) ⟨by decide, by rw [hq1]; decide⟩ rfl ⟨by decide, l2⟩ rfl rfl (by simp) (nn _ M10)
        · exact own_turn_b X hx hZ hw G hby hml hown eT N0 Z0 O (di := 0) (w0 := f10) (xr := x1) (rv := [.double f10, .double f11]) A gt0 (Nat.le_trans hb0 B1) ng1 hkn hk hi IQ Dm GA (R1 (by exact hq1)) ⟨by decide, by rw [hq1]; decide⟩ rfl ⟨by decide, l2⟩ rfl rfl (by simp) (nn _ M10)
      obtain ⟨T', h', L', X', e', N', K', A', RR, st⟩ := H
      refine ⟨T', h', L', X', e', N', ⟨_, K', allS gt (allS B1 all0)⟩, A', ?_, st⟩
      rw [show own_stp 1 0 vol 0 0 f00 = f00 from if_neg fun q => absurd q.1 (by decide), show own_stp 1 0 vol 0 1 f01 = f01 from if_neg fun q => absurd q.1 (by decide), show own_stp 1 0 vol 1 0 f10 = FP.dadd f10 vol from if_pos ⟨rfl, rfl⟩, show own_stp 1 0 vol 1 1 f11 = f11 from if_neg fun q => absurd q.2 (by decide)]
      exact ⟨x0, x1, k0, k1, ⟨Bg, B0, B1, n01, ng0, ng1⟩, GA.keep K' (ninS ntg.symm (ninS ng1 nin0)), R0.keep K' (ninS nt0.symm (ninS n01 nin0)), fun _ => RR⟩
    · have H : ∃ T' h' L', Stand p l e ({ frames := 3, cells := 4, slots := 10, locals := 39 } : Room) s m args below meth c T' L' 4 10 ∧ T'.heap = h' ∧ Fr n0 L' ∧ Keep h h' [t, x1] ∧ own_It Z h' t rq n (k + 1) ∧ Arv Z h' x1 k1 .double n2 [.double f10, .double (FP.dadd f11 vol)] (.double 0) ∧ ∀ target, Steps p.tables e below (T'.setTop (mkF m 33 #[.val (.ref o), .val (.ref g), .val (.ref t), .val (.ref y)] [])) target → Steps p.tables e below (T.setTop (mkF m 33 #[.val (.ref o), .val (.ref g), .val (.ref t), s3] [])) target := by
        rcases hs3 with rfl | ⟨y0, rfl⟩
        · exact own_turn_a (y0 := 0) X hx hZ hw G hby hml hown eT N0 Z0 O (di := 1) (w0 := f11) (xr := x1) (rv := [.double f10, .double f11]) A gt0 (Nat.le_trans hb0 B1) ng1 hkn hk hi IQ Dm GA (R1 (by exact hq1)) ⟨by decide, by rw [hq1]; decide⟩ rfl ⟨by decide, by rw [hq2]; decide⟩ rfl rfl (by simp) (nn _ M11)
        · exact own_turn_b X hx hZ hw G hby hml hown eT N0 Z0 O (di := 1) (w0 := f11) (xr := x1) (rv := [.double f10, .double f11]) A gt0 (Nat.le_trans hb0 B1) ng1 hkn hk hi IQ Dm GA (R1 (by exact hq1)) ⟨by decide, by rw [hq1]; decide⟩ rfl ⟨by decide, by rw [hq2]; decide⟩ rfl rfl (by simp) (nn _ M11)
      obtain ⟨T', h', L', X', e', N', K', A', RR, st⟩ := H
      refine ⟨T', h', L', X', e', N', ⟨_, K', allS gt (allS B1 all0)⟩, A', ?_, st⟩
      rw [show own_stp 1 1 vol 0 0 f00 = f00 from if_neg fun q => absurd q.1 (by decide), show own_stp 1 1 vol 0 1 f01 = f01 from if_neg fun q => absurd q.1 (by decide), show own_stp 1 1 vol 1 0 f10 = f10 from if_neg fun q => absurd q.2 (by decide), show own_stp 1 1 vol 1 1 f11 = FP.dadd f11 vol from if_pos ⟨rfl, rfl⟩]
      exact ⟨x0, x1, k0, k1, ⟨Bg, B0, B1, n01, ng0, ng1⟩, GA.keep K' (ninS ntg.symm (ninS ng1 nin0)), R0.keep K' (ninS nt0.symm (ninS n01 nin0)), fun _ => RR⟩
theorem own_loop {ps : List (Addr × Int32 × Int32 × UInt64)} {n1 n2 : Int32} {hb : Heap} {rq o g t : Addr} {b : Nat} {D IC EL EE EM MO b0 b1 : Addr} {cD cI cE : Cell} (G : own_G Z D IC EL EE EM MO b0 b1 cD cI cE) (hx : p.tables.exec = Jvm.exec) (hZ : Z.Warmed39 s.vm) (hw : ∀ d ∈ tables_1, d.before a0 Z = true) (hby : c.code = prog_6_method_8_code) (hml : c.maxLocals = 4) (hown : s.vm.findClass "com/example/overweave/overweave/Instance" = some m.cls) (hl : ps.length ≤ 3) (hn1 : n1 = 1 ∨ n1 = 2) (hn2 : n2 = 1 ∨ n2 = 2) (hb0 : n0 ≤ b) (hbb : hb.size = b) (gt : b ≤ t) (IQ : own_IL Z EL EM hb rq (ps.map (·.1))) (Ds : own_Ds Z hb n1 n2 ps) (Oh : Old Z n0 hb) :
    ∀ (rest done : List (Addr × Int32 × Int32 × UInt64)), ps = done ++ rest → ∀ {T : State} {locs : List Loc} {h : Heap} {s3 : Slot}, (s3 = .unset ∨ ∃ y0, s3 = .val (.ref y0)) → Stand p l e ({ frames := 3, cells := 4, slots := 10, locals := 39 } : Room) s m args below meth c T locs 4 10 → T.heap = h → Fr n0 locs → Keep hb h [] → own_It Z h t rq (Int32.ofNat ps.length) (Int32.ofNat done.length) → own_Gr Z b h g n1 n2 (own_val 0 0 done) (own_val 0 1 done) (own_val 1 0 done) (own_val 1 1 done) →
    ∃ T' h' L' s3', Stand p l e ({ frames := 3, cells := 4, slots := 10, locals := 39 } : Room) s m args below meth c T' L' 4 10 ∧ T'.heap = h' ∧ Fr n0 L' ∧ Keep hb h' [] ∧ own_Gr Z b h' g n1 n2 (own_val 0 0 ps) (own_val 0 1 ps) (own_val 1 0 ps) (own_val 1 1 ps) ∧ ∀ target, Steps p.tables e below (T'.setTop (mkF m 74 #[.val (.ref o), .val (.ref g), .val (.ref t), s3'] [(.ref g)])) target → Steps p.tables e below (T.setTop (mkF m 33 #[.val (.ref o), .val (.ref g), .val (.ref t), s3] [])) target := by
  intro rest
  induction rest with
  | nil =>
    intro done hps T locs h s3 hs3 X eT N0 K A Gr
    rw [List.append_nil] at hps
    subst hps
    have O := Oh.keep K all0
    have Z0 : n0 ≤ h.size := by rw [← O.1]; exact O.2.1
    obtain ⟨T', h', L', X', e', N', rfl, st⟩ := own_tend X hx hZ hw G hby hml hown eT N0 Z0 O A rfl
    exact ⟨T', h', L', s3, X', e', N', K, Gr, st⟩
  | cons q rest ih =>
    intro done hps T locs h s3 hs3 X eT N0 K A Gr
    have O := Oh.keep K all0
    have Z0 : n0 ≤ h.size := by rw [← O.1]; exact O.2.1
    have hlen : ps.length = done.length + (rest.length + 1) := by rw [hps]; simp
    obtain ⟨Dm, hu, hd, Mv⟩ := Ds q (by rw [hps]; simp)
    have Md : ∀ x ∈ done, Mag64 1056 x.2.2.2 := fun x hx => (Ds x (by rw [hps]; simp [hx])).2.2.2
    have hdl : done.length ≤ 2 := by omega
    have MG := fun a b => own_val_mag a b done Md (by omega)
    obtain ⟨T', h', L', X', e', N', ⟨ws, K', hws⟩, A', Gr', st⟩ := own_turnG X hx hZ hw G hby hml hown eT N0 Z0 O (i := done.length) (xs := ps.map (·.1)) hs3 hb0 Gr hn1 hn2 A gt (own_ofn (by omega) (by omega) (by omega)) rfl (by rw [hps]; simp) (IQ.keep K) (Dm.keep K nin0) (MG 0 0) (MG 0 1) (MG 1 0) (MG 1 1) (by omega) (by omega) Mv hu hd
    have K2 : Keep hb h' [] := K.trans K' fun x hx => Or.inr (by rw [hbb]; exact hws x hx)
    rw [← own_val_snoc, ← own_val_snoc, ← own_val_snoc, ← own_val_snoc] at Gr'
    have A2 : own_It Z h' t rq (Int32.ofNat ps.length) (Int32.ofNat (done ++ [q]).length) := by rw [show (done ++ [q]).length = done.length + 1 by simp, ← own_of1 (by omega)]; exact A'
    obtain ⟨T2, h2, L2, s3', X2, e2, N2, K2', Gr2, st2⟩ := ih (done ++ [q]) (by rw [hps]; simp) (Or.inr ⟨_, rfl⟩) X' e' N' K2 A2 Gr'
    exact ⟨T2, h2, L2, s3', X2, e2, N2, K2', Gr2, fun target k' => st _ (st2 _ k')⟩
def own_QTr (Z : State) (n1 n2 : Int32) (ps : List (Addr × Int32 × Int32 × UInt64)) (h0 : Heap) (n0 : Nat) (v : Option Value) (h : Heap) (L : List Loc) : Prop := ∃ g, v = some (.ref g) ∧ Fr n0 L ∧ Keep h0 h [] ∧ h0.size ≤ g ∧ own_Gr Z h0.size h g n1 n2 (own_val 0 0 ps) (own_val 0 1 ps) (own_val 1 0 ps) (own_val 1 1 ps)
theorem own_ef_tr (m : MethodId) (x0 : Addr) : entryFrame m #[(.ref x0)] 4 = mkF m 0 #[.val (.ref x0), .unset, .unset, .unset] [] := by first | (simp [entryFrame, mkF, argsToLocals, Value.category]; done) | rfl
theorem own_tr (l : Launch) (Z : State) (a0 : Array Value) (hw : ∀ d ∈ tables_1, d.before a0 Z = true) (ws : List Jvm.Cond) {D IC EL EE EM MO b0 b1 : Addr} {cD cI cE : Cell} (G : own_G Z D IC EL EE EM MO b0 b1 cD cI cE) (o ru rd rq : Addr) (us ds : List Addr) (ps : List (Addr × Int32 × Int32 × UInt64)) (n1 n2 : Int32) (hl : ps.length ≤ 3) (hn1 : (n1 = 1 ∧ us.length = 1) ∨ (n1 = 2 ∧ us.length = 2)) (hn2 : (n2 = 1 ∧ ds.length = 1) ∨ (n2 = 2 ∧ ds.length = 2)) (h0 : Heap) (n0 : Nat) (Z0 : n0 ≤ h0.size) (I : own_In Z h0 o ru rd rq) (IU : own_IL Z EL EM h0 ru us) (ID : own_IL Z EL EM h0 rd ds) (IQ : own_IL Z EL EM h0 rq (ps.map (·.1))) (Ds : own_Ds Z h0 n1 n2 ps) (O : Old Z n0 h0) :
    MetFree l (⟨"com/example/overweave/overweave/Instance", "traffic", "()[[D"⟩ : MethodName) (head1 (Jvm.Cond.code (⟨"com/example/overweave/overweave/Instance", "traffic", "()[[D"⟩ : MethodName) prog_6_method_8_code 4 (some (.array (.array .double))) :: ws) ({ frames := 3, cells := 4, slots := 10, locals := 39 } : Room)) (fun av U => av = #[(.ref o)] ∧ Z.Warmed39 U.vm ∧ U.heap = h0) (fun _ _ _ _ _ => True) (fun _ U oc U' => ∃ v L, oc = .returned v ∧ own_QTr Z n1 n2 ps h0 n0 v U'.heap L ∧ FrameEnd U oc U' L ({ frames := 3, cells := 4, slots := 10, locals := 39 } : Room).cells ({ frames := 3, cells := 4, slots := 10, locals := 39 } : Room).slots) := by
  refine MetFree.of_bodySF (plainFor_of_name own_pn13) hisR ?_
  intro p e s m args below meth c s₁ Bd hml0 hP hK
  obtain ⟨rfl, hZ, hh⟩ := hP
  have hx := Bd.exec
  have hby := Bd.bytes
  have hml : c.maxLocals = 4 := hml0
  have hown : s.vm.findClass "com/example/overweave/overweave/Instance" = some m.cls := findClass_of_methodNamed Bd.named
  have X0 : Stand p l e ({ frames := 3, cells := 4, slots := 10, locals := 39 } : Room) s m #[(.ref o)] below meth c s₁ [] 0 0 := Stand.of_body Bd
  have e0 : s₁.heap = h0 := by rw [← hh, Bd.state]; rfl
  have pre0 : ∀ tt, Steps p.tables e below (s₁.setTop (mkF m 0 #[.val (.ref o), .unset, .unset, .unset] [])) tt → Steps p.tables e below (s₁.setTop (entryFrame m #[(.ref o)] 4)) tt := fun tt k' => castTop (own_ef_tr m o) k'
  obtain ⟨T1, h1, L1, g, X1, e1, N1, E1, gg, G1, st1⟩ := own_t0 X0 hx hZ hw G hby hml hown e0 (Fr.nil n0) Z0 O I IU ID hn1 hn2
  have K1 : Keep h0 h1 [] := (Keep.refl h0 []).ext E1
  obtain ⟨T2, h2, L2, t, X2, e2, N2, K2, gt2, A2, st2⟩ := own_t27 X1 hx hZ hw G hby hml hown e1 N1 (Nat.le_trans Z0 K1.1) (O.keep K1 all0) (o := o) (g := g) (IQ.keep K1)
  have K3 : Keep h0 h2 [] := K1.trans K2 all0
  rw [List.length_map] at A2
  obtain ⟨T3, h3, L3, s3, X3, e3, N3, K4, G3, st3⟩ := own_loop (ps := ps) (n1 := n1) (n2 := n2) (hb := h0) (rq := rq) (o := o) (g := g) (t := t) (b := h0.size) G hx hZ hw hby hml hown hl (hn1.imp (·.1) (·.1)) (hn2.imp (·.1) (·.1)) Z0 rfl (Nat.le_trans K1.1 gt2) IQ Ds O ps [] rfl (Or.inl rfl) X2 e2 N2 K3 A2 ((G1.keep K2).low gg)
  obtain ⟨fs, hr, hrun, hended, hW, hsame⟩ := X3.leave (v := some (.ref g)) (fun h => by rw [Bd.returns] at h; cases h)
  refine ⟨_, _, pre0 _ (st1 _ (st2 _ (st3 _ ?_))), hrun, hended, _, _, rfl, ?_, ⟨_, rfl⟩, hW, hsame.mono (by decide) (by decide)⟩
  · exact retOut X3 hx Bd.returns rfl (Or.inr (Or.inr (Or.inr (Or.inr ⟨rfl, rfl, rfl⟩)))) (hb hby d_prog_6_8_74) hr
  · show own_QTr Z n1 n2 ps h0 n0 _ T3.heap _
    rw [e3]
    exact ⟨g, rfl, N3, K4, gg, G3⟩
end OwnH
/-! ## The law's own bodies (printed by gen302_g.py) -/
section OwnL
open Jvm.Free.Fl
variable {p : Program} {l : Launch} {e : Env} {s : State} {m : MethodId} {args : Array Value} {below : List Frame} {meth : Method} {c : Code} {T : State} {locs : List Loc} {Z : State} {a0 : Array Value} {h : Heap} {n0 : Nat}
def own_e1 (n a b u d : Int32) (x : UInt64) (i : Int32) (w : UInt64) : UInt64 := if i < n then own_stp u d x a b w else w
def own_ex (a b n u1 d1 : Int32) (x1 : UInt64) (u2 d2 : Int32) (x2 : UInt64) (u3 d3 : Int32) (x3 : UInt64) : UInt64 := own_e1 n a b u3 d3 x3 2 (own_e1 n a b u2 d2 x2 1 (own_e1 n a b u1 d1 x1 0 0))
theorem own_e1_mag {K : Nat} {n a b u d i : Int32} {x w : UInt64} (hf : Mag64 K w) (hv : Mag64 1056 x) (hK : 1056 ≤ K) (hK2 : K ≤ 2045) : Mag64 (K + 2) (own_e1 n a b u d x i w) := by
  unfold own_e1
  split
  · exact own_stp_mag hf hv hK (by omega)
  · exact hf.mono (by omega)
theorem own_ex_mag {a b n u1 d1 u2 d2 u3 d3 : Int32} {x1 x2 x3 : UInt64} (M1 : Mag64 1056 x1) (M2 : Mag64 1056 x2) (M3 : Mag64 1056 x3) : Mag64 1062 (own_ex a b n u1 d1 x1 u2 d2 x2 u3 d3 x3) :=
  own_e1_mag (own_e1_mag (own_e1_mag (K := 1056) (by unfold Mag64; decide) M1 (by decide) (by decide)) M2 (by decide) (by decide)) M3 (by decide) (by decide)
theorem own_ex_nn {a b n u1 d1 u2 d2 u3 d3 : Int32} {x1 x2 x3 w : UInt64} (M1 : Mag64 1056 x1) (M2 : Mag64 1056 x2) (M3 : Mag64 1056 x3) (hE : own_ex a b n u1 d1 x1 u2 d2 x2 u3 d3 x3 = w) : NoNaN64 w := hE ▸ ((own_ex_mag M1 M2 M3).fin (by decide)).noNaN
theorem d_2_3 : decode method_2_code 3 = .ok (.iload_n 2, 1) := by decide +kernel
theorem d_2_4 : decode method_2_code 4 = .ok (.ifCond .le 21, 3) := by decide +kernel
theorem d_2_7 : decode method_2_code 7 = .ok (.iload_n 3, 1) := by decide +kernel
theorem d_2_8 : decode method_2_code 8 = .ok (.iload_n 0, 1) := by decide +kernel
theorem d_2_9 : decode method_2_code 9 = .ok (.if_icmp .ne 16, 3) := by decide +kernel
theorem d_2_12 : decode method_2_code 12 = .ok (.iload 4, 2) := by decide +kernel
theorem d_2_14 : decode method_2_code 14 = .ok (.iload_n 1, 1) := by decide +kernel
theorem d_2_15 : decode method_2_code 15 = .ok (.if_icmp .ne 10, 3) := by decide +kernel
theorem d_2_18 : decode method_2_code 18 = .ok (.dload 15, 2) := by decide +kernel
theorem d_2_20 : decode method_2_code 20 = .ok (.dload 5, 2) := by decide +kernel
theorem d_2_22 : decode method_2_code 22 = .ok (.dadd, 1) := by decide +kernel
theorem d_2_23 : decode method_2_code 23 = .ok (.dstore 15, 2) := by decide +kernel
theorem own_x1n {R : Room} {cells slots : Nat} (X : Stand p l e R s m args below meth c T locs cells slots) (hx : p.tables.exec = Jvm.exec) (hby : c.code = method_2_code) {a b n u1 d1 u2 d2 u3 d3 : Int32} {x1 x2 x3 w : UInt64} (H : ¬ 0 < n) {target : State} (k' : Steps p.tables e below (T.setTop (mkF m 25 #[.val (.int a), .val (.int b), .val (.int n), .val (.int u1), .val (.int d1), .val (.double x1), .second, .val (.int u2), .val (.int d2), .val (.double x2), .second, .val (.int u3), .val (.int d3), .val (.double x3), .second, .val (.double w), .second] [])) target) : Steps p.tables e below (T.setTop (mkF m 3 #[.val (.int a), .val (.int b), .val (.int n), .val (.int u1), .val (.int d1), .val (.double x1), .second, .val (.int u2), .val (.int d2), .val (.double x2), .second, .val (.int u3), .val (.int d3), .val (.double x3), .second, .val (.double w), .second] [])) target := by
  show Steps _ _ _ (T.setTop (mkF m 3 #[.val (.int a), .val (.int b), .val (.int n), .val (.int u1), .val (.int d1), .val (.double x1), .second, .val (.int u2), .val (.int d2), .val (.double x2), .second, .val (.int u3), .val (.int d3), .val (.double x3), .second, .val (.double w), .second] [])) _
  refine XS.iloadN X.here hx rfl (hb hby d_2_3) rfl ?_
  show Steps _ _ _ (T.setTop (mkF m 4 #[.val (.int a), .val (.int b), .val (.int n), .val (.int u1), .val (.int d1), .val (.double x1), .second, .val (.int u2), .val (.int d2), .val (.double x2), .second, .val (.int u3), .val (.int d3), .val (.double x3), .second, .val (.double w), .second] [(.int n)])) _
  refine XS.ifYes X.here hx rfl rfl (hb hby d_2_4) rfl (XT.i0_le_t H) (show (0 : Int) ≤ ((4 : Nat) : Int) + (21) by decide) (show (((4 : Nat) : Int) + (21)).toNat = 25 by decide) ?_
  show Steps _ _ _ (T.setTop (mkF m 25 #[.val (.int a), .val (.int b), .val (.int n), .val (.int u1), .val (.int d1), .val (.double x1), .second, .val (.int u2), .val (.int d2), .val (.double x2), .second, .val (.int u3), .val (.int d3), .val (.double x3), .second, .val (.double w), .second] [])) _
  exact k'
theorem own_x1u {R : Room} {cells slots : Nat} (X : Stand p l e R s m args below meth c T locs cells slots) (hx : p.tables.exec = Jvm.exec) (hby : c.code = method_2_code) {a b n u1 d1 u2 d2 u3 d3 : Int32} {x1 x2 x3 w : UInt64} (H1 : 0 < n) (H : ¬ u1 = a) {target : State} (k' : Steps p.tables e below (T.setTop (mkF m 25 #[.val (.int a), .val (.int b), .val (.int n), .val (.int u1), .val (.int d1), .val (.double x1), .second, .val (.int u2), .val (.int d2), .val (.double x2), .second, .val (.int u3), .val (.int d3), .val (.double x3), .second, .val (.double w), .second] [])) target) : Steps p.tables e below (T.setTop (mkF m 3 #[.val (.int a), .val (.int b), .val (.int n), .val (.int u1), .val (.int d1), .val (.double x1), .second, .val (.int u2), .val (.int d2), .val (.double x2), .second, .val (.int u3), .val (.int d3), .val (.double x3), .second, .val (.double w), .second] [])) target := by
  show Steps _ _ _ (T.setTop (mkF m 3 #[.val (.int a), .val (.int b), .val (.int n), .val (.int u1), .val (.int d1), .val (.double x1), .second, .val (.int u2), .val (.int d2), .val (.double x2), .second, .val (.int u3), .val (.int d3), .val (.double x3), .second, .val (.double w), .second] [])) _
  refine XS.iloadN X.here hx rfl (hb hby d_2_3) rfl ?_
  show Steps _ _ _ (T.setTop (mkF m 4 #[.val (.int a), .val (.int b), .val (.int n), .val (.int u1), .val (.int d1), .val (.double x1), .second, .val (.int u2), .val (.int d2), .val (.double x2), .second, .val (.int u3), .val (.int d3), .val (.double x3), .second, .val (.double w), .second] [(.int n)])) _
  refine XS.ifNo X.here hx rfl (hb hby d_2_4) rfl (XT.i0_le_f H1) ?_
  refine XS.iloadN X.here hx rfl (hb hby d_2_7) rfl ?_
  refine XS.iloadN X.here hx rfl (hb hby d_2_8) rfl ?_
  show Steps _ _ _ (T.setTop (mkF m 9 #[.val (.int a), .val (.int b), .val (.int n), .val (.int u1), .val (.int d1), .val (.double x1), .second, .val (.int u2), .val (.int d2), .val (.double x2), .second, .val (.int u3), .val (.int d3), .val (.double x3), .second, .val (.double w), .second] [(.int a), (.int u1)])) _
  refine XS.icmpYes X.here hx rfl rfl (hb hby d_2_9) rfl (XT.ii_ne_t H) (show (0 : Int) ≤ ((9 : Nat) : Int) + (16) by decide) (show (((9 : Nat) : Int) + (16)).toNat = 25 by decide) ?_
  show Steps _ _ _ (T.setTop (mkF m 25 #[.val (.int a), .val (.int b), .val (.int n), .val (.int u1), .val (.int d1), .val (.double x1), .second, .val (.int u2), .val (.int d2), .val (.double x2), .second, .val (.int u3), .val (.int d3), .val (.double x3), .second, .val (.double w), .second] [])) _
  exact k'
theorem own_x1d {R : Room} {cells slots : Nat} (X : Stand p l e R s m args below meth c T locs cells slots) (hx : p.tables.exec = Jvm.exec) (hby : c.code = method_2_code) {a b n u1 d1 u2 d2 u3 d3 : Int32} {x1 x2 x3 w : UInt64} (H1 : 0 < n) (H2 : u1 = a) (H : ¬ d1 = b) {target : State} (k' : Steps p.tables e below (T.setTop (mkF m 25 #[.val (.int a), .val (.int b), .val (.int n), .val (.int u1), .val (.int d1), .val (.double x1), .second, .val (.int u2), .val (.int d2), .val (.double x2), .second, .val (.int u3), .val (.int d3), .val (.double x3), .second, .val (.double w), .second] [])) target) : Steps p.tables e below (T.setTop (mkF m 3 #[.val (.int a), .val (.int b), .val (.int n), .val (.int u1), .val (.int d1), .val (.double x1), .second, .val (.int u2), .val (.int d2), .val (.double x2), .second, .val (.int u3), .val (.int d3), .val (.double x3), .second, .val (.double w), .second] [])) target := by
  show Steps _ _ _ (T.setTop (mkF m 3 #[.val (.int a), .val (.int b), .val (.int n), .val (.int u1), .val (.int d1), .val (.double x1), .second, .val (.int u2), .val (.int d2), .val (.double x2), .second, .val (.int u3), .val (.int d3), .val (.double x3), .second, .val (.double w), .second] [])) _
  refine XS.iloadN X.here hx rfl (hb hby d_2_3) rfl ?_
  show Steps _ _ _ (T.setTop (mkF m 4 #[.val (.int a), .val (.int b), .val (.int n), .val (.int u1), .val (.int d1), .val (.double x1), .second, .val (.int u2), .val (.int d2), .val (.double x2), .second, .val (.int u3), .val (.int d3), .val (.double x3), .second, .val (.double w), .second] [(.int n)])) _
  refine XS.ifNo X.here hx rfl (hb hby d_2_4) rfl (XT.i0_le_f H1) ?_
  refine XS.iloadN X.here hx rfl (hb hby d_2_7) rfl ?_
  refine XS.iloadN X.here hx rfl (hb hby d_2_8) rfl ?_
  show Steps _ _ _ (T.setTop (mkF m 9 #[.val (.int a), .val (.int b), .val (.int n), .val (.int u1), .val (.int d1), .val (.double x1), .second, .val (.int u2), .val (.int d2), .val (.double x2), .second, .val (.int u3), .val (.int d3), .val (.double x3), .second, .val (.double w), .second] [(.int a), (.int u1)])) _
  refine XS.icmpNo X.here hx rfl (hb hby d_2_9) rfl (XT.ii_ne_f H2) ?_
  refine XS.iload X.here hx rfl (hb hby d_2_12) rfl ?_
  refine XS.iloadN X.here hx rfl (hb hby d_2_14) rfl ?_
  show Steps _ _ _ (T.setTop (mkF m 15 #[.val (.int a), .val (.int b), .val (.int n), .val (.int u1), .val (.int d1), .val (.double x1), .second, .val (.int u2), .val (.int d2), .val (.double x2), .second, .val (.int u3), .val (.int d3), .val (.double x3), .second, .val (.double w), .second] [(.int b), (.int d1)])) _
  refine XS.icmpYes X.here hx rfl rfl (hb hby d_2_15) rfl (XT.ii_ne_t H) (show (0 : Int) ≤ ((15 : Nat) : Int) + (10) by decide) (show (((15 : Nat) : Int) + (10)).toNat = 25 by decide) ?_
  show Steps _ _ _ (T.setTop (mkF m 25 #[.val (.int a), .val (.int b), .val (.int n), .val (.int u1), .val (.int d1), .val (.double x1), .second, .val (.int u2), .val (.int d2), .val (.double x2), .second, .val (.int u3), .val (.int d3), .val (.double x3), .second, .val (.double w), .second] [])) _
  exact k'
theorem own_x1y {R : Room} {cells slots : Nat} (X : Stand p l e R s m args below meth c T locs cells slots) (hx : p.tables.exec = Jvm.exec) (hby : c.code = method_2_code) {a b n u1 d1 u2 d2 u3 d3 : Int32} {x1 x2 x3 w : UInt64} (H1 : 0 < n) (H2 : u1 = a) (H3 : d1 = b) (hnn : NoNaN64 (FP.dadd w x1)) {target : State} (k' : Steps p.tables e below (T.setTop (mkF m 25 #[.val (.int a), .val (.int b), .val (.int n), .val (.int u1), .val (.int d1), .val (.double x1), .second, .val (.int u2), .val (.int d2), .val (.double x2), .second, .val (.int u3), .val (.int d3), .val (.double x3), .second, .val (.double (FP.dadd w x1)), .second] [])) target) : Steps p.tables e below (T.setTop (mkF m 3 #[.val (.int a), .val (.int b), .val (.int n), .val (.int u1), .val (.int d1), .val (.double x1), .second, .val (.int u2), .val (.int d2), .val (.double x2), .second, .val (.int u3), .val (.int d3), .val (.double x3), .second, .val (.double w), .second] [])) target := by
  show Steps _ _ _ (T.setTop (mkF m 3 #[.val (.int a), .val (.int b), .val (.int n), .val (.int u1), .val (.int d1), .val (.double x1), .second, .val (.int u2), .val (.int d2), .val (.double x2), .second, .val (.int u3), .val (.int d3), .val (.double x3), .second, .val (.double w), .second] [])) _
  refine XS.iloadN X.here hx rfl (hb hby d_2_3) rfl ?_
  show Steps _ _ _ (T.setTop (mkF m 4 #[.val (.int a), .val (.int b), .val (.int n), .val (.int u1), .val (.int d1), .val (.double x1), .second, .val (.int u2), .val (.int d2), .val (.double x2), .second, .val (.int u3), .val (.int d3), .val (.double x3), .second, .val (.double w), .second] [(.int n)])) _
  refine XS.ifNo X.here hx rfl (hb hby d_2_4) rfl (XT.i0_le_f H1) ?_
  refine XS.iloadN X.here hx rfl (hb hby d_2_7) rfl ?_
  refine XS.iloadN X.here hx rfl (hb hby d_2_8) rfl ?_
  show Steps _ _ _ (T.setTop (mkF m 9 #[.val (.int a), .val (.int b), .val (.int n), .val (.int u1), .val (.int d1), .val (.double x1), .second, .val (.int u2), .val (.int d2), .val (.double x2), .second, .val (.int u3), .val (.int d3), .val (.double x3), .second, .val (.double w), .second] [(.int a), (.int u1)])) _
  refine XS.icmpNo X.here hx rfl (hb hby d_2_9) rfl (XT.ii_ne_f H2) ?_
  refine XS.iload X.here hx rfl (hb hby d_2_12) rfl ?_
  refine XS.iloadN X.here hx rfl (hb hby d_2_14) rfl ?_
  show Steps _ _ _ (T.setTop (mkF m 15 #[.val (.int a), .val (.int b), .val (.int n), .val (.int u1), .val (.int d1), .val (.double x1), .second, .val (.int u2), .val (.int d2), .val (.double x2), .second, .val (.int u3), .val (.int d3), .val (.double x3), .second, .val (.double w), .second] [(.int b), (.int d1)])) _
  refine XS.icmpNo X.here hx rfl (hb hby d_2_15) rfl (XT.ii_ne_f H3) ?_
  refine XS.dload X.here hx rfl (hb hby d_2_18) rfl ?_
  refine XS.dload X.here hx rfl (hb hby d_2_20) rfl ?_
  show Steps _ _ _ (T.setTop (mkF m 22 #[.val (.int a), .val (.int b), .val (.int n), .val (.int u1), .val (.int d1), .val (.double x1), .second, .val (.int u2), .val (.int d2), .val (.double x2), .second, .val (.int u3), .val (.int d3), .val (.double x3), .second, .val (.double w), .second] [(.double x1), (.double w)])) _
  refine XS.daddS X.here hx rfl (hb hby d_2_22) rfl hnn rfl ?_
  show Steps _ _ _ (T.setTop (mkF m 23 #[.val (.int a), .val (.int b), .val (.int n), .val (.int u1), .val (.int d1), .val (.double x1), .second, .val (.int u2), .val (.int d2), .val (.double x2), .second, .val (.int u3), .val (.int d3), .val (.double x3), .second, .val (.double w), .second] [(.double (FP.dadd w x1))])) _
  refine XS.dstore X.here hx rfl (hb hby d_2_23) rfl rfl ?_
  show Steps _ _ _ (T.setTop (mkF m 25 #[.val (.int a), .val (.int b), .val (.int n), .val (.int u1), .val (.int d1), .val (.double x1), .second, .val (.int u2), .val (.int d2), .val (.double x2), .second, .val (.int u3), .val (.int d3), .val (.double x3), .second, .val (.double (FP.dadd w x1)), .second] [])) _
  exact k'
theorem own_x1 {R : Room} {cells slots : Nat} (X : Stand p l e R s m args below meth c T locs cells slots) (hx : p.tables.exec = Jvm.exec) (hby : c.code = method_2_code) {a b n u1 d1 u2 d2 u3 d3 : Int32} {x1 x2 x3 w : UInt64} (hnn : NoNaN64 (FP.dadd w x1)) {target : State} (k' : Steps p.tables e below (T.setTop (mkF m 25 #[.val (.int a), .val (.int b), .val (.int n), .val (.int u1), .val (.int d1), .val (.double x1), .second, .val (.int u2), .val (.int d2), .val (.double x2), .second, .val (.int u3), .val (.int d3), .val (.double x3), .second, .val (.double (own_e1 n a b u1 d1 x1 0 w)), .second] [])) target) : Steps p.tables e below (T.setTop (mkF m 3 #[.val (.int a), .val (.int b), .val (.int n), .val (.int u1), .val (.int d1), .val (.double x1), .second, .val (.int u2), .val (.int d2), .val (.double x2), .second, .val (.int u3), .val (.int d3), .val (.double x3), .second, .val (.double w), .second] [])) target := by
  by_cases H1 : 0 < n
  · by_cases H2 : u1 = a
    · by_cases H3 : d1 = b
      · rw [show own_e1 n a b u1 d1 x1 0 w = FP.dadd w x1 from (if_pos H1).trans (if_pos ⟨H2, H3⟩)] at k'; exact own_x1y X hx hby H1 H2 H3 hnn k'
      · rw [show own_e1 n a b u1 d1 x1 0 w = w from (if_pos H1).trans (if_neg fun q => H3 q.2)] at k'; exact own_x1d X hx hby H1 H2 H3 k'
    · rw [show own_e1 n a b u1 d1 x1 0 w = w from (if_pos H1).trans (if_neg fun q => H2 q.1)] at k'; exact own_x1u X hx hby H1 H2 k'
  · rw [show own_e1 n a b u1 d1 x1 0 w = w from if_neg H1] at k'; exact own_x1n X hx hby H1 k'
theorem d_2_25 : decode method_2_code 25 = .ok (.iload_n 2, 1) := by decide +kernel
theorem d_2_26 : decode method_2_code 26 = .ok (.iconst 1, 1) := by decide +kernel
theorem d_2_27 : decode method_2_code 27 = .ok (.if_icmp .le 22, 3) := by decide +kernel
theorem d_2_30 : decode method_2_code 30 = .ok (.iload 7, 2) := by decide +kernel
theorem d_2_32 : decode method_2_code 32 = .ok (.iload_n 0, 1) := by decide +kernel
theorem d_2_33 : decode method_2_code 33 = .ok (.if_icmp .ne 16, 3) := by decide +kernel
theorem d_2_36 : decode method_2_code 36 = .ok (.iload 8, 2) := by decide +kernel
theorem d_2_38 : decode method_2_code 38 = .ok (.iload_n 1, 1) := by decide +kernel
theorem d_2_39 : decode method_2_code 39 = .ok (.if_icmp .ne 10, 3) := by decide +kernel
theorem d_2_42 : decode method_2_code 42 = .ok (.dload 15, 2) := by decide +kernel
theorem d_2_44 : decode method_2_code 44 = .ok (.dload 9, 2) := by decide +kernel
theorem d_2_46 : decode method_2_code 46 = .ok (.dadd, 1) := by decide +kernel
theorem d_2_47 : decode method_2_code 47 = .ok (.dstore 15, 2) := by decide +kernel
theorem own_x2n {R : Room} {cells slots : Nat} (X : Stand p l e R s m args below meth c T locs cells slots) (hx : p.tables.exec = Jvm.exec) (hby : c.code = method_2_code) {a b n u1 d1 u2 d2 u3 d3 : Int32} {x1 x2 x3 w : UInt64} (H : ¬ 1 < n) {target : State} (k' : Steps p.tables e below (T.setTop (mkF m 49 #[.val (.int a), .val (.int b), .val (.int n), .val (.int u1), .val (.int d1), .val (.double x1), .second, .val (.int u2), .val (.int d2), .val (.double x2), .second, .val (.int u3), .val (.int d3), .val (.double x3), .second, .val (.double w), .second] [])) target) : Steps p.tables e below (T.setTop (mkF m 25 #[.val (.int a), .val (.int b), .val (.int n), .val (.int u1), .val (.int d1), .val (.double x1), .second, .val (.int u2), .val (.int d2), .val (.double x2), .second, .val (.int u3), .val (.int d3), .val (.double x3), .second, .val (.double w), .second] [])) target := by
  show Steps _ _ _ (T.setTop (mkF m 25 #[.val (.int a), .val (.int b), .val (.int n), .val (.int u1), .val (.int d1), .val (.double x1), .second, .val (.int u2), .val (.int d2), .val (.double x2), .second, .val (.int u3), .val (.int d3), .val (.double x3), .second, .val (.double w), .second] [])) _
  refine XS.iloadN X.here hx rfl (hb hby d_2_25) rfl ?_
  refine XT.iconstV X.here hx rfl 1 (hb hby d_2_26) rfl ?_
  show Steps _ _ _ (T.setTop (mkF m 27 #[.val (.int a), .val (.int b), .val (.int n), .val (.int u1), .val (.int d1), .val (.double x1), .second, .val (.int u2), .val (.int d2), .val (.double x2), .second, .val (.int u3), .val (.int d3), .val (.double x3), .second, .val (.double w), .second] [(.int 1), (.int n)])) _
  refine XS.icmpYes X.here hx rfl rfl (hb hby d_2_27) rfl (XT.ii_le_t H) (show (0 : Int) ≤ ((27 : Nat) : Int) + (22) by decide) (show (((27 : Nat) : Int) + (22)).toNat = 49 by decide) ?_
  show Steps _ _ _ (T.setTop (mkF m 49 #[.val (.int a), .val (.int b), .val (.int n), .val (.int u1), .val (.int d1), .val (.double x1), .second, .val (.int u2), .val (.int d2), .val (.double x2), .second, .val (.int u3), .val (.int d3), .val (.double x3), .second, .val (.double w), .second] [])) _
  exact k'
theorem own_x2u {R : Room} {cells slots : Nat} (X : Stand p l e R s m args below meth c T locs cells slots) (hx : p.tables.exec = Jvm.exec) (hby : c.code = method_2_code) {a b n u1 d1 u2 d2 u3 d3 : Int32} {x1 x2 x3 w : UInt64} (H1 : 1 < n) (H : ¬ u2 = a) {target : State} (k' : Steps p.tables e below (T.setTop (mkF m 49 #[.val (.int a), .val (.int b), .val (.int n), .val (.int u1), .val (.int d1), .val (.double x1), .second, .val (.int u2), .val (.int d2), .val (.double x2), .second, .val (.int u3), .val (.int d3), .val (.double x3), .second, .val (.double w), .second] [])) target) : Steps p.tables e below (T.setTop (mkF m 25 #[.val (.int a), .val (.int b), .val (.int n), .val (.int u1), .val (.int d1), .val (.double x1), .second, .val (.int u2), .val (.int d2), .val (.double x2), .second, .val (.int u3), .val (.int d3), .val (.double x3), .second, .val (.double w), .second] [])) target := by
  show Steps _ _ _ (T.setTop (mkF m 25 #[.val (.int a), .val (.int b), .val (.int n), .val (.int u1), .val (.int d1), .val (.double x1), .second, .val (.int u2), .val (.int d2), .val (.double x2), .second, .val (.int u3), .val (.int d3), .val (.double x3), .second, .val (.double w), .second] [])) _
  refine XS.iloadN X.here hx rfl (hb hby d_2_25) rfl ?_
  refine XT.iconstV X.here hx rfl 1 (hb hby d_2_26) rfl ?_
  show Steps _ _ _ (T.setTop (mkF m 27 #[.val (.int a), .val (.int b), .val (.int n), .val (.int u1), .val (.int d1), .val (.double x1), .second, .val (.int u2), .val (.int d2), .val (.double x2), .second, .val (.int u3), .val (.int d3), .val (.double x3), .second, .val (.double w), .second] [(.int 1), (.int n)])) _
  refine XS.icmpNo X.here hx rfl (hb hby d_2_27) rfl (XT.ii_le_f H1) ?_
  refine XS.iload X.here hx rfl (hb hby d_2_30) rfl ?_
  refine XS.iloadN X.here hx rfl (hb hby d_2_32) rfl ?_
  show Steps _ _ _ (T.setTop (mkF m 33 #[.val (.int a), .val (.int b), .val (.int n), .val (.int u1), .val (.int d1), .val (.double x1), .second, .val (.int u2), .val (.int d2), .val (.double x2), .second, .val (.int u3), .val (.int d3), .val (.double x3), .second, .val (.double w), .second] [(.int a), (.int u2)])) _
  refine XS.icmpYes X.here hx rfl rfl (hb hby d_2_33) rfl (XT.ii_ne_t H) (show (0 : Int) ≤ ((33 : Nat) : Int) + (16) by decide) (show (((33 : Nat) : Int) + (16)).toNat = 49 by decide) ?_
  show Steps _ _ _ (T.setTop (mkF m 49 #[.val (.int a), .val (.int b), .val (.int n), .val (.int u1), .val (.int d1), .val (.double x1), .second, .val (.int u2), .val (.int d2), .val (.double x2), .second, .val (.int u3), .val (.int d3), .val (.double x3), .second, .val (.double w), .second] [])) _
  exact k'
theorem own_x2d {R : Room} {cells slots : Nat} (X : Stand p l e R s m args below meth c T locs cells slots) (hx : p.tables.exec = Jvm.exec) (hby : c.code = method_2_code) {a b n u1 d1 u2 d2 u3 d3 : Int32} {x1 x2 x3 w : UInt64} (H1 : 1 < n) (H2 : u2 = a) (H : ¬ d2 = b) {target : State} (k' : Steps p.tables e below (T.setTop (mkF m 49 #[.val (.int a), .val (.int b), .val (.int n), .val (.int u1), .val (.int d1), .val (.double x1), .second, .val (.int u2), .val (.int d2), .val (.double x2), .second, .val (.int u3), .val (.int d3), .val (.double x3), .second, .val (.double w), .second] [])) target) : Steps p.tables e below (T.setTop (mkF m 25 #[.val (.int a), .val (.int b), .val (.int n), .val (.int u1), .val (.int d1), .val (.double x1), .second, .val (.int u2), .val (.int d2), .val (.double x2), .second, .val (.int u3), .val (.int d3), .val (.double x3), .second, .val (.double w), .second] [])) target := by
  show Steps _ _ _ (T.setTop (mkF m 25 #[.val (.int a), .val (.int b), .val (.int n), .val (.int u1), .val (.int d1), .val (.double x1), .second, .val (.int u2), .val (.int d2), .val (.double x2), .second, .val (.int u3), .val (.int d3), .val (.double x3), .second, .val (.double w), .second] [])) _
  refine XS.iloadN X.here hx rfl (hb hby d_2_25) rfl ?_
  refine XT.iconstV X.here hx rfl 1 (hb hby d_2_26) rfl ?_
  show Steps _ _ _ (T.setTop (mkF m 27 #[.val (.int a), .val (.int b), .val (.int n), .val (.int u1), .val (.int d1), .val (.double x1), .second, .val (.int u2), .val (.int d2), .val (.double x2), .second, .val (.int u3), .val (.int d3), .val (.double x3), .second, .val (.double w), .second] [(.int 1), (.int n)])) _
  refine XS.icmpNo X.here hx rfl (hb hby d_2_27) rfl (XT.ii_le_f H1) ?_
  refine XS.iload X.here hx rfl (hb hby d_2_30) rfl ?_
  refine XS.iloadN X.here hx rfl (hb hby d_2_32) rfl ?_
  show Steps _ _ _ (T.setTop (mkF m 33 #[.val (.int a), .val (.int b), .val (.int n), .val (.int u1), .val (.int d1), .val (.double x1), .second, .val (.int u2), .val (.int d2), .val (.double x2), .second, .val (.int u3), .val (.int d3), .val (.double x3), .second, .val (.double w), .second] [(.int a), (.int u2)])) _
  refine XS.icmpNo X.here hx rfl (hb hby d_2_33) rfl (XT.ii_ne_f H2) ?_
  refine XS.iload X.here hx rfl (hb hby d_2_36) rfl ?_
  refine XS.iloadN X.here hx rfl (hb hby d_2_38) rfl ?_
  show Steps _ _ _ (T.setTop (mkF m 39 #[.val (.int a), .val (.int b), .val (.int n), .val (.int u1), .val (.int d1), .val (.double x1), .second, .val (.int u2), .val (.int d2), .val (.double x2), .second, .val (.int u3), .val (.int d3), .val (.double x3), .second, .val (.double w), .second] [(.int b), (.int d2)])) _
  refine XS.icmpYes X.here hx rfl rfl (hb hby d_2_39) rfl (XT.ii_ne_t H) (show (0 : Int) ≤ ((39 : Nat) : Int) + (10) by decide) (show (((39 : Nat) : Int) + (10)).toNat = 49 by decide) ?_
  show Steps _ _ _ (T.setTop (mkF m 49 #[.val (.int a), .val (.int b), .val (.int n), .val (.int u1), .val (.int d1), .val (.double x1), .second, .val (.int u2), .val (.int d2), .val (.double x2), .second, .val (.int u3), .val (.int d3), .val (.double x3), .second, .val (.double w), .second] [])) _
  exact k'
theorem own_x2y {R : Room} {cells slots : Nat} (X : Stand p l e R s m args below meth c T locs cells slots) (hx : p.tables.exec = Jvm.exec) (hby : c.code = method_2_code) {a b n u1 d1 u2 d2 u3 d3 : Int32} {x1 x2 x3 w : UInt64} (H1 : 1 < n) (H2 : u2 = a) (H3 : d2 = b) (hnn : NoNaN64 (FP.dadd w x2)) {target : State} (k' : Steps p.tables e below (T.setTop (mkF m 49 #[.val (.int a), .val (.int b), .val (.int n), .val (.int u1), .val (.int d1), .val (.double x1), .second, .val (.int u2), .val (.int d2), .val (.double x2), .second, .val (.int u3), .val (.int d3), .val (.double x3), .second, .val (.double (FP.dadd w x2)), .second] [])) target) : Steps p.tables e below (T.setTop (mkF m 25 #[.val (.int a), .val (.int b), .val (.int n), .val (.int u1), .val (.int d1), .val (.double x1), .second, .val (.int u2), .val (.int d2), .val (.double x2), .second, .val (.int u3), .val (.int d3), .val (.double x3), .second, .val (.double w), .second] [])) target := by
  show Steps _ _ _ (T.setTop (mkF m 25 #[.val (.int a), .val (.int b), .val (.int n), .val (.int u1), .val (.int d1), .val (.double x1), .second, .val (.int u2), .val (.int d2), .val (.double x2), .second, .val (.int u3), .val (.int d3), .val (.double x3), .second, .val (.double w), .second] [])) _
  refine XS.iloadN X.here hx rfl (hb hby d_2_25) rfl ?_
  refine XT.iconstV X.here hx rfl 1 (hb hby d_2_26) rfl ?_
  show Steps _ _ _ (T.setTop (mkF m 27 #[.val (.int a), .val (.int b), .val (.int n), .val (.int u1), .val (.int d1), .val (.double x1), .second, .val (.int u2), .val (.int d2), .val (.double x2), .second, .val (.int u3), .val (.int d3), .val (.double x3), .second, .val (.double w), .second] [(.int 1), (.int n)])) _
  refine XS.icmpNo X.here hx rfl (hb hby d_2_27) rfl (XT.ii_le_f H1) ?_
  refine XS.iload X.here hx rfl (hb hby d_2_30) rfl ?_
  refine XS.iloadN X.here hx rfl (hb hby d_2_32) rfl ?_
  show Steps _ _ _ (T.setTop (mkF m 33 #[.val (.int a), .val (.int b), .val (.int n), .val (.int u1), .val (.int d1), .val (.double x1), .second, .val (.int u2), .val (.int d2), .val (.double x2), .second, .val (.int u3), .val (.int d3), .val (.double x3), .second, .val (.double w), .second] [(.int a), (.int u2)])) _
  refine XS.icmpNo X.here hx rfl (hb hby d_2_33) rfl (XT.ii_ne_f H2) ?_
  refine XS.iload X.here hx rfl (hb hby d_2_36) rfl ?_
  refine XS.iloadN X.here hx rfl (hb hby d_2_38) rfl ?_
  show Steps _ _ _ (T.setTop (mkF m 39 #[.val (.int a), .val (.int b), .val (.int n), .val (.int u1), .val (.int d1), .val (.double x1), .second, .val (.int u2), .val (.int d2), .val (.double x2), .second, .val (.int u3), .val (.int d3), .val (.double x3), .second, .val (.double w), .second] [(.int b), (.int d2)])) _
  refine XS.icmpNo X.here hx rfl (hb hby d_2_39) rfl (XT.ii_ne_f H3) ?_
  refine XS.dload X.here hx rfl (hb hby d_2_42) rfl ?_
  refine XS.dload X.here hx rfl (hb hby d_2_44) rfl ?_
  show Steps _ _ _ (T.setTop (mkF m 46 #[.val (.int a), .val (.int b), .val (.int n), .val (.int u1), .val (.int d1), .val (.double x1), .second, .val (.int u2), .val (.int d2), .val (.double x2), .second, .val (.int u3), .val (.int d3), .val (.double x3), .second, .val (.double w), .second] [(.double x2), (.double w)])) _
  refine XS.daddS X.here hx rfl (hb hby d_2_46) rfl hnn rfl ?_
  show Steps _ _ _ (T.setTop (mkF m 47 #[.val (.int a), .val (.int b), .val (.int n), .val (.int u1), .val (.int d1), .val (.double x1), .second, .val (.int u2), .val (.int d2), .val (.double x2), .second, .val (.int u3), .val (.int d3), .val (.double x3), .second, .val (.double w), .second] [(.double (FP.dadd w x2))])) _
  refine XS.dstore X.here hx rfl (hb hby d_2_47) rfl rfl ?_
  show Steps _ _ _ (T.setTop (mkF m 49 #[.val (.int a), .val (.int b), .val (.int n), .val (.int u1), .val (.int d1), .val (.double x1), .second, .val (.int u2), .val (.int d2), .val (.double x2), .second, .val (.int u3), .val (.int d3), .val (.double x3), .second, .val (.double (FP.dadd w x2)), .second] [])) _
  exact k'
theorem own_x2 {R : Room} {cells slots : Nat} (X : Stand p l e R s m args below meth c T locs cells slots) (hx : p.tables.exec = Jvm.exec) (hby : c.code = method_2_code) {a b n u1 d1 u2 d2 u3 d3 : Int32} {x1 x2 x3 w : UInt64} (hnn : NoNaN64 (FP.dadd w x2)) {target : State} (k' : Steps p.tables e below (T.setTop (mkF m 49 #[.val (.int a), .val (.int b), .val (.int n), .val (.int u1), .val (.int d1), .val (.double x1), .second, .val (.int u2), .val (.int d2), .val (.double x2), .second, .val (.int u3), .val (.int d3), .val (.double x3), .second, .val (.double (own_e1 n a b u2 d2 x2 1 w)), .second] [])) target) : Steps p.tables e below (T.setTop (mkF m 25 #[.val (.int a), .val (.int b), .val (.int n), .val (.int u1), .val (.int d1), .val (.double x1), .second, .val (.int u2), .val (.int d2), .val (.double x2), .second, .val (.int u3), .val (.int d3), .val (.double x3), .second, .val (.double w), .second] [])) target := by
  by_cases H1 : 1 < n
  · by_cases H2 : u2 = a
    · by_cases H3 : d2 = b
      · rw [show own_e1 n a b u2 d2 x2 1 w = FP.dadd w x2 from (if_pos H1).trans (if_pos ⟨H2, H3⟩)] at k'; exact own_x2y X hx hby H1 H2 H3 hnn k'
      · rw [show own_e1 n a b u2 d2 x2 1 w = w from (if_pos H1).trans (if_neg fun q => H3 q.2)] at k'; exact own_x2d X hx hby H1 H2 H3 k'
    · rw [show own_e1 n a b u2 d2 x2 1 w = w from (if_pos H1).trans (if_neg fun q => H2 q.1)] at k'; exact own_x2u X hx hby H1 H2 k'
  · rw [show own_e1 n a b u2 d2 x2 1 w = w from if_neg H1] at k'; exact own_x2n X hx hby H1 k'
theorem d_2_49 : decode method_2_code 49 = .ok (.iload_n 2, 1) := by decide +kernel
theorem d_2_50 : decode method_2_code 50 = .ok (.iconst 2, 1) := by decide +kernel
theorem d_2_51 : decode method_2_code 51 = .ok (.if_icmp .le 22, 3) := by decide +kernel
theorem d_2_54 : decode method_2_code 54 = .ok (.iload 11, 2) := by decide +kernel
theorem d_2_56 : decode method_2_code 56 = .ok (.iload_n 0, 1) := by decide +kernel
theorem d_2_57 : decode method_2_code 57 = .ok (.if_icmp .ne 16, 3) := by decide +kernel
theorem d_2_60 : decode method_2_code 60 = .ok (.iload 12, 2) := by decide +kernel
theorem d_2_62 : decode method_2_code 62 = .ok (.iload_n 1, 1) := by decide +kernel
theorem d_2_63 : decode method_2_code 63 = .ok (.if_icmp .ne 10, 3) := by decide +kernel
theorem d_2_66 : decode method_2_code 66 = .ok (.dload 15, 2) := by decide +kernel
theorem d_2_68 : decode method_2_code 68 = .ok (.dload 13, 2) := by decide +kernel
theorem d_2_70 : decode method_2_code 70 = .ok (.dadd, 1) := by decide +kernel
theorem d_2_71 : decode method_2_code 71 = .ok (.dstore 15, 2) := by decide +kernel
theorem own_x3n {R : Room} {cells slots : Nat} (X : Stand p l e R s m args below meth c T locs cells slots) (hx : p.tables.exec = Jvm.exec) (hby : c.code = method_2_code) {a b n u1 d1 u2 d2 u3 d3 : Int32} {x1 x2 x3 w : UInt64} (H : ¬ 2 < n) {target : State} (k' : Steps p.tables e below (T.setTop (mkF m 73 #[.val (.int a), .val (.int b), .val (.int n), .val (.int u1), .val (.int d1), .val (.double x1), .second, .val (.int u2), .val (.int d2), .val (.double x2), .second, .val (.int u3), .val (.int d3), .val (.double x3), .second, .val (.double w), .second] [])) target) : Steps p.tables e below (T.setTop (mkF m 49 #[.val (.int a), .val (.int b), .val (.int n), .val (.int u1), .val (.int d1), .val (.double x1), .second, .val (.int u2), .val (.int d2), .val (.double x2), .second, .val (.int u3), .val (.int d3), .val (.double x3), .second, .val (.double w), .second] [])) target := by
  show Steps _ _ _ (T.setTop (mkF m 49 #[.val (.int a), .val (.int b), .val (.int n), .val (.int u1), .val (.int d1), .val (.double x1), .second, .val (.int u2), .val (.int d2), .val (.double x2), .second, .val (.int u3), .val (.int d3), .val (.double x3), .second, .val (.double w), .second] [])) _
  refine XS.iloadN X.here hx rfl (hb hby d_2_49) rfl ?_
  refine XT.iconstV X.here hx rfl 2 (hb hby d_2_50) rfl ?_
  show Steps _ _ _ (T.setTop (mkF m 51 #[.val (.int a), .val (.int b), .val (.int n), .val (.int u1), .val (.int d1), .val (.double x1), .second, .val (.int u2), .val (.int d2), .val (.double x2), .second, .val (.int u3), .val (.int d3), .val (.double x3), .second, .val (.double w), .second] [(.int 2), (.int n)])) _
  refine XS.icmpYes X.here hx rfl rfl (hb hby d_2_51) rfl (XT.ii_le_t H) (show (0 : Int) ≤ ((51 : Nat) : Int) + (22) by decide) (show (((51 : Nat) : Int) + (22)).toNat = 73 by decide) ?_
  show Steps _ _ _ (T.setTop (mkF m 73 #[.val (.int a), .val (.int b), .val (.int n), .val (.int u1), .val (.int d1), .val (.double x1), .second, .val (.int u2), .val (.int d2), .val (.double x2), .second, .val (.int u3), .val (.int d3), .val (.double x3), .second, .val (.double w), .second] [])) _
  exact k'
theorem own_x3u {R : Room} {cells slots : Nat} (X : Stand p l e R s m args below meth c T locs cells slots) (hx : p.tables.exec = Jvm.exec) (hby : c.code = method_2_code) {a b n u1 d1 u2 d2 u3 d3 : Int32} {x1 x2 x3 w : UInt64} (H1 : 2 < n) (H : ¬ u3 = a) {target : State} (k' : Steps p.tables e below (T.setTop (mkF m 73 #[.val (.int a), .val (.int b), .val (.int n), .val (.int u1), .val (.int d1), .val (.double x1), .second, .val (.int u2), .val (.int d2), .val (.double x2), .second, .val (.int u3), .val (.int d3), .val (.double x3), .second, .val (.double w), .second] [])) target) : Steps p.tables e below (T.setTop (mkF m 49 #[.val (.int a), .val (.int b), .val (.int n), .val (.int u1), .val (.int d1), .val (.double x1), .second, .val (.int u2), .val (.int d2), .val (.double x2), .second, .val (.int u3), .val (.int d3), .val (.double x3), .second, .val (.double w), .second] [])) target := by
  show Steps _ _ _ (T.setTop (mkF m 49 #[.val (.int a), .val (.int b), .val (.int n), .val (.int u1), .val (.int d1), .val (.double x1), .second, .val (.int u2), .val (.int d2), .val (.double x2), .second, .val (.int u3), .val (.int d3), .val (.double x3), .second, .val (.double w), .second] [])) _
  refine XS.iloadN X.here hx rfl (hb hby d_2_49) rfl ?_
  refine XT.iconstV X.here hx rfl 2 (hb hby d_2_50) rfl ?_
  show Steps _ _ _ (T.setTop (mkF m 51 #[.val (.int a), .val (.int b), .val (.int n), .val (.int u1), .val (.int d1), .val (.double x1), .second, .val (.int u2), .val (.int d2), .val (.double x2), .second, .val (.int u3), .val (.int d3), .val (.double x3), .second, .val (.double w), .second] [(.int 2), (.int n)])) _
  refine XS.icmpNo X.here hx rfl (hb hby d_2_51) rfl (XT.ii_le_f H1) ?_
  refine XS.iload X.here hx rfl (hb hby d_2_54) rfl ?_
  refine XS.iloadN X.here hx rfl (hb hby d_2_56) rfl ?_
  show Steps _ _ _ (T.setTop (mkF m 57 #[.val (.int a), .val (.int b), .val (.int n), .val (.int u1), .val (.int d1), .val (.double x1), .second, .val (.int u2), .val (.int d2), .val (.double x2), .second, .val (.int u3), .val (.int d3), .val (.double x3), .second, .val (.double w), .second] [(.int a), (.int u3)])) _
  refine XS.icmpYes X.here hx rfl rfl (hb hby d_2_57) rfl (XT.ii_ne_t H) (show (0 : Int) ≤ ((57 : Nat) : Int) + (16) by decide) (show (((57 : Nat) : Int) + (16)).toNat = 73 by decide) ?_
  show Steps _ _ _ (T.setTop (mkF m 73 #[.val (.int a), .val (.int b), .val (.int n), .val (.int u1), .val (.int d1), .val (.double x1), .second, .val (.int u2), .val (.int d2), .val (.double x2), .second, .val (.int u3), .val (.int d3), .val (.double x3), .second, .val (.double w), .second] [])) _
  exact k'
theorem own_x3d {R : Room} {cells slots : Nat} (X : Stand p l e R s m args below meth c T locs cells slots) (hx : p.tables.exec = Jvm.exec) (hby : c.code = method_2_code) {a b n u1 d1 u2 d2 u3 d3 : Int32} {x1 x2 x3 w : UInt64} (H1 : 2 < n) (H2 : u3 = a) (H : ¬ d3 = b) {target : State} (k' : Steps p.tables e below (T.setTop (mkF m 73 #[.val (.int a), .val (.int b), .val (.int n), .val (.int u1), .val (.int d1), .val (.double x1), .second, .val (.int u2), .val (.int d2), .val (.double x2), .second, .val (.int u3), .val (.int d3), .val (.double x3), .second, .val (.double w), .second] [])) target) : Steps p.tables e below (T.setTop (mkF m 49 #[.val (.int a), .val (.int b), .val (.int n), .val (.int u1), .val (.int d1), .val (.double x1), .second, .val (.int u2), .val (.int d2), .val (.double x2), .second, .val (.int u3), .val (.int d3), .val (.double x3), .second, .val (.double w), .second] [])) target := by
  show Steps _ _ _ (T.setTop (mkF m 49 #[.val (.int a), .val (.int b), .val (.int n), .val (.int u1), .val (.int d1), .val (.double x1), .second, .val (.int u2), .val (.int d2), .val (.double x2), .second, .val (.int u3), .val (.int d3), .val (.double x3), .second, .val (.double w), .second] [])) _
  refine XS.iloadN X.here hx rfl (hb hby d_2_49) rfl ?_
  refine XT.iconstV X.here hx rfl 2 (hb hby d_2_50) rfl ?_
  show Steps _ _ _ (T.setTop (mkF m 51 #[.val (.int a), .val (.int b), .val (.int n), .val (.int u1), .val (.int d1), .val (.double x1), .second, .val (.int u2), .val (.int d2), .val (.double x2), .second, .val (.int u3), .val (.int d3), .val (.double x3), .second, .val (.double w), .second] [(.int 2), (.int n)])) _
  refine XS.icmpNo X.here hx rfl (hb hby d_2_51) rfl (XT.ii_le_f H1) ?_
  refine XS.iload X.here hx rfl (hb hby d_2_54) rfl ?_
  refine XS.iloadN X.here hx rfl (hb hby d_2_56) rfl ?_
  show Steps _ _ _ (T.setTop (mkF m 57 #[.val (.int a), .val (.int b), .val (.int n), .val (.int u1), .val (.int d1), .val (.double x1), .second, .val (.int u2), .val (.int d2), .val (.double x2), .second, .val (.int u3), .val (.int d3), .val (.double x3), .second, .val (.double w), .second] [(.int a), (.int u3)])) _
  refine XS.icmpNo X.here hx rfl (hb hby d_2_57) rfl (XT.ii_ne_f H2) ?_
  refine XS.iload X.here hx rfl (hb hby d_2_60) rfl ?_
  refine XS.iloadN X.here hx rfl (hb hby d_2_62) rfl ?_
  show Steps _ _ _ (T.setTop (mkF m 63 #[.val (.int a), .val (.int b), .val (.int n), .val (.int u1), .val (.int d1), .val (.double x1), .second, .val (.int u2), .val (.int d2), .val (.double x2), .second, .val (.int u3), .val (.int d3), .val (.double x3), .second, .val (.double w), .second] [(.int b), (.int d3)])) _
  refine XS.icmpYes X.here hx rfl rfl (hb hby d_2_63) rfl (XT.ii_ne_t H) (show (0 : Int) ≤ ((63 : Nat) : Int) + (10) by decide) (show (((63 : Nat) : Int) + (10)).toNat = 73 by decide) ?_
  show Steps _ _ _ (T.setTop (mkF m 73 #[.val (.int a), .val (.int b), .val (.int n), .val (.int u1), .val (.int d1), .val (.double x1), .second, .val (.int u2), .val (.int d2), .val (.double x2), .second, .val (.int u3), .val (.int d3), .val (.double x3), .second, .val (.double w), .second] [])) _
  exact k'
theorem own_x3y {R : Room} {cells slots : Nat} (X : Stand p l e R s m args below meth c T locs cells slots) (hx : p.tables.exec = Jvm.exec) (hby : c.code = method_2_code) {a b n u1 d1 u2 d2 u3 d3 : Int32} {x1 x2 x3 w : UInt64} (H1 : 2 < n) (H2 : u3 = a) (H3 : d3 = b) (hnn : NoNaN64 (FP.dadd w x3)) {target : State} (k' : Steps p.tables e below (T.setTop (mkF m 73 #[.val (.int a), .val (.int b), .val (.int n), .val (.int u1), .val (.int d1), .val (.double x1), .second, .val (.int u2), .val (.int d2), .val (.double x2), .second, .val (.int u3), .val (.int d3), .val (.double x3), .second, .val (.double (FP.dadd w x3)), .second] [])) target) : Steps p.tables e below (T.setTop (mkF m 49 #[.val (.int a), .val (.int b), .val (.int n), .val (.int u1), .val (.int d1), .val (.double x1), .second, .val (.int u2), .val (.int d2), .val (.double x2), .second, .val (.int u3), .val (.int d3), .val (.double x3), .second, .val (.double w), .second] [])) target := by
  show Steps _ _ _ (T.setTop (mkF m 49 #[.val (.int a), .val (.int b), .val (.int n), .val (.int u1), .val (.int d1), .val (.double x1), .second, .val (.int u2), .val (.int d2), .val (.double x2), .second, .val (.int u3), .val (.int d3), .val (.double x3), .second, .val (.double w), .second] [])) _
  refine XS.iloadN X.here hx rfl (hb hby d_2_49) rfl ?_
  refine XT.iconstV X.here hx rfl 2 (hb hby d_2_50) rfl ?_
  show Steps _ _ _ (T.setTop (mkF m 51 #[.val (.int a), .val (.int b), .val (.int n), .val (.int u1), .val (.int d1), .val (.double x1), .second, .val (.int u2), .val (.int d2), .val (.double x2), .second, .val (.int u3), .val (.int d3), .val (.double x3), .second, .val (.double w), .second] [(.int 2), (.int n)])) _
  refine XS.icmpNo X.here hx rfl (hb hby d_2_51) rfl (XT.ii_le_f H1) ?_
  refine XS.iload X.here hx rfl (hb hby d_2_54) rfl ?_
  refine XS.iloadN X.here hx rfl (hb hby d_2_56) rfl ?_
  show Steps _ _ _ (T.setTop (mkF m 57 #[.val (.int a), .val (.int b), .val (.int n), .val (.int u1), .val (.int d1), .val (.double x1), .second, .val (.int u2), .val (.int d2), .val (.double x2), .second, .val (.int u3), .val (.int d3), .val (.double x3), .second, .val (.double w), .second] [(.int a), (.int u3)])) _
  refine XS.icmpNo X.here hx rfl (hb hby d_2_57) rfl (XT.ii_ne_f H2) ?_
  refine XS.iload X.here hx rfl (hb hby d_2_60) rfl ?_
  refine XS.iloadN X.here hx rfl (hb hby d_2_62) rfl ?_
  show Steps _ _ _ (T.setTop (mkF m 63 #[.val (.int a), .val (.int b), .val (.int n), .val (.int u1), .val (.int d1), .val (.double x1), .second, .val (.int u2), .val (.int d2), .val (.double x2), .second, .val (.int u3), .val (.int d3), .val (.double x3), .second, .val (.double w), .second] [(.int b), (.int d3)])) _
  refine XS.icmpNo X.here hx rfl (hb hby d_2_63) rfl (XT.ii_ne_f H3) ?_
  refine XS.dload X.here hx rfl (hb hby d_2_66) rfl ?_
  refine XS.dload X.here hx rfl (hb hby d_2_68) rfl ?_
  show Steps _ _ _ (T.setTop (mkF m 70 #[.val (.int a), .val (.int b), .val (.int n), .val (.int u1), .val (.int d1), .val (.double x1), .second, .val (.int u2), .val (.int d2), .val (.double x2), .second, .val (.int u3), .val (.int d3), .val (.double x3), .second, .val (.double w), .second] [(.double x3), (.double w)])) _
  refine XS.daddS X.here hx rfl (hb hby d_2_70) rfl hnn rfl ?_
  show Steps _ _ _ (T.setTop (mkF m 71 #[.val (.int a), .val (.int b), .val (.int n), .val (.int u1), .val (.int d1), .val (.double x1), .second, .val (.int u2), .val (.int d2), .val (.double x2), .second, .val (.int u3), .val (.int d3), .val (.double x3), .second, .val (.double w), .second] [(.double (FP.dadd w x3))])) _
  refine XS.dstore X.here hx rfl (hb hby d_2_71) rfl rfl ?_
  show Steps _ _ _ (T.setTop (mkF m 73 #[.val (.int a), .val (.int b), .val (.int n), .val (.int u1), .val (.int d1), .val (.double x1), .second, .val (.int u2), .val (.int d2), .val (.double x2), .second, .val (.int u3), .val (.int d3), .val (.double x3), .second, .val (.double (FP.dadd w x3)), .second] [])) _
  exact k'
theorem own_x3 {R : Room} {cells slots : Nat} (X : Stand p l e R s m args below meth c T locs cells slots) (hx : p.tables.exec = Jvm.exec) (hby : c.code = method_2_code) {a b n u1 d1 u2 d2 u3 d3 : Int32} {x1 x2 x3 w : UInt64} (hnn : NoNaN64 (FP.dadd w x3)) {target : State} (k' : Steps p.tables e below (T.setTop (mkF m 73 #[.val (.int a), .val (.int b), .val (.int n), .val (.int u1), .val (.int d1), .val (.double x1), .second, .val (.int u2), .val (.int d2), .val (.double x2), .second, .val (.int u3), .val (.int d3), .val (.double x3), .second, .val (.double (own_e1 n a b u3 d3 x3 2 w)), .second] [])) target) : Steps p.tables e below (T.setTop (mkF m 49 #[.val (.int a), .val (.int b), .val (.int n), .val (.int u1), .val (.int d1), .val (.double x1), .second, .val (.int u2), .val (.int d2), .val (.double x2), .second, .val (.int u3), .val (.int d3), .val (.double x3), .second, .val (.double w), .second] [])) target := by
  by_cases H1 : 2 < n
  · by_cases H2 : u3 = a
    · by_cases H3 : d3 = b
      · rw [show own_e1 n a b u3 d3 x3 2 w = FP.dadd w x3 from (if_pos H1).trans (if_pos ⟨H2, H3⟩)] at k'; exact own_x3y X hx hby H1 H2 H3 hnn k'
      · rw [show own_e1 n a b u3 d3 x3 2 w = w from (if_pos H1).trans (if_neg fun q => H3 q.2)] at k'; exact own_x3d X hx hby H1 H2 H3 k'
    · rw [show own_e1 n a b u3 d3 x3 2 w = w from (if_pos H1).trans (if_neg fun q => H2 q.1)] at k'; exact own_x3u X hx hby H1 H2 k'
  · rw [show own_e1 n a b u3 d3 x3 2 w = w from if_neg H1] at k'; exact own_x3n X hx hby H1 k'
theorem d_2_0 : decode method_2_code 0 = .ok (.dconst 0, 1) := by decide +kernel
theorem d_2_1 : decode method_2_code 1 = .ok (.dstore 15, 2) := by decide +kernel
theorem d_2_73 : decode method_2_code 73 = .ok (.dload 15, 2) := by decide +kernel
theorem d_2_75 : decode method_2_code 75 = .ok (.dreturn, 1) := by decide +kernel
theorem own_pn15 : plainName "com/example/overweave/overweave/InstanceTrafficPinLaw" = true := by first | (simp [plainName, overriddenIn]; done) | decide +kernel
theorem own_ef_exp (m : MethodId) (a b n u1 d1 : Int32) (x1 : UInt64) (u2 d2 : Int32) (x2 : UInt64) (u3 d3 : Int32) (x3 : UInt64) : entryFrame m #[(.int a), (.int b), (.int n), (.int u1), (.int d1), (.double x1), (.int u2), (.int d2), (.double x2), (.int u3), (.int d3), (.double x3)] 17 = mkF m 0 #[.val (.int a), .val (.int b), .val (.int n), .val (.int u1), .val (.int d1), .val (.double x1), .second, .val (.int u2), .val (.int d2), .val (.double x2), .second, .val (.int u3), .val (.int d3), .val (.double x3), .second, .unset, .unset] [] := by first | (simp [entryFrame, mkF, argsToLocals, Value.category]; done) | rfl
theorem own_exp (l : Launch) (Z : State) (a0 : Array Value) (hw : ∀ d ∈ tables_1, d.before a0 Z = true) (ws : List Jvm.Cond) (a b n u1 d1 : Int32) (x1 : UInt64) (u2 d2 : Int32) (x2 : UInt64) (u3 d3 : Int32) (x3 : UInt64) (w : UInt64) (M1 : Mag64 1056 x1) (M2 : Mag64 1056 x2) (M3 : Mag64 1056 x3) (hE : own_ex a b n u1 d1 x1 u2 d2 x2 u3 d3 x3 = w) (h0 : Heap) (n0 : Nat) (Z0 : n0 ≤ h0.size) :
    MetFree l (⟨"com/example/overweave/overweave/InstanceTrafficPinLaw", "exp", "(IIIIIDIIDIID)D"⟩ : MethodName) (head1 (Jvm.Cond.code (⟨"com/example/overweave/overweave/InstanceTrafficPinLaw", "exp", "(IIIIIDIIDIID)D"⟩ : MethodName) method_2_code 17 (some .double) :: ws) ({ frames := 0, cells := 0, slots := 0, locals := 0 } : Room)) (fun av U => av = #[(.int a), (.int b), (.int n), (.int u1), (.int d1), (.double x1), (.int u2), (.int d2), (.double x2), (.int u3), (.int d3), (.double x3)] ∧ Z.Warmed39 U.vm ∧ U.heap = h0) (fun _ _ _ _ _ => True) (fun _ U oc U' => ∃ v L, oc = .returned v ∧ own_QV (.double w) h0 n0 v U'.heap L ∧ FrameEnd U oc U' L ({ frames := 0, cells := 0, slots := 0, locals := 0 } : Room).cells ({ frames := 0, cells := 0, slots := 0, locals := 0 } : Room).slots) := by
  refine MetFree.of_bodySF (plainFor_of_name own_pn15) hisR ?_
  intro p e s m args below meth c s₁ Bd hml0 hP hK
  obtain ⟨rfl, hZ, hh⟩ := hP
  have hx := Bd.exec
  have hby := Bd.bytes
  have X0 : Stand p l e ({ frames := 0, cells := 0, slots := 0, locals := 0 } : Room) s m #[(.int a), (.int b), (.int n), (.int u1), (.int d1), (.double x1), (.int u2), (.int d2), (.double x2), (.int u3), (.int d3), (.double x3)] below meth c s₁ [] 0 0 := Stand.of_body Bd
  have e0 : s₁.heap = h0 := by rw [← hh, Bd.state]; rfl
  have m0 : Mag64 1056 0 := by unfold Mag64; decide
  have m1 := own_e1_mag (n := n) (a := a) (b := b) (u := u1) (d := d1) (i := 0) m0 M1 (by decide) (by decide)
  have m2 := own_e1_mag (n := n) (a := a) (b := b) (u := u2) (d := d2) (i := 1) m1 M2 (by decide) (by decide)
  have nn : ∀ {K : Nat} {f x : UInt64}, Mag64 K f → Mag64 1056 x → 1056 ≤ K → K ≤ 2045 → NoNaN64 (FP.dadd f x) := fun hf hv h1 h2 => ((dadd_mag hf (hv.mono h1) (by omega)).fin (by omega)).noNaN
  obtain ⟨fs, hr, hrun, hended, hW, hsame⟩ := X0.leave (v := some (.double w)) (fun h => by rw [Bd.returns] at h; cases h)
  refine ⟨_, _, castTop (own_ef_exp m a b n u1 d1 x1 u2 d2 x2 u3 d3 x3) ?_, hrun, hended, _, _, rfl, ?_, ⟨_, rfl⟩, hW, hsame.mono (by decide) (by decide)⟩
  · refine XS.dconst0 X0.here hx rfl (hb hby d_2_0) rfl ?_
    show Steps _ _ _ (s₁.setTop (mkF m 1 #[.val (.int a), .val (.int b), .val (.int n), .val (.int u1), .val (.int d1), .val (.double x1), .second, .val (.int u2), .val (.int d2), .val (.double x2), .second, .val (.int u3), .val (.int d3), .val (.double x3), .second, .unset, .unset] [(.double 0)])) _
    refine XS.dstore X0.here hx rfl (hb hby d_2_1) rfl rfl ?_
    refine own_x1 X0 hx hby (w := 0) (nn m0 M1 (by decide) (by decide)) ?_
    refine own_x2 X0 hx hby (nn m1 M2 (by decide) (by decide)) ?_
    refine own_x3 X0 hx hby (nn m2 M3 (by decide) (by decide)) ?_
    refine XS.dload X0.here hx rfl (hb hby d_2_73) rfl ?_
    rw [show own_e1 n a b u3 d3 x3 2 (own_e1 n a b u2 d2 x2 1 (own_e1 n a b u1 d1 x1 0 0)) = w from hE]
    exact retOut X0 hx Bd.returns rfl (Or.inr (Or.inr (Or.inl ⟨rfl, rfl, _, rfl⟩))) (hb hby d_2_75) hr
  · show own_QV (.double w) h0 n0 _ s₁.heap _
    rw [e0]
    exact ⟨rfl, Fr.nil n0, rfl⟩
end OwnL
/-! ## The law's own walk, in pieces (printed by gen302_h.py) -/
section OwnM
open Jvm.Free.Fl
variable {p : Program} {l : Launch} {e : Env} {s : State} {m : MethodId} {args : Array Value} {below : List Frame} {meth : Method} {c : Code} {T : State} {locs : List Loc} {Z : State} {a0 : Array Value} {h : Heap} {n0 : Nat}
abbrev own_B (v0 v1 v2 v3 v4 nU nD n u1 d1 u2 d2 u3 d3 : Int32) (x1 x2 x3 : UInt64) (m : MethodId) (pc : Nat) (s0 s1 s2 s3 s4 s5 s6 s7 s8 : Slot) (st : List Value) : JFrame := mkF m pc #[.val (.int v0), .val (.int v1), .val (.int v2), .val (.int v3), .val (.int v4), .val (.int nU), .val (.int nD), .val (.int n), .val (.int u1), .val (.int d1), .val (.int u2), .val (.int d2), .val (.int u3), .val (.int d3), .val (.double x1), .second, .val (.double x2), .second, .val (.double x3), .second, s0, s1, s2, s3, s4, s5, s6, s7, s8] st
theorem own_s0 {cells slots : Nat} (X : Stand p l e room_1 s m args below meth c T locs cells slots) (hx : p.tables.exec = Jvm.exec) (hby : c.code = code) {v0 v1 v2 v3 v4 : Int32} (h5 : 1 + (v0 &&& 1) ≠ 0) (h6 : 1 + (XT.ushr v0 1 &&& 1) ≠ 0) {target : State} (k' : Steps p.tables e below (T.setTop (mkF m 94 #[.val (.int v0), .val (.int v1), .val (.int v2), .val (.int v3), .val (.int v4), .val (.int (1 + (v0 &&& 1))), .val (.int (1 + ((XT.ushr v0 1) &&& 1))), .val (.int ((XT.ushr v0 2) &&& 3)), .val (.int ((v1 &&& 1) % (1 + (v0 &&& 1)))), .val (.int (((XT.ushr v1 1) &&& 1) % (1 + ((XT.ushr v0 1) &&& 1)))), .val (.int (((XT.ushr v1 2) &&& 1) % (1 + (v0 &&& 1)))), .val (.int (((XT.ushr v1 3) &&& 1) % (1 + ((XT.ushr v0 1) &&& 1)))), .val (.int (((XT.ushr v1 4) &&& 1) % (1 + (v0 &&& 1)))), .val (.int (((XT.ushr v1 5) &&& 1) % (1 + ((XT.ushr v0 1) &&& 1)))), .val (.double (FP.i2d v2)), .second, .val (.double (FP.i2d v3)), .second, .val (.double (FP.i2d v4)), .second, .unset, .unset, .unset, .unset, .unset, .unset, .unset, .unset, .unset] [])) target) : Steps p.tables e below (T.setTop (mkF m 0 #[.val (.int v0), .val (.int v1), .val (.int v2), .val (.int v3), .val (.int v4), .unset, .unset, .unset, .unset, .unset, .unset, .unset, .unset, .unset, .unset, .unset, .unset, .unset, .unset, .unset, .unset, .unset, .unset, .unset, .unset, .unset, .unset, .unset, .unset] [])) target := by
  show Steps _ _ _ (T.setTop (mkF m 0 #[.val (.int v0), .val (.int v1), .val (.int v2), .val (.int v3), .val (.int v4), .unset, .unset, .unset, .unset, .unset, .unset, .unset, .unset, .unset, .unset, .unset, .unset, .unset, .unset, .unset, .unset, .unset, .unset, .unset, .unset, .unset, .unset, .unset, .unset] [])) _
  refine XT.iconstV X.here hx rfl 1 (hb hby at_0) rfl ?_
  refine XS.iloadN X.here hx rfl (hb hby at_1) rfl ?_
  refine XT.iconstV X.here hx rfl 1 (hb hby at_2) rfl ?_
  show Steps _ _ _ (T.setTop (mkF m 3 #[.val (.int v0), .val (.int v1), .val (.int v2), .val (.int v3), .val (.int v4), .unset, .unset, .unset, .unset, .unset, .unset, .unset, .unset, .unset, .unset, .unset, .unset, .unset, .unset, .unset, .unset, .unset, .unset, .unset, .unset, .unset, .unset, .unset, .unset] [(.int 1), (.int v0), (.int 1)])) _
  refine XS.iand X.here hx rfl (hb hby at_3) rfl ?_
  show Steps _ _ _ (T.setTop (mkF m 4 #[.val (.int v0), .val (.int v1), .val (.int v2), .val (.int v3), .val (.int v4), .unset, .unset, .unset, .unset, .unset, .unset, .unset, .unset, .unset, .unset, .unset, .unset, .unset, .unset, .unset, .unset, .unset, .unset, .unset, .unset, .unset, .unset, .unset, .unset] [(.int (v0 &&& 1)), (.int 1)])) _
  refine XS.iadd X.here hx rfl (hb hby at_4) rfl ?_
  show Steps _ _ _ (T.setTop (mkF m 5 #[.val (.int v0), .val (.int v1), .val (.int v2), .val (.int v3), .val (.int v4), .unset, .unset, .unset, .unset, .unset, .unset, .unset, .unset, .unset, .unset, .unset, .unset, .unset, .unset, .unset, .unset, .unset, .unset, .unset, .unset, .unset, .unset, .unset, .unset] [(.int (1 + (v0 &&& 1)))])) _
  refine XS.istore X.here hx rfl (hb hby at_5) rfl rfl ?_
  refine XT.iconstV X.here hx rfl 1 (hb hby at_7) rfl ?_
  refine XS.iloadN X.here hx rfl (hb hby at_8) rfl ?_
  refine XT.iconstV X.here hx rfl 1 (hb hby at_9) rfl ?_
  show Steps _ _ _ (T.setTop (mkF m 10 #[.val (.int v0), .val (.int v1), .val (.int v2), .val (.int v3), .val (.int v4), .val (.int (1 + (v0 &&& 1))), .unset, .unset, .unset, .unset, .unset, .unset, .unset, .unset, .unset, .unset, .unset, .unset, .unset, .unset, .unset, .unset, .unset, .unset, .unset, .unset, .unset, .unset, .unset] [(.int 1), (.int v0), (.int 1)])) _
  refine XT.iushr X.here hx rfl (hb hby at_10) rfl ?_
  refine XT.iconstV X.here hx rfl 1 (hb hby at_11) rfl ?_
  show Steps _ _ _ (T.setTop (mkF m 12 #[.val (.int v0), .val (.int v1), .val (.int v2), .val (.int v3), .val (.int v4), .val (.int (1 + (v0 &&& 1))), .unset, .unset, .unset, .unset, .unset, .unset, .unset, .unset, .unset, .unset, .unset, .unset, .unset, .unset, .unset, .unset, .unset, .unset, .unset, .unset, .unset, .unset, .unset] [(.int 1), (.int (XT.ushr v0 1)), (.int 1)])) _
  refine XS.iand X.here hx rfl (hb hby at_12) rfl ?_
  show Steps _ _ _ (T.setTop (mkF m 13 #[.val (.int v0), .val (.int v1), .val (.int v2), .val (.int v3), .val (.int v4), .val (.int (1 + (v0 &&& 1))), .unset, .unset, .unset, .unset, .unset, .unset, .unset, .unset, .unset, .unset, .unset, .unset, .unset, .unset, .unset, .unset, .unset, .unset, .unset, .unset, .unset, .unset, .unset] [(.int ((XT.ushr v0 1) &&& 1)), (.int 1)])) _
  refine XS.iadd X.here hx rfl (hb hby at_13) rfl ?_
  show Steps _ _ _ (T.setTop (mkF m 14 #[.val (.int v0), .val (.int v1), .val (.int v2), .val (.int v3), .val (.int v4), .val (.int (1 + (v0 &&& 1))), .unset, .unset, .unset, .unset, .unset, .unset, .unset, .unset, .unset, .unset, .unset, .unset, .unset, .unset, .unset, .unset, .unset, .unset, .unset, .unset, .unset, .unset, .unset] [(.int (1 + ((XT.ushr v0 1) &&& 1)))])) _
  refine XS.istore X.here hx rfl (hb hby at_14) rfl rfl ?_
  refine XS.iloadN X.here hx rfl (hb hby at_16) rfl ?_
  refine XT.iconstV X.here hx rfl 2 (hb hby at_17) rfl ?_
  show Steps _ _ _ (T.setTop (mkF m 18 #[.val (.int v0), .val (.int v1), .val (.int v2), .val (.int v3), .val (.int v4), .val (.int (1 + (v0 &&& 1))), .val (.int (1 + ((XT.ushr v0 1) &&& 1))), .unset, .unset, .unset, .unset, .unset, .unset, .unset, .unset, .unset, .unset, .unset, .unset, .unset, .unset, .unset, .unset, .unset, .unset, .unset, .unset, .unset, .unset] [(.int 2), (.int v0)])) _
  refine XT.iushr X.here hx rfl (hb hby at_18) rfl ?_
  refine XT.iconstV X.here hx rfl 3 (hb hby at_19) rfl ?_
  show Steps _ _ _ (T.setTop (mkF m 20 #[.val (.int v0), .val (.int v1), .val (.int v2), .val (.int v3), .val (.int v4), .val (.int (1 + (v0 &&& 1))), .val (.int (1 + ((XT.ushr v0 1) &&& 1))), .unset, .unset, .unset, .unset, .unset, .unset, .unset, .unset, .unset, .unset, .unset, .unset, .unset, .unset, .unset, .unset, .unset, .unset, .unset, .unset, .unset, .unset] [(.int 3), (.int (XT.ushr v0 2))])) _
  refine XS.iand X.here hx rfl (hb hby at_20) rfl ?_
  show Steps _ _ _ (T.setTop (mkF m 21 #[.val (.int v0), .val (.int v1), .val (.int v2), .val (.int v3), .val (.int v4), .val (.int (1 + (v0 &&& 1))), .val (.int (1 + ((XT.ushr v0 1) &&& 1))), .unset, .unset, .unset, .unset, .unset, .unset, .unset, .unset, .unset, .unset, .unset, .unset, .unset, .unset, .unset, .unset, .unset, .unset, .unset, .unset, .unset, .unset] [(.int ((XT.ushr v0 2) &&& 3))])) _
  refine XS.istore X.here hx rfl (hb hby at_21) rfl rfl ?_
  refine XS.iloadN X.here hx rfl (hb hby at_23) rfl ?_
  refine XT.iconstV X.here hx rfl 1 (hb hby at_24) rfl ?_
  show Steps _ _ _ (T.setTop (mkF m 25 #[.val (.int v0), .val (.int v1), .val (.int v2), .val (.int v3), .val (.int v4), .val (.int (1 + (v0 &&& 1))), .val (.int (1 + ((XT.ushr v0 1) &&& 1))), .val (.int ((XT.ushr v0 2) &&& 3)), .unset, .unset, .unset, .unset, .unset, .unset, .unset, .unset, .unset, .unset, .unset, .unset, .unset, .unset, .unset, .unset, .unset, .unset, .unset, .unset, .unset] [(.int 1), (.int v1)])) _
  refine XS.iand X.here hx rfl (hb hby at_25) rfl ?_
  refine XS.iload X.here hx rfl (hb hby at_26) rfl ?_
  show Steps _ _ _ (T.setTop (mkF m 28 #[.val (.int v0), .val (.int v1), .val (.int v2), .val (.int v3), .val (.int v4), .val (.int (1 + (v0 &&& 1))), .val (.int (1 + ((XT.ushr v0 1) &&& 1))), .val (.int ((XT.ushr v0 2) &&& 3)), .unset, .unset, .unset, .unset, .unset, .unset, .unset, .unset, .unset, .unset, .unset, .unset, .unset, .unset, .unset, .unset, .unset, .unset, .unset, .unset, .unset] [(.int (1 + (v0 &&& 1))), (.int (v1 &&& 1))])) _
  refine iremM X hx rfl (hb hby at_28) rfl h5 ?_
  show Steps _ _ _ (T.setTop (mkF m 29 #[.val (.int v0), .val (.int v1), .val (.int v2), .val (.int v3), .val (.int v4), .val (.int (1 + (v0 &&& 1))), .val (.int (1 + ((XT.ushr v0 1) &&& 1))), .val (.int ((XT.ushr v0 2) &&& 3)), .unset, .unset, .unset, .unset, .unset, .unset, .unset, .unset, .unset, .unset, .unset, .unset, .unset, .unset, .unset, .unset, .unset, .unset, .unset, .unset, .unset] [(.int ((v1 &&& 1) % (1 + (v0 &&& 1))))])) _
  refine XS.istore X.here hx rfl (hb hby at_29) rfl rfl ?_
  refine XS.iloadN X.here hx rfl (hb hby at_31) rfl ?_
  refine XT.iconstV X.here hx rfl 1 (hb hby at_32) rfl ?_
  show Steps _ _ _ (T.setTop (mkF m 33 #[.val (.int v0), .val (.int v1), .val (.int v2), .val (.int v3), .val (.int v4), .val (.int (1 + (v0 &&& 1))), .val (.int (1 + ((XT.ushr v0 1) &&& 1))), .val (.int ((XT.ushr v0 2) &&& 3)), .val (.int ((v1 &&& 1) % (1 + (v0 &&& 1)))), .unset, .unset, .unset, .unset, .unset, .unset, .unset, .unset, .unset, .unset, .unset, .unset, .unset, .unset, .unset, .unset, .unset, .unset, .unset, .unset] [(.int 1), (.int v1)])) _
  refine XT.iushr X.here hx rfl (hb hby at_33) rfl ?_
  refine XT.iconstV X.here hx rfl 1 (hb hby at_34) rfl ?_
  show Steps _ _ _ (T.setTop (mkF m 35 #[.val (.int v0), .val (.int v1), .val (.int v2), .val (.int v3), .val (.int v4), .val (.int (1 + (v0 &&& 1))), .val (.int (1 + ((XT.ushr v0 1) &&& 1))), .val (.int ((XT.ushr v0 2) &&& 3)), .val (.int ((v1 &&& 1) % (1 + (v0 &&& 1)))), .unset, .unset, .unset, .unset, .unset, .unset, .unset, .unset, .unset, .unset, .unset, .unset, .unset, .unset, .unset, .unset, .unset, .unset, .unset, .unset] [(.int 1), (.int (XT.ushr v1 1))])) _
  refine XS.iand X.here hx rfl (hb hby at_35) rfl ?_
  refine XS.iload X.here hx rfl (hb hby at_36) rfl ?_
  show Steps _ _ _ (T.setTop (mkF m 38 #[.val (.int v0), .val (.int v1), .val (.int v2), .val (.int v3), .val (.int v4), .val (.int (1 + (v0 &&& 1))), .val (.int (1 + ((XT.ushr v0 1) &&& 1))), .val (.int ((XT.ushr v0 2) &&& 3)), .val (.int ((v1 &&& 1) % (1 + (v0 &&& 1)))), .unset, .unset, .unset, .unset, .unset, .unset, .unset, .unset, .unset, .unset, .unset, .unset, .unset, .unset, .unset, .unset, .unset, .unset, .unset, .unset] [(.int (1 + ((XT.ushr v0 1) &&& 1))), (.int ((XT.ushr v1 1) &&& 1))])) _
  refine iremM X hx rfl (hb hby at_38) rfl h6 ?_
  show Steps _ _ _ (T.setTop (mkF m 39 #[.val (.int v0), .val (.int v1), .val (.int v2), .val (.int v3), .val (.int v4), .val (.int (1 + (v0 &&& 1))), .val (.int (1 + ((XT.ushr v0 1) &&& 1))), .val (.int ((XT.ushr v0 2) &&& 3)), .val (.int ((v1 &&& 1) % (1 + (v0 &&& 1)))), .unset, .unset, .unset, .unset, .unset, .unset, .unset, .unset, .unset, .unset, .unset, .unset, .unset, .unset, .unset, .unset, .unset, .unset, .unset, .unset] [(.int (((XT.ushr v1 1) &&& 1) % (1 + ((XT.ushr v0 1) &&& 1))))])) _
  refine XS.istore X.here hx rfl (hb hby at_39) rfl rfl ?_
  refine XS.iloadN X.here hx rfl (hb hby at_41) rfl ?_
  refine XT.iconstV X.here hx rfl 2 (hb hby at_42) rfl ?_
  show Steps _ _ _ (T.setTop (mkF m 43 #[.val (.int v0), .val (.int v1), .val (.int v2), .val (.int v3), .val (.int v4), .val (.int (1 + (v0 &&& 1))), .val (.int (1 + ((XT.ushr v0 1) &&& 1))), .val (.int ((XT.ushr v0 2) &&& 3)), .val (.int ((v1 &&& 1) % (1 + (v0 &&& 1)))), .val (.int (((XT.ushr v1 1) &&& 1) % (1 + ((XT.ushr v0 1) &&& 1)))), .unset, .unset, .unset, .unset, .unset, .unset, .unset, .unset, .unset, .unset, .unset, .unset, .unset, .unset, .unset, .unset, .unset, .unset, .unset] [(.int 2), (.int v1)])) _
  refine XT.iushr X.here hx rfl (hb hby at_43) rfl ?_
  refine XT.iconstV X.here hx rfl 1 (hb hby at_44) rfl ?_
  show Steps _ _ _ (T.setTop (mkF m 45 #[.val (.int v0), .val (.int v1), .val (.int v2), .val (.int v3), .val (.int v4), .val (.int (1 + (v0 &&& 1))), .val (.int (1 + ((XT.ushr v0 1) &&& 1))), .val (.int ((XT.ushr v0 2) &&& 3)), .val (.int ((v1 &&& 1) % (1 + (v0 &&& 1)))), .val (.int (((XT.ushr v1 1) &&& 1) % (1 + ((XT.ushr v0 1) &&& 1)))), .unset, .unset, .unset, .unset, .unset, .unset, .unset, .unset, .unset, .unset, .unset, .unset, .unset, .unset, .unset, .unset, .unset, .unset, .unset] [(.int 1), (.int (XT.ushr v1 2))])) _
  refine XS.iand X.here hx rfl (hb hby at_45) rfl ?_
  refine XS.iload X.here hx rfl (hb hby at_46) rfl ?_
  show Steps _ _ _ (T.setTop (mkF m 48 #[.val (.int v0), .val (.int v1), .val (.int v2), .val (.int v3), .val (.int v4), .val (.int (1 + (v0 &&& 1))), .val (.int (1 + ((XT.ushr v0 1) &&& 1))), .val (.int ((XT.ushr v0 2) &&& 3)), .val (.int ((v1 &&& 1) % (1 + (v0 &&& 1)))), .val (.int (((XT.ushr v1 1) &&& 1) % (1 + ((XT.ushr v0 1) &&& 1)))), .unset, .unset, .unset, .unset, .unset, .unset, .unset, .unset, .unset, .unset, .unset, .unset, .unset, .unset, .unset, .unset, .unset, .unset, .unset] [(.int (1 + (v0 &&& 1))), (.int ((XT.ushr v1 2) &&& 1))])) _
  refine iremM X hx rfl (hb hby at_48) rfl h5 ?_
  show Steps _ _ _ (T.setTop (mkF m 49 #[.val (.int v0), .val (.int v1), .val (.int v2), .val (.int v3), .val (.int v4), .val (.int (1 + (v0 &&& 1))), .val (.int (1 + ((XT.ushr v0 1) &&& 1))), .val (.int ((XT.ushr v0 2) &&& 3)), .val (.int ((v1 &&& 1) % (1 + (v0 &&& 1)))), .val (.int (((XT.ushr v1 1) &&& 1) % (1 + ((XT.ushr v0 1) &&& 1)))), .unset, .unset, .unset, .unset, .unset, .unset, .unset, .unset, .unset, .unset, .unset, .unset, .unset, .unset, .unset, .unset, .unset, .unset, .unset] [(.int (((XT.ushr v1 2) &&& 1) % (1 + (v0 &&& 1))))])) _
  refine XS.istore X.here hx rfl (hb hby at_49) rfl rfl ?_
  refine XS.iloadN X.here hx rfl (hb hby at_51) rfl ?_
  refine XT.iconstV X.here hx rfl 3 (hb hby at_52) rfl ?_
  show Steps _ _ _ (T.setTop (mkF m 53 #[.val (.int v0), .val (.int v1), .val (.int v2), .val (.int v3), .val (.int v4), .val (.int (1 + (v0 &&& 1))), .val (.int (1 + ((XT.ushr v0 1) &&& 1))), .val (.int ((XT.ushr v0 2) &&& 3)), .val (.int ((v1 &&& 1) % (1 + (v0 &&& 1)))), .val (.int (((XT.ushr v1 1) &&& 1) % (1 + ((XT.ushr v0 1) &&& 1)))), .val (.int (((XT.ushr v1 2) &&& 1) % (1 + (v0 &&& 1)))), .unset, .unset, .unset, .unset, .unset, .unset, .unset, .unset, .unset, .unset, .unset, .unset, .unset, .unset, .unset, .unset, .unset, .unset] [(.int 3), (.int v1)])) _
  refine XT.iushr X.here hx rfl (hb hby at_53) rfl ?_
  refine XT.iconstV X.here hx rfl 1 (hb hby at_54) rfl ?_
  show Steps _ _ _ (T.setTop (mkF m 55 #[.val (.int v0), .val (.int v1), .val (.int v2), .val (.int v3), .val (.int v4), .val (.int (1 + (v0 &&& 1))), .val (.int (1 + ((XT.ushr v0 1) &&& 1))), .val (.int ((XT.ushr v0 2) &&& 3)), .val (.int ((v1 &&& 1) % (1 + (v0 &&& 1)))), .val (.int (((XT.ushr v1 1) &&& 1) % (1 + ((XT.ushr v0 1) &&& 1)))), .val (.int (((XT.ushr v1 2) &&& 1) % (1 + (v0 &&& 1)))), .unset, .unset, .unset, .unset, .unset, .unset, .unset, .unset, .unset, .unset, .unset, .unset, .unset, .unset, .unset, .unset, .unset, .unset] [(.int 1), (.int (XT.ushr v1 3))])) _
  refine XS.iand X.here hx rfl (hb hby at_55) rfl ?_
  refine XS.iload X.here hx rfl (hb hby at_56) rfl ?_
  show Steps _ _ _ (T.setTop (mkF m 58 #[.val (.int v0), .val (.int v1), .val (.int v2), .val (.int v3), .val (.int v4), .val (.int (1 + (v0 &&& 1))), .val (.int (1 + ((XT.ushr v0 1) &&& 1))), .val (.int ((XT.ushr v0 2) &&& 3)), .val (.int ((v1 &&& 1) % (1 + (v0 &&& 1)))), .val (.int (((XT.ushr v1 1) &&& 1) % (1 + ((XT.ushr v0 1) &&& 1)))), .val (.int (((XT.ushr v1 2) &&& 1) % (1 + (v0 &&& 1)))), .unset, .unset, .unset, .unset, .unset, .unset, .unset, .unset, .unset, .unset, .unset, .unset, .unset, .unset, .unset, .unset, .unset, .unset] [(.int (1 + ((XT.ushr v0 1) &&& 1))), (.int ((XT.ushr v1 3) &&& 1))])) _
  refine iremM X hx rfl (hb hby at_58) rfl h6 ?_
  show Steps _ _ _ (T.setTop (mkF m 59 #[.val (.int v0), .val (.int v1), .val (.int v2), .val (.int v3), .val (.int v4), .val (.int (1 + (v0 &&& 1))), .val (.int (1 + ((XT.ushr v0 1) &&& 1))), .val (.int ((XT.ushr v0 2) &&& 3)), .val (.int ((v1 &&& 1) % (1 + (v0 &&& 1)))), .val (.int (((XT.ushr v1 1) &&& 1) % (1 + ((XT.ushr v0 1) &&& 1)))), .val (.int (((XT.ushr v1 2) &&& 1) % (1 + (v0 &&& 1)))), .unset, .unset, .unset, .unset, .unset, .unset, .unset, .unset, .unset, .unset, .unset, .unset, .unset, .unset, .unset, .unset, .unset, .unset] [(.int (((XT.ushr v1 3) &&& 1) % (1 + ((XT.ushr v0 1) &&& 1))))])) _
  refine XS.istore X.here hx rfl (hb hby at_59) rfl rfl ?_
  refine XS.iloadN X.here hx rfl (hb hby at_61) rfl ?_
  refine XT.iconstV X.here hx rfl 4 (hb hby at_62) rfl ?_
  show Steps _ _ _ (T.setTop (mkF m 63 #[.val (.int v0), .val (.int v1), .val (.int v2), .val (.int v3), .val (.int v4), .val (.int (1 + (v0 &&& 1))), .val (.int (1 + ((XT.ushr v0 1) &&& 1))), .val (.int ((XT.ushr v0 2) &&& 3)), .val (.int ((v1 &&& 1) % (1 + (v0 &&& 1)))), .val (.int (((XT.ushr v1 1) &&& 1) % (1 + ((XT.ushr v0 1) &&& 1)))), .val (.int (((XT.ushr v1 2) &&& 1) % (1 + (v0 &&& 1)))), .val (.int (((XT.ushr v1 3) &&& 1) % (1 + ((XT.ushr v0 1) &&& 1)))), .unset, .unset, .unset, .unset, .unset, .unset, .unset, .unset, .unset, .unset, .unset, .unset, .unset, .unset, .unset, .unset, .unset] [(.int 4), (.int v1)])) _
  refine XT.iushr X.here hx rfl (hb hby at_63) rfl ?_
  refine XT.iconstV X.here hx rfl 1 (hb hby at_64) rfl ?_
  show Steps _ _ _ (T.setTop (mkF m 65 #[.val (.int v0), .val (.int v1), .val (.int v2), .val (.int v3), .val (.int v4), .val (.int (1 + (v0 &&& 1))), .val (.int (1 + ((XT.ushr v0 1) &&& 1))), .val (.int ((XT.ushr v0 2) &&& 3)), .val (.int ((v1 &&& 1) % (1 + (v0 &&& 1)))), .val (.int (((XT.ushr v1 1) &&& 1) % (1 + ((XT.ushr v0 1) &&& 1)))), .val (.int (((XT.ushr v1 2) &&& 1) % (1 + (v0 &&& 1)))), .val (.int (((XT.ushr v1 3) &&& 1) % (1 + ((XT.ushr v0 1) &&& 1)))), .unset, .unset, .unset, .unset, .unset, .unset, .unset, .unset, .unset, .unset, .unset, .unset, .unset, .unset, .unset, .unset, .unset] [(.int 1), (.int (XT.ushr v1 4))])) _
  refine XS.iand X.here hx rfl (hb hby at_65) rfl ?_
  refine XS.iload X.here hx rfl (hb hby at_66) rfl ?_
  show Steps _ _ _ (T.setTop (mkF m 68 #[.val (.int v0), .val (.int v1), .val (.int v2), .val (.int v3), .val (.int v4), .val (.int (1 + (v0 &&& 1))), .val (.int (1 + ((XT.ushr v0 1) &&& 1))), .val (.int ((XT.ushr v0 2) &&& 3)), .val (.int ((v1 &&& 1) % (1 + (v0 &&& 1)))), .val (.int (((XT.ushr v1 1) &&& 1) % (1 + ((XT.ushr v0 1) &&& 1)))), .val (.int (((XT.ushr v1 2) &&& 1) % (1 + (v0 &&& 1)))), .val (.int (((XT.ushr v1 3) &&& 1) % (1 + ((XT.ushr v0 1) &&& 1)))), .unset, .unset, .unset, .unset, .unset, .unset, .unset, .unset, .unset, .unset, .unset, .unset, .unset, .unset, .unset, .unset, .unset] [(.int (1 + (v0 &&& 1))), (.int ((XT.ushr v1 4) &&& 1))])) _
  refine iremM X hx rfl (hb hby at_68) rfl h5 ?_
  show Steps _ _ _ (T.setTop (mkF m 69 #[.val (.int v0), .val (.int v1), .val (.int v2), .val (.int v3), .val (.int v4), .val (.int (1 + (v0 &&& 1))), .val (.int (1 + ((XT.ushr v0 1) &&& 1))), .val (.int ((XT.ushr v0 2) &&& 3)), .val (.int ((v1 &&& 1) % (1 + (v0 &&& 1)))), .val (.int (((XT.ushr v1 1) &&& 1) % (1 + ((XT.ushr v0 1) &&& 1)))), .val (.int (((XT.ushr v1 2) &&& 1) % (1 + (v0 &&& 1)))), .val (.int (((XT.ushr v1 3) &&& 1) % (1 + ((XT.ushr v0 1) &&& 1)))), .unset, .unset, .unset, .unset, .unset, .unset, .unset, .unset, .unset, .unset, .unset, .unset, .unset, .unset, .unset, .unset, .unset] [(.int (((XT.ushr v1 4) &&& 1) % (1 + (v0 &&& 1))))])) _
  refine XS.istore X.here hx rfl (hb hby at_69) rfl rfl ?_
  refine XS.iloadN X.here hx rfl (hb hby at_71) rfl ?_
  refine XT.iconstV X.here hx rfl 5 (hb hby at_72) rfl ?_
  show Steps _ _ _ (T.setTop (mkF m 73 #[.val (.int v0), .val (.int v1), .val (.int v2), .val (.int v3), .val (.int v4), .val (.int (1 + (v0 &&& 1))), .val (.int (1 + ((XT.ushr v0 1) &&& 1))), .val (.int ((XT.ushr v0 2) &&& 3)), .val (.int ((v1 &&& 1) % (1 + (v0 &&& 1)))), .val (.int (((XT.ushr v1 1) &&& 1) % (1 + ((XT.ushr v0 1) &&& 1)))), .val (.int (((XT.ushr v1 2) &&& 1) % (1 + (v0 &&& 1)))), .val (.int (((XT.ushr v1 3) &&& 1) % (1 + ((XT.ushr v0 1) &&& 1)))), .val (.int (((XT.ushr v1 4) &&& 1) % (1 + (v0 &&& 1)))), .unset, .unset, .unset, .unset, .unset, .unset, .unset, .unset, .unset, .unset, .unset, .unset, .unset, .unset, .unset, .unset] [(.int 5), (.int v1)])) _
  refine XT.iushr X.here hx rfl (hb hby at_73) rfl ?_
  refine XT.iconstV X.here hx rfl 1 (hb hby at_74) rfl ?_
  show Steps _ _ _ (T.setTop (mkF m 75 #[.val (.int v0), .val (.int v1), .val (.int v2), .val (.int v3), .val (.int v4), .val (.int (1 + (v0 &&& 1))), .val (.int (1 + ((XT.ushr v0 1) &&& 1))), .val (.int ((XT.ushr v0 2) &&& 3)), .val (.int ((v1 &&& 1) % (1 + (v0 &&& 1)))), .val (.int (((XT.ushr v1 1) &&& 1) % (1 + ((XT.ushr v0 1) &&& 1)))), .val (.int (((XT.ushr v1 2) &&& 1) % (1 + (v0 &&& 1)))), .val (.int (((XT.ushr v1 3) &&& 1) % (1 + ((XT.ushr v0 1) &&& 1)))), .val (.int (((XT.ushr v1 4) &&& 1) % (1 + (v0 &&& 1)))), .unset, .unset, .unset, .unset, .unset, .unset, .unset, .unset, .unset, .unset, .unset, .unset, .unset, .unset, .unset, .unset] [(.int 1), (.int (XT.ushr v1 5))])) _
  refine XS.iand X.here hx rfl (hb hby at_75) rfl ?_
  refine XS.iload X.here hx rfl (hb hby at_76) rfl ?_
  show Steps _ _ _ (T.setTop (mkF m 78 #[.val (.int v0), .val (.int v1), .val (.int v2), .val (.int v3), .val (.int v4), .val (.int (1 + (v0 &&& 1))), .val (.int (1 + ((XT.ushr v0 1) &&& 1))), .val (.int ((XT.ushr v0 2) &&& 3)), .val (.int ((v1 &&& 1) % (1 + (v0 &&& 1)))), .val (.int (((XT.ushr v1 1) &&& 1) % (1 + ((XT.ushr v0 1) &&& 1)))), .val (.int (((XT.ushr v1 2) &&& 1) % (1 + (v0 &&& 1)))), .val (.int (((XT.ushr v1 3) &&& 1) % (1 + ((XT.ushr v0 1) &&& 1)))), .val (.int (((XT.ushr v1 4) &&& 1) % (1 + (v0 &&& 1)))), .unset, .unset, .unset, .unset, .unset, .unset, .unset, .unset, .unset, .unset, .unset, .unset, .unset, .unset, .unset, .unset] [(.int (1 + ((XT.ushr v0 1) &&& 1))), (.int ((XT.ushr v1 5) &&& 1))])) _
  refine iremM X hx rfl (hb hby at_78) rfl h6 ?_
  show Steps _ _ _ (T.setTop (mkF m 79 #[.val (.int v0), .val (.int v1), .val (.int v2), .val (.int v3), .val (.int v4), .val (.int (1 + (v0 &&& 1))), .val (.int (1 + ((XT.ushr v0 1) &&& 1))), .val (.int ((XT.ushr v0 2) &&& 3)), .val (.int ((v1 &&& 1) % (1 + (v0 &&& 1)))), .val (.int (((XT.ushr v1 1) &&& 1) % (1 + ((XT.ushr v0 1) &&& 1)))), .val (.int (((XT.ushr v1 2) &&& 1) % (1 + (v0 &&& 1)))), .val (.int (((XT.ushr v1 3) &&& 1) % (1 + ((XT.ushr v0 1) &&& 1)))), .val (.int (((XT.ushr v1 4) &&& 1) % (1 + (v0 &&& 1)))), .unset, .unset, .unset, .unset, .unset, .unset, .unset, .unset, .unset, .unset, .unset, .unset, .unset, .unset, .unset, .unset] [(.int (((XT.ushr v1 5) &&& 1) % (1 + ((XT.ushr v0 1) &&& 1))))])) _
  refine XS.istore X.here hx rfl (hb hby at_79) rfl rfl ?_
  refine XS.iloadN X.here hx rfl (hb hby at_81) rfl ?_
  show Steps _ _ _ (T.setTop (mkF m 82 #[.val (.int v0), .val (.int v1), .val (.int v2), .val (.int v3), .val (.int v4), .val (.int (1 + (v0 &&& 1))), .val (.int (1 + ((XT.ushr v0 1) &&& 1))), .val (.int ((XT.ushr v0 2) &&& 3)), .val (.int ((v1 &&& 1) % (1 + (v0 &&& 1)))), .val (.int (((XT.ushr v1 1) &&& 1) % (1 + ((XT.ushr v0 1) &&& 1)))), .val (.int (((XT.ushr v1 2) &&& 1) % (1 + (v0 &&& 1)))), .val (.int (((XT.ushr v1 3) &&& 1) % (1 + ((XT.ushr v0 1) &&& 1)))), .val (.int (((XT.ushr v1 4) &&& 1) % (1 + (v0 &&& 1)))), .val (.int (((XT.ushr v1 5) &&& 1) % (1 + ((XT.ushr v0 1) &&& 1)))), .unset, .unset, .unset, .unset, .unset, .unset, .unset, .unset, .unset, .unset, .unset, .unset, .unset, .unset, .unset] [(.int v2)])) _
  refine XS.i2dS X.here hx rfl (hb hby at_82) rfl rfl ?_
  show Steps _ _ _ (T.setTop (mkF m 83 #[.val (.int v0), .val (.int v1), .val (.int v2), .val (.int v3), .val (.int v4), .val (.int (1 + (v0 &&& 1))), .val (.int (1 + ((XT.ushr v0 1) &&& 1))), .val (.int ((XT.ushr v0 2) &&& 3)), .val (.int ((v1 &&& 1) % (1 + (v0 &&& 1)))), .val (.int (((XT.ushr v1 1) &&& 1) % (1 + ((XT.ushr v0 1) &&& 1)))), .val (.int (((XT.ushr v1 2) &&& 1) % (1 + (v0 &&& 1)))), .val (.int (((XT.ushr v1 3) &&& 1) % (1 + ((XT.ushr v0 1) &&& 1)))), .val (.int (((XT.ushr v1 4) &&& 1) % (1 + (v0 &&& 1)))), .val (.int (((XT.ushr v1 5) &&& 1) % (1 + ((XT.ushr v0 1) &&& 1)))), .unset, .unset, .unset, .unset, .unset, .unset, .unset, .unset, .unset, .unset, .unset, .unset, .unset, .unset, .unset] [(.double (FP.i2d v2))])) _
  refine XS.dstore X.here hx rfl (hb hby at_83) rfl rfl ?_
  refine XS.iloadN X.here hx rfl (hb hby at_85) rfl ?_
  show Steps _ _ _ (T.setTop (mkF m 86 #[.val (.int v0), .val (.int v1), .val (.int v2), .val (.int v3), .val (.int v4), .val (.int (1 + (v0 &&& 1))), .val (.int (1 + ((XT.ushr v0 1) &&& 1))), .val (.int ((XT.ushr v0 2) &&& 3)), .val (.int ((v1 &&& 1) % (1 + (v0 &&& 1)))), .val (.int (((XT.ushr v1 1) &&& 1) % (1 + ((XT.ushr v0 1) &&& 1)))), .val (.int (((XT.ushr v1 2) &&& 1) % (1 + (v0 &&& 1)))), .val (.int (((XT.ushr v1 3) &&& 1) % (1 + ((XT.ushr v0 1) &&& 1)))), .val (.int (((XT.ushr v1 4) &&& 1) % (1 + (v0 &&& 1)))), .val (.int (((XT.ushr v1 5) &&& 1) % (1 + ((XT.ushr v0 1) &&& 1)))), .val (.double (FP.i2d v2)), .second, .unset, .unset, .unset, .unset, .unset, .unset, .unset, .unset, .unset, .unset, .unset, .unset, .unset] [(.int v3)])) _
  refine XS.i2dS X.here hx rfl (hb hby at_86) rfl rfl ?_
  show Steps _ _ _ (T.setTop (mkF m 87 #[.val (.int v0), .val (.int v1), .val (.int v2), .val (.int v3), .val (.int v4), .val (.int (1 + (v0 &&& 1))), .val (.int (1 + ((XT.ushr v0 1) &&& 1))), .val (.int ((XT.ushr v0 2) &&& 3)), .val (.int ((v1 &&& 1) % (1 + (v0 &&& 1)))), .val (.int (((XT.ushr v1 1) &&& 1) % (1 + ((XT.ushr v0 1) &&& 1)))), .val (.int (((XT.ushr v1 2) &&& 1) % (1 + (v0 &&& 1)))), .val (.int (((XT.ushr v1 3) &&& 1) % (1 + ((XT.ushr v0 1) &&& 1)))), .val (.int (((XT.ushr v1 4) &&& 1) % (1 + (v0 &&& 1)))), .val (.int (((XT.ushr v1 5) &&& 1) % (1 + ((XT.ushr v0 1) &&& 1)))), .val (.double (FP.i2d v2)), .second, .unset, .unset, .unset, .unset, .unset, .unset, .unset, .unset, .unset, .unset, .unset, .unset, .unset] [(.double (FP.i2d v3))])) _
  refine XS.dstore X.here hx rfl (hb hby at_87) rfl rfl ?_
  refine XS.iload X.here hx rfl (hb hby at_89) rfl ?_
  show Steps _ _ _ (T.setTop (mkF m 91 #[.val (.int v0), .val (.int v1), .val (.int v2), .val (.int v3), .val (.int v4), .val (.int (1 + (v0 &&& 1))), .val (.int (1 + ((XT.ushr v0 1) &&& 1))), .val (.int ((XT.ushr v0 2) &&& 3)), .val (.int ((v1 &&& 1) % (1 + (v0 &&& 1)))), .val (.int (((XT.ushr v1 1) &&& 1) % (1 + ((XT.ushr v0 1) &&& 1)))), .val (.int (((XT.ushr v1 2) &&& 1) % (1 + (v0 &&& 1)))), .val (.int (((XT.ushr v1 3) &&& 1) % (1 + ((XT.ushr v0 1) &&& 1)))), .val (.int (((XT.ushr v1 4) &&& 1) % (1 + (v0 &&& 1)))), .val (.int (((XT.ushr v1 5) &&& 1) % (1 + ((XT.ushr v0 1) &&& 1)))), .val (.double (FP.i2d v2)), .second, .val (.double (FP.i2d v3)), .second, .unset, .unset, .unset, .unset, .unset, .unset, .unset, .unset, .unset, .unset, .unset] [(.int v4)])) _
  refine XS.i2dS X.here hx rfl (hb hby at_91) rfl rfl ?_
  show Steps _ _ _ (T.setTop (mkF m 92 #[.val (.int v0), .val (.int v1), .val (.int v2), .val (.int v3), .val (.int v4), .val (.int (1 + (v0 &&& 1))), .val (.int (1 + ((XT.ushr v0 1) &&& 1))), .val (.int ((XT.ushr v0 2) &&& 3)), .val (.int ((v1 &&& 1) % (1 + (v0 &&& 1)))), .val (.int (((XT.ushr v1 1) &&& 1) % (1 + ((XT.ushr v0 1) &&& 1)))), .val (.int (((XT.ushr v1 2) &&& 1) % (1 + (v0 &&& 1)))), .val (.int (((XT.ushr v1 3) &&& 1) % (1 + ((XT.ushr v0 1) &&& 1)))), .val (.int (((XT.ushr v1 4) &&& 1) % (1 + (v0 &&& 1)))), .val (.int (((XT.ushr v1 5) &&& 1) % (1 + ((XT.ushr v0 1) &&& 1)))), .val (.double (FP.i2d v2)), .second, .val (.double (FP.i2d v3)), .second, .unset, .unset, .unset, .unset, .unset, .unset, .unset, .unset, .unset, .unset, .unset] [(.double (FP.i2d v4))])) _
  refine XS.dstore X.here hx rfl (hb hby at_92) rfl rfl ?_
  show Steps _ _ _ (T.setTop (mkF m 94 #[.val (.int v0), .val (.int v1), .val (.int v2), .val (.int v3), .val (.int v4), .val (.int (1 + (v0 &&& 1))), .val (.int (1 + ((XT.ushr v0 1) &&& 1))), .val (.int ((XT.ushr v0 2) &&& 3)), .val (.int ((v1 &&& 1) % (1 + (v0 &&& 1)))), .val (.int (((XT.ushr v1 1) &&& 1) % (1 + ((XT.ushr v0 1) &&& 1)))), .val (.int (((XT.ushr v1 2) &&& 1) % (1 + (v0 &&& 1)))), .val (.int (((XT.ushr v1 3) &&& 1) % (1 + ((XT.ushr v0 1) &&& 1)))), .val (.int (((XT.ushr v1 4) &&& 1) % (1 + (v0 &&& 1)))), .val (.int (((XT.ushr v1 5) &&& 1) % (1 + ((XT.ushr v0 1) &&& 1)))), .val (.double (FP.i2d v2)), .second, .val (.double (FP.i2d v3)), .second, .val (.double (FP.i2d v4)), .second, .unset, .unset, .unset, .unset, .unset, .unset, .unset, .unset, .unset] [])) _
  exact k'
theorem own_pd21 : parseMethodDescriptor "(I)Ljava/lang/Integer;" = some ⟨[.int], some (.object "java/lang/Integer")⟩ := by decide +kernel
theorem own_pd22 : parseMethodDescriptor "(Ljava/lang/Object;)Z" = some ⟨[(.object "java/lang/Object")], some .boolean⟩ := by decide +kernel
theorem own_u1 (X : Stand p l e room_1 s m args below meth c T locs 0 0) (hx : p.tables.exec = Jvm.exec) (hZ : Z.Warmed39 s.vm) (hw : ∀ d ∈ tables_1, d.before a0 Z = true) {D IC EL EE EM MO b0 b1 : Addr} {cD cI cE : Cell} (G : own_G Z D IC EL EE EM MO b0 b1 cD cI cE) (hby : c.code = code) (hml : c.maxLocals = 29) (hown : s.vm.findClass "com/example/overweave/overweave/InstanceTrafficPinLaw" = some m.cls) (eT : T.heap = h) (N0 : Fr n0 locs) (Z0 : n0 ≤ h.size) (O : Old Z n0 h) {v0 v1 v2 v3 v4 nU nD n u1 d1 u2 d2 u3 d3 : Int32} {x1 x2 x3 : UInt64} (hU : ¬ 1 < nU) :
    ∃ T' h' L' aU, Stand p l e room_1 s m args below meth c T' L' 2 13 ∧ T'.heap = h' ∧ Fr n0 L' ∧ Keep h h' [] ∧ own_CL Z D h' aU [b0] ∧ ∀ target, Steps p.tables e below (T'.setTop (own_B v0 v1 v2 v3 v4 nU nD n u1 d1 u2 d2 u3 d3 x1 x2 x3 m 133 (.val (.ref aU)) .unset .unset .unset .unset .unset .unset .unset .unset [])) target → Steps p.tables e below (T.setTop (own_B v0 v1 v2 v3 v4 nU nD n u1 d1 u2 d2 u3 d3 x1 x2 x3 m 94 .unset .unset .unset .unset .unset .unset .unset .unset .unset [])) target := by
  obtain ⟨T1, h1, X1, e1, E1, A1, D1, -, st1⟩ := newO X hx hZ hown (ow hw 0 rfl) (ow hw 1 rfl) (ow hw 2 rfl) eT (g := (own_B v0 v1 v2 v3 v4 nU nD n u1 d1 u2 d2 u3 d3 x1 x2 x3 m 94 .unset .unset .unset .unset .unset .unset .unset .unset .unset [])) rfl (hb hby at_94) (by decide) (by decide)
  obtain ⟨aU, go_aU⟩ : ∃ z, z = h.size := ⟨_, rfl⟩
  rw [← go_aU] at A1 D1 st1
  have gh_aU := (Nat.le_of_eq go_aU.symm : h.size ≤ aU)
  have ge_aU := Nat.le_trans Z0 gh_aU
  have K2_ := (Keep.refl h []).ext E1
  have A_aU := (⟨A1, (D1 (Or.inl (ow hw 22 rfl)) (ty := .int) (by decide)), (D1 (Or.inl (ow hw 25 rfl)) (ty := (.array (.object "java/lang/Object"))) (by decide)), (D1 (Or.inl (ow hw 45 rfl)) (ty := .int) (by decide))⟩ : own_Al Z h1 aU .null 0 0)
  have f4_ := (O.ext E1)
  have Z5_ := (Nat.le_trans Z0 K2_.1)
  obtain ⟨_, _, ⟨T3, L3, k3, n3⟩, -, X3, ⟨Lc3, hQ3, l3, y3, z3⟩, st3⟩ := X1.specialBack hx (y := (⟨"java/util/ArrayList", "<init>", "()V"⟩ : MethodName)) rfl hown (mvT hZ (ow hw 3 rfl)) (mvT hZ (ow hw 4 rfl)) (mvT hZ (ow hw 5 rfl)) (by decide) (backOf (W := 1) (own_alI l Z a0 hw [] G aU .null 0 0 h1 n0 Z5_ A_aU ge_aU f4_) hZ (ow hw 5 rfl) (ow hw 2 rfl) (by decide) (by decide)) (g := (own_B v0 v1 v2 v3 v4 nU nD n u1 d1 u2 d2 u3 d3 x1 x2 x3 m 98 .unset .unset .unset .unset .unset .unset .unset .unset .unset [(.ref aU), (.ref aU)])) rfl (by rw [hml]; rfl) (Steps.refl _) (a := aU) (argsL := []) (rest := [(.ref aU)]) (lenOf own_pd0 rfl) rfl (by show 2 * 0 + _ ≤ _; exact Nat.le_of_eq rfl) (hb hby at_98) (fun _ _ => ⟨rfl, e1, (by decide : 1 + 0 ≤ _), (by decide : 3 + 0 ≤ _)⟩)
  dsimp only [Pt.U, Pt.locs, Pt.cells, Pt.slots] at X3 l3 y3 z3 st3 hQ3
  subst l3 y3 z3
  obtain ⟨h3, e3⟩ : ∃ z, T3.heap = z := ⟨_, rfl⟩
  rw [e3] at hQ3
  obtain ⟨rfl, N3, K3, A3⟩ := hQ3
  have N6_ := Fr.app N0 N3
  have K7_ := K2_.trans K3 (allS (Or.inr gh_aU) all0)
  have f9_ := (f4_.keep K3 (allS ge_aU all0))
  have Z10_ := (Nat.le_trans Z0 K7_.1)
  obtain ⟨_, _, ⟨T8, L8, k8, n8⟩, -, X8, ⟨Lc8, hQ8, l8, y8, z8⟩, st8⟩ := Jvm.LawKit.callS X3 hx (y := (⟨"java/lang/Integer", "valueOf", "(I)Ljava/lang/Integer;"⟩ : MethodName)) hown (mvT hZ (ow hw 26 rfl)) (mvT hZ (ow hw 27 rfl)) (mvT hZ (ow hw 28 rfl)) (mvT hZ (ow hw 29 rfl)) (by decide) (backOf (W := 1) (own_vof0 l Z a0 hw [] G h3 n0 Z10_  f9_) hZ (ow hw 29 rfl) (ow hw 28 rfl) (by decide) (by decide)) (g := (own_B v0 v1 v2 v3 v4 nU nD n u1 d1 u2 d2 u3 d3 x1 x2 x3 m 106 (.val (.ref aU)) .unset .unset .unset .unset .unset .unset .unset .unset [(.int 0), (.ref aU)])) rfl (by rw [hml]; rfl) (argsL := [(.int 0)]) (rest := [(.ref aU)]) (lenOf own_pd21 rfl) rfl (by show 2 * 0 + _ ≤ _; exact Nat.le_of_eq rfl) (hb hby at_106) (fun _ _ => ⟨rfl, e3, (by decide : 1 + 0 ≤ _), (by decide : 3 + 0 ≤ _)⟩)
  dsimp only [Pt.U, Pt.locs, Pt.cells, Pt.slots] at X8 l8 y8 z8 st8 hQ8
  subst l8 y8 z8
  obtain ⟨rfl, N8, e8⟩ := hQ8
  have N11_ := Fr.app N6_ N8
  obtain ⟨cq12, kq12, q12a, q12b, q12c⟩ := isOf hZ e8 A3.1
  obtain ⟨_, _, ⟨T12, L12, k12, n12⟩, -, X12, ⟨Lc12, hQ12, l12, y12, z12⟩, st12⟩ := X8.interfaceBack hx (xi := (⟨"java/util/List", "add", "(Ljava/lang/Object;)Z"⟩ : MethodName)) (y := (⟨"java/util/ArrayList", "add", "(Ljava/lang/Object;)Z"⟩ : MethodName)) hown (mvT hZ (ow hw 33 rfl)) (mvT hZ (ow hw 34 rfl)) (mvT hZ (ow hw 35 rfl)) (mvT hZ (ow hw 36 rfl)) (mvT hZ (ow hw 37 rfl)) (mvT hZ (ow hw 38 rfl)) (mvT hZ (ow hw 39 rfl)) (mvT hZ (ow hw 40 rfl)) (by decide) (backOf (W := 0) (own_add_0 l Z a0 hw [] G aU b0 0 h3 n0 Z10_ ⟨A3.1, A3.2.1, A3.2.2.1, A3.2.2.2⟩ ge_aU (Ins.of_exa (G.2.2.1.1.ext f9_.2) (ow hw 67 rfl)) f9_) hZ (ow hw 41 rfl) (ow hw 2 rfl) (by decide) (by decide)) q12a q12b q12c (g := (own_B v0 v1 v2 v3 v4 nU nD n u1 d1 u2 d2 u3 d3 x1 x2 x3 m 109 (.val (.ref aU)) .unset .unset .unset .unset .unset .unset .unset .unset [(.ref b0), (.ref aU)])) rfl (by rw [hml]; rfl) (Steps.refl _) (argsL := [(.ref b0)]) (rest := []) (lenOf own_pd22 rfl) rfl (by show 2 * 0 + _ ≤ _; exact Nat.le_of_eq rfl) (hb hby at_109) (fun _ _ => ⟨rfl, e8, (by decide : 1 + 1 ≤ _), (by decide : 3 + 10 ≤ _)⟩)
  dsimp only [Pt.U, Pt.locs, Pt.cells, Pt.slots] at X12 l12 y12 z12 st12 hQ12
  subst l12 y12 z12
  obtain ⟨h12, e12⟩ : ∃ z, T12.heap = z := ⟨_, rfl⟩
  rw [e12] at hQ12
  obtain ⟨xxaU, rfl, N12, K12, g12, A12, B12⟩ := hQ12
  have N13_ := Fr.app N11_ N12
  have K14_ := K7_.trans K12 (allS (Or.inr gh_aU) all0)
  have gh_xxaU := Nat.le_trans K7_.1 g12
  have ge_xxaU := Nat.le_trans Z0 gh_xxaU
  have ne_axxaU := ne_exa A12.1 B12.exa (by decide)
  have f15_ := (f9_.keep K12 (allS ge_aU all0))
  have CL_ : own_CL Z D h12 aU [b0] := ⟨_, _, List.replicate 9 .null, ⟨A12.1, A12.2.1, A12.2.2.1, A12.2.2.2⟩, B12, (Ins.of_exa (G.2.2.1.1.ext f15_.2) (ow hw 67 rfl))⟩
  refine ⟨T12, h12, _, aU, X12, e12, N13_, K14_, CL_, fun target k' => ?_⟩
  show Steps _ _ _ (T.setTop (own_B v0 v1 v2 v3 v4 nU nD n u1 d1 u2 d2 u3 d3 x1 x2 x3 m 94 .unset .unset .unset .unset .unset .unset .unset .unset .unset [])) _
  refine st1 _ ?_
  refine XS.dup X1.here hx rfl (hb hby at_97) rfl rfl ?_
  show Steps _ _ _ (T1.setTop (own_B v0 v1 v2 v3 v4 nU nD n u1 d1 u2 d2 u3 d3 x1 x2 x3 m 98 .unset .unset .unset .unset .unset .unset .unset .unset .unset [(.ref aU), (.ref aU)])) _
  refine st3.trans ?_
  show Steps _ _ _ (T3.setTop (own_B v0 v1 v2 v3 v4 nU nD n u1 d1 u2 d2 u3 d3 x1 x2 x3 m 101 .unset .unset .unset .unset .unset .unset .unset .unset .unset [(.ref aU)])) _
  refine XS.astore X3.here hx rfl (hb hby at_101) rfl rfl rfl ?_
  refine XS.aload X3.here hx rfl (hb hby at_103) rfl rfl ?_
  refine XT.iconstV X3.here hx rfl 0 (hb hby at_105) rfl ?_
  show Steps _ _ _ (T3.setTop (own_B v0 v1 v2 v3 v4 nU nD n u1 d1 u2 d2 u3 d3 x1 x2 x3 m 106 (.val (.ref aU)) .unset .unset .unset .unset .unset .unset .unset .unset [(.int 0), (.ref aU)])) _
  refine st8 _ ?_
  show Steps _ _ _ (T8.setTop (own_B v0 v1 v2 v3 v4 nU nD n u1 d1 u2 d2 u3 d3 x1 x2 x3 m 109 (.val (.ref aU)) .unset .unset .unset .unset .unset .unset .unset .unset [(.ref b0), (.ref aU)])) _
  refine st12.trans ?_
  show Steps _ _ _ (T12.setTop (own_B v0 v1 v2 v3 v4 nU nD n u1 d1 u2 d2 u3 d3 x1 x2 x3 m 114 (.val (.ref aU)) .unset .unset .unset .unset .unset .unset .unset .unset [(.int 1)])) _
  refine XT.pop X12.here hx rfl (hb hby at_114) rfl rfl ?_
  refine XS.iload X12.here hx rfl (hb hby at_115) rfl ?_
  refine XT.iconstV X12.here hx rfl 1 (hb hby at_117) rfl ?_
  show Steps _ _ _ (T12.setTop (own_B v0 v1 v2 v3 v4 nU nD n u1 d1 u2 d2 u3 d3 x1 x2 x3 m 118 (.val (.ref aU)) .unset .unset .unset .unset .unset .unset .unset .unset [(.int 1), (.int nU)])) _
  refine XS.icmpYes X12.here hx rfl rfl (hb hby at_118) rfl (XT.ii_le_t hU) (show (0 : Int) ≤ ((118 : Nat) : Int) + (15) by decide) (show (((118 : Nat) : Int) + (15)).toNat = 133 by decide) ?_
  show Steps _ _ _ (T12.setTop (own_B v0 v1 v2 v3 v4 nU nD n u1 d1 u2 d2 u3 d3 x1 x2 x3 m 133 (.val (.ref aU)) .unset .unset .unset .unset .unset .unset .unset .unset [])) _
  exact k'
theorem own_u2 (X : Stand p l e room_1 s m args below meth c T locs 0 0) (hx : p.tables.exec = Jvm.exec) (hZ : Z.Warmed39 s.vm) (hw : ∀ d ∈ tables_1, d.before a0 Z = true) {D IC EL EE EM MO b0 b1 : Addr} {cD cI cE : Cell} (G : own_G Z D IC EL EE EM MO b0 b1 cD cI cE) (hby : c.code = code) (hml : c.maxLocals = 29) (hown : s.vm.findClass "com/example/overweave/overweave/InstanceTrafficPinLaw" = some m.cls) (eT : T.heap = h) (N0 : Fr n0 locs) (Z0 : n0 ≤ h.size) (O : Old Z n0 h) {v0 v1 v2 v3 v4 nU nD n u1 d1 u2 d2 u3 d3 : Int32} {x1 x2 x3 : UInt64} (hU : 1 < nU) :
    ∃ T' h' L' aU, Stand p l e room_1 s m args below meth c T' L' 2 13 ∧ T'.heap = h' ∧ Fr n0 L' ∧ Keep h h' [] ∧ own_CL Z D h' aU [b0, b1] ∧ ∀ target, Steps p.tables e below (T'.setTop (own_B v0 v1 v2 v3 v4 nU nD n u1 d1 u2 d2 u3 d3 x1 x2 x3 m 133 (.val (.ref aU)) .unset .unset .unset .unset .unset .unset .unset .unset [])) target → Steps p.tables e below (T.setTop (own_B v0 v1 v2 v3 v4 nU nD n u1 d1 u2 d2 u3 d3 x1 x2 x3 m 94 .unset .unset .unset .unset .unset .unset .unset .unset .unset [])) target := by
  obtain ⟨T1, h1, X1, e1, E1, A1, D1, -, st1⟩ := newO X hx hZ hown (ow hw 0 rfl) (ow hw 1 rfl) (ow hw 2 rfl) eT (g := (own_B v0 v1 v2 v3 v4 nU nD n u1 d1 u2 d2 u3 d3 x1 x2 x3 m 94 .unset .unset .unset .unset .unset .unset .unset .unset .unset [])) rfl (hb hby at_94) (by decide) (by decide)
  obtain ⟨aU, go_aU⟩ : ∃ z, z = h.size := ⟨_, rfl⟩
  rw [← go_aU] at A1 D1 st1
  have gh_aU := (Nat.le_of_eq go_aU.symm : h.size ≤ aU)
  have ge_aU := Nat.le_trans Z0 gh_aU
  have K2_ := (Keep.refl h []).ext E1
  have A_aU := (⟨A1, (D1 (Or.inl (ow hw 22 rfl)) (ty := .int) (by decide)), (D1 (Or.inl (ow hw 25 rfl)) (ty := (.array (.object "java/lang/Object"))) (by decide)), (D1 (Or.inl (ow hw 45 rfl)) (ty := .int) (by decide))⟩ : own_Al Z h1 aU .null 0 0)
  have f4_ := (O.ext E1)
  have Z5_ := (Nat.le_trans Z0 K2_.1)
  obtain ⟨_, _, ⟨T3, L3, k3, n3⟩, -, X3, ⟨Lc3, hQ3, l3, y3, z3⟩, st3⟩ := X1.specialBack hx (y := (⟨"java/util/ArrayList", "<init>", "()V"⟩ : MethodName)) rfl hown (mvT hZ (ow hw 3 rfl)) (mvT hZ (ow hw 4 rfl)) (mvT hZ (ow hw 5 rfl)) (by decide) (backOf (W := 1) (own_alI l Z a0 hw [] G aU .null 0 0 h1 n0 Z5_ A_aU ge_aU f4_) hZ (ow hw 5 rfl) (ow hw 2 rfl) (by decide) (by decide)) (g := (own_B v0 v1 v2 v3 v4 nU nD n u1 d1 u2 d2 u3 d3 x1 x2 x3 m 98 .unset .unset .unset .unset .unset .unset .unset .unset .unset [(.ref aU), (.ref aU)])) rfl (by rw [hml]; rfl) (Steps.refl _) (a := aU) (argsL := []) (rest := [(.ref aU)]) (lenOf own_pd0 rfl) rfl (by show 2 * 0 + _ ≤ _; exact Nat.le_of_eq rfl) (hb hby at_98) (fun _ _ => ⟨rfl, e1, (by decide : 1 + 0 ≤ _), (by decide : 3 + 0 ≤ _)⟩)
  dsimp only [Pt.U, Pt.locs, Pt.cells, Pt.slots] at X3 l3 y3 z3 st3 hQ3
  subst l3 y3 z3
  obtain ⟨h3, e3⟩ : ∃ z, T3.heap = z := ⟨_, rfl⟩
  rw [e3] at hQ3
  obtain ⟨rfl, N3, K3, A3⟩ := hQ3
  have N6_ := Fr.app N0 N3
  have K7_ := K2_.trans K3 (allS (Or.inr gh_aU) all0)
  have f9_ := (f4_.keep K3 (allS ge_aU all0))
  have Z10_ := (Nat.le_trans Z0 K7_.1)
  obtain ⟨_, _, ⟨T8, L8, k8, n8⟩, -, X8, ⟨Lc8, hQ8, l8, y8, z8⟩, st8⟩ := Jvm.LawKit.callS X3 hx (y := (⟨"java/lang/Integer", "valueOf", "(I)Ljava/lang/Integer;"⟩ : MethodName)) hown (mvT hZ (ow hw 26 rfl)) (mvT hZ (ow hw 27 rfl)) (mvT hZ (ow hw 28 rfl)) (mvT hZ (ow hw 29 rfl)) (by decide) (backOf (W := 1) (own_vof0 l Z a0 hw [] G h3 n0 Z10_  f9_) hZ (ow hw 29 rfl) (ow hw 28 rfl) (by decide) (by decide)) (g := (own_B v0 v1 v2 v3 v4 nU nD n u1 d1 u2 d2 u3 d3 x1 x2 x3 m 106 (.val (.ref aU)) .unset .unset .unset .unset .unset .unset .unset .unset [(.int 0), (.ref aU)])) rfl (by rw [hml]; rfl) (argsL := [(.int 0)]) (rest := [(.ref aU)]) (lenOf own_pd21 rfl) rfl (by show 2 * 0 + _ ≤ _; exact Nat.le_of_eq rfl) (hb hby at_106) (fun _ _ => ⟨rfl, e3, (by decide : 1 + 0 ≤ _), (by decide : 3 + 0 ≤ _)⟩)
  dsimp only [Pt.U, Pt.locs, Pt.cells, Pt.slots] at X8 l8 y8 z8 st8 hQ8
  subst l8 y8 z8
  obtain ⟨rfl, N8, e8⟩ := hQ8
  have N11_ := Fr.app N6_ N8
  obtain ⟨cq12, kq12, q12a, q12b, q12c⟩ := isOf hZ e8 A3.1
  obtain ⟨_, _, ⟨T12, L12, k12, n12⟩, -, X12, ⟨Lc12, hQ12, l12, y12, z12⟩, st12⟩ := X8.interfaceBack hx (xi := (⟨"java/util/List", "add", "(Ljava/lang/Object;)Z"⟩ : MethodName)) (y := (⟨"java/util/ArrayList", "add", "(Ljava/lang/Object;)Z"⟩ : MethodName)) hown (mvT hZ (ow hw 33 rfl)) (mvT hZ (ow hw 34 rfl)) (mvT hZ (ow hw 35 rfl)) (mvT hZ (ow hw 36 rfl)) (mvT hZ (ow hw 37 rfl)) (mvT hZ (ow hw 38 rfl)) (mvT hZ (ow hw 39 rfl)) (mvT hZ (ow hw 40 rfl)) (by decide) (backOf (W := 0) (own_add_0 l Z a0 hw [] G aU b0 0 h3 n0 Z10_ ⟨A3.1, A3.2.1, A3.2.2.1, A3.2.2.2⟩ ge_aU (Ins.of_exa (G.2.2.1.1.ext f9_.2) (ow hw 67 rfl)) f9_) hZ (ow hw 41 rfl) (ow hw 2 rfl) (by decide) (by decide)) q12a q12b q12c (g := (own_B v0 v1 v2 v3 v4 nU nD n u1 d1 u2 d2 u3 d3 x1 x2 x3 m 109 (.val (.ref aU)) .unset .unset .unset .unset .unset .unset .unset .unset [(.ref b0), (.ref aU)])) rfl (by rw [hml]; rfl) (Steps.refl _) (argsL := [(.ref b0)]) (rest := []) (lenOf own_pd22 rfl) rfl (by show 2 * 0 + _ ≤ _; exact Nat.le_of_eq rfl) (hb hby at_109) (fun _ _ => ⟨rfl, e8, (by decide : 1 + 1 ≤ _), (by decide : 3 + 10 ≤ _)⟩)
  dsimp only [Pt.U, Pt.locs, Pt.cells, Pt.slots] at X12 l12 y12 z12 st12 hQ12
  subst l12 y12 z12
  obtain ⟨h12, e12⟩ : ∃ z, T12.heap = z := ⟨_, rfl⟩
  rw [e12] at hQ12
  obtain ⟨xxaU, rfl, N12, K12, g12, A12, B12⟩ := hQ12
  have N13_ := Fr.app N11_ N12
  have K14_ := K7_.trans K12 (allS (Or.inr gh_aU) all0)
  have gh_xxaU := Nat.le_trans K7_.1 g12
  have ge_xxaU := Nat.le_trans Z0 gh_xxaU
  have ne_axxaU := ne_exa A12.1 B12.exa (by decide)
  have f16_ := (f9_.keep K12 (allS ge_aU all0))
  have Z17_ := (Nat.le_trans Z0 K14_.1)
  obtain ⟨_, _, ⟨T15, L15, k15, n15⟩, -, X15, ⟨Lc15, hQ15, l15, y15, z15⟩, st15⟩ := Jvm.LawKit.callS X12 hx (y := (⟨"java/lang/Integer", "valueOf", "(I)Ljava/lang/Integer;"⟩ : MethodName)) hown (mvT hZ (ow hw 26 rfl)) (mvT hZ (ow hw 27 rfl)) (mvT hZ (ow hw 28 rfl)) (mvT hZ (ow hw 29 rfl)) (by decide) (backOf (W := 1) (own_vof1 l Z a0 hw [] G h12 n0 Z17_  f16_) hZ (ow hw 29 rfl) (ow hw 28 rfl) (by decide) (by decide)) (g := (own_B v0 v1 v2 v3 v4 nU nD n u1 d1 u2 d2 u3 d3 x1 x2 x3 m 124 (.val (.ref aU)) .unset .unset .unset .unset .unset .unset .unset .unset [(.int 1), (.ref aU)])) rfl (by rw [hml]; rfl) (argsL := [(.int 1)]) (rest := [(.ref aU)]) (lenOf own_pd21 rfl) rfl (by show 2 * 0 + _ ≤ _; exact Nat.le_of_eq rfl) (hb hby at_124) (fun _ _ => ⟨rfl, e12, (by decide : 2 + 0 ≤ _), (by decide : 13 + 0 ≤ _)⟩)
  dsimp only [Pt.U, Pt.locs, Pt.cells, Pt.slots] at X15 l15 y15 z15 st15 hQ15
  subst l15 y15 z15
  obtain ⟨rfl, N15, e15⟩ := hQ15
  have N18_ := Fr.app N13_ N15
  obtain ⟨cq19, kq19, q19a, q19b, q19c⟩ := isOf hZ e15 A12.1
  obtain ⟨_, _, ⟨T19, L19, k19, n19⟩, -, X19, ⟨Lc19, hQ19, l19, y19, z19⟩, st19⟩ := X15.interfaceBack hx (xi := (⟨"java/util/List", "add", "(Ljava/lang/Object;)Z"⟩ : MethodName)) (y := (⟨"java/util/ArrayList", "add", "(Ljava/lang/Object;)Z"⟩ : MethodName)) hown (mvT hZ (ow hw 33 rfl)) (mvT hZ (ow hw 34 rfl)) (mvT hZ (ow hw 35 rfl)) (mvT hZ (ow hw 36 rfl)) (mvT hZ (ow hw 37 rfl)) (mvT hZ (ow hw 38 rfl)) (mvT hZ (ow hw 39 rfl)) (mvT hZ (ow hw 40 rfl)) (by decide) (backOf (W := 0) (own_add_1 l Z a0 hw [] aU xxaU b1 (0 + 1) ((List.replicate 10 .null).set 0 (.ref b0)) (by simp) h12 n0 Z17_ ⟨A12.1, A12.2.1, A12.2.2.1, A12.2.2.2⟩ ge_aU ge_xxaU B12 (Ins.of_exa (G.2.2.1.2.ext f16_.2) (ow hw 67 rfl))) hZ (ow hw 41 rfl) (ow hw 2 rfl) (by decide) (by decide)) q19a q19b q19c (g := (own_B v0 v1 v2 v3 v4 nU nD n u1 d1 u2 d2 u3 d3 x1 x2 x3 m 127 (.val (.ref aU)) .unset .unset .unset .unset .unset .unset .unset .unset [(.ref b1), (.ref aU)])) rfl (by rw [hml]; rfl) (Steps.refl _) (argsL := [(.ref b1)]) (rest := []) (lenOf own_pd22 rfl) rfl (by show 2 * 0 + _ ≤ _; exact Nat.le_of_eq rfl) (hb hby at_127) (fun _ _ => ⟨rfl, e15, (by decide : 2 + 0 ≤ _), (by decide : 13 + 0 ≤ _)⟩)
  dsimp only [Pt.U, Pt.locs, Pt.cells, Pt.slots] at X19 l19 y19 z19 st19 hQ19
  subst l19 y19 z19
  obtain ⟨h19, e19⟩ : ∃ z, T19.heap = z := ⟨_, rfl⟩
  rw [e19] at hQ19
  obtain ⟨rfl, N19, K19, A19, B19⟩ := hQ19
  have N20_ := Fr.app N18_ N19
  have K21_ := K14_.trans K19 (allS (Or.inr gh_aU) (allS (Or.inr gh_xxaU) all0))
  have f22_ := (f16_.keep K19 (allS ge_aU (allS ge_xxaU all0)))
  have CL_ : own_CL Z D h19 aU [b0, b1] := ⟨_, _, List.replicate 8 .null, ⟨A19.1, A19.2.1, A19.2.2.1, A19.2.2.2⟩, B19, (Ins.of_exa (G.2.2.1.1.ext f22_.2) (ow hw 67 rfl)), (Ins.of_exa (G.2.2.1.2.ext f22_.2) (ow hw 67 rfl))⟩
  refine ⟨T19, h19, _, aU, X19, e19, N20_, K21_, CL_, fun target k' => ?_⟩
  show Steps _ _ _ (T.setTop (own_B v0 v1 v2 v3 v4 nU nD n u1 d1 u2 d2 u3 d3 x1 x2 x3 m 94 .unset .unset .unset .unset .unset .unset .unset .unset .unset [])) _
  refine st1 _ ?_
  refine XS.dup X1.here hx rfl (hb hby at_97) rfl rfl ?_
  show Steps _ _ _ (T1.setTop (own_B v0 v1 v2 v3 v4 nU nD n u1 d1 u2 d2 u3 d3 x1 x2 x3 m 98 .unset .unset .unset .unset .unset .unset .unset .unset .unset [(.ref aU), (.ref aU)])) _
  refine st3.trans ?_
  show Steps _ _ _ (T3.setTop (own_B v0 v1 v2 v3 v4 nU nD n u1 d1 u2 d2 u3 d3 x1 x2 x3 m 101 .unset .unset .unset .unset .unset .unset .unset .unset .unset [(.ref aU)])) _
  refine XS.astore X3.here hx rfl (hb hby at_101) rfl rfl rfl ?_
  refine XS.aload X3.here hx rfl (hb hby at_103) rfl rfl ?_
  refine XT.iconstV X3.here hx rfl 0 (hb hby at_105) rfl ?_
  show Steps _ _ _ (T3.setTop (own_B v0 v1 v2 v3 v4 nU nD n u1 d1 u2 d2 u3 d3 x1 x2 x3 m 106 (.val (.ref aU)) .unset .unset .unset .unset .unset .unset .unset .unset [(.int 0), (.ref aU)])) _
  refine st8 _ ?_
  show Steps _ _ _ (T8.setTop (own_B v0 v1 v2 v3 v4 nU nD n u1 d1 u2 d2 u3 d3 x1 x2 x3 m 109 (.val (.ref aU)) .unset .unset .unset .unset .unset .unset .unset .unset [(.ref b0), (.ref aU)])) _
  refine st12.trans ?_
  show Steps _ _ _ (T12.setTop (own_B v0 v1 v2 v3 v4 nU nD n u1 d1 u2 d2 u3 d3 x1 x2 x3 m 114 (.val (.ref aU)) .unset .unset .unset .unset .unset .unset .unset .unset [(.int 1)])) _
  refine XT.pop X12.here hx rfl (hb hby at_114) rfl rfl ?_
  refine XS.iload X12.here hx rfl (hb hby at_115) rfl ?_
  refine XT.iconstV X12.here hx rfl 1 (hb hby at_117) rfl ?_
  show Steps _ _ _ (T12.setTop (own_B v0 v1 v2 v3 v4 nU nD n u1 d1 u2 d2 u3 d3 x1 x2 x3 m 118 (.val (.ref aU)) .unset .unset .unset .unset .unset .unset .unset .unset [(.int 1), (.int nU)])) _
  refine XS.icmpNo X12.here hx rfl (hb hby at_118) rfl (XT.ii_le_f hU) ?_
  refine XS.aload X12.here hx rfl (hb hby at_121) rfl rfl ?_
  refine XT.iconstV X12.here hx rfl 1 (hb hby at_123) rfl ?_
  show Steps _ _ _ (T12.setTop (own_B v0 v1 v2 v3 v4 nU nD n u1 d1 u2 d2 u3 d3 x1 x2 x3 m 124 (.val (.ref aU)) .unset .unset .unset .unset .unset .unset .unset .unset [(.int 1), (.ref aU)])) _
  refine st15 _ ?_
  show Steps _ _ _ (T15.setTop (own_B v0 v1 v2 v3 v4 nU nD n u1 d1 u2 d2 u3 d3 x1 x2 x3 m 127 (.val (.ref aU)) .unset .unset .unset .unset .unset .unset .unset .unset [(.ref b1), (.ref aU)])) _
  refine st19.trans ?_
  show Steps _ _ _ (T19.setTop (own_B v0 v1 v2 v3 v4 nU nD n u1 d1 u2 d2 u3 d3 x1 x2 x3 m 132 (.val (.ref aU)) .unset .unset .unset .unset .unset .unset .unset .unset [(.int 1)])) _
  refine XT.pop X19.here hx rfl (hb hby at_132) rfl rfl ?_
  show Steps _ _ _ (T19.setTop (own_B v0 v1 v2 v3 v4 nU nD n u1 d1 u2 d2 u3 d3 x1 x2 x3 m 133 (.val (.ref aU)) .unset .unset .unset .unset .unset .unset .unset .unset [])) _
  exact k'
theorem own_d1 (X : Stand p l e room_1 s m args below meth c T locs 2 13) (hx : p.tables.exec = Jvm.exec) (hZ : Z.Warmed39 s.vm) (hw : ∀ d ∈ tables_1, d.before a0 Z = true) {D IC EL EE EM MO b0 b1 : Addr} {cD cI cE : Cell} (G : own_G Z D IC EL EE EM MO b0 b1 cD cI cE) (hby : c.code = code) (hml : c.maxLocals = 29) (hown : s.vm.findClass "com/example/overweave/overweave/InstanceTrafficPinLaw" = some m.cls) (eT : T.heap = h) (N0 : Fr n0 locs) (Z0 : n0 ≤ h.size) (O : Old Z n0 h) {v0 v1 v2 v3 v4 nU nD n u1 d1 u2 d2 u3 d3 : Int32} {x1 x2 x3 : UInt64} {aU : Addr} (hU : ¬ 1 < nD) :
    ∃ T' h' L' aD, Stand p l e room_1 s m args below meth c T' L' 4 26 ∧ T'.heap = h' ∧ Fr n0 L' ∧ Keep h h' [] ∧ own_CL Z D h' aD [b0] ∧ ∀ target, Steps p.tables e below (T'.setTop (own_B v0 v1 v2 v3 v4 nU nD n u1 d1 u2 d2 u3 d3 x1 x2 x3 m 172 (.val (.ref aU)) (.val (.ref aD)) .unset .unset .unset .unset .unset .unset .unset [])) target → Steps p.tables e below (T.setTop (own_B v0 v1 v2 v3 v4 nU nD n u1 d1 u2 d2 u3 d3 x1 x2 x3 m 133 (.val (.ref aU)) .unset .unset .unset .unset .unset .unset .unset .unset [])) target := by
  obtain ⟨T1, h1, X1, e1, E1, A1, D1, -, st1⟩ := newO X hx hZ hown (ow hw 0 rfl) (ow hw 1 rfl) (ow hw 2 rfl) eT (g := (own_B v0 v1 v2 v3 v4 nU nD n u1 d1 u2 d2 u3 d3 x1 x2 x3 m 133 (.val (.ref aU)) .unset .unset .unset .unset .unset .unset .unset .unset [])) rfl (hb hby at_133) (by decide) (by decide)
  obtain ⟨aD, go_aD⟩ : ∃ z, z = h.size := ⟨_, rfl⟩
  rw [← go_aD] at A1 D1 st1
  have gh_aD := (Nat.le_of_eq go_aD.symm : h.size ≤ aD)
  have ge_aD := Nat.le_trans Z0 gh_aD
  have K2_ := (Keep.refl h []).ext E1
  have A_aD := (⟨A1, (D1 (Or.inl (ow hw 22 rfl)) (ty := .int) (by decide)), (D1 (Or.inl (ow hw 25 rfl)) (ty := (.array (.object "java/lang/Object"))) (by decide)), (D1 (Or.inl (ow hw 45 rfl)) (ty := .int) (by decide))⟩ : own_Al Z h1 aD .null 0 0)
  have f4_ := (O.ext E1)
  have Z5_ := (Nat.le_trans Z0 K2_.1)
  obtain ⟨_, _, ⟨T3, L3, k3, n3⟩, -, X3, ⟨Lc3, hQ3, l3, y3, z3⟩, st3⟩ := X1.specialBack hx (y := (⟨"java/util/ArrayList", "<init>", "()V"⟩ : MethodName)) rfl hown (mvT hZ (ow hw 3 rfl)) (mvT hZ (ow hw 4 rfl)) (mvT hZ (ow hw 5 rfl)) (by decide) (backOf (W := 1) (own_alI l Z a0 hw [] G aD .null 0 0 h1 n0 Z5_ A_aD ge_aD f4_) hZ (ow hw 5 rfl) (ow hw 2 rfl) (by decide) (by decide)) (g := (own_B v0 v1 v2 v3 v4 nU nD n u1 d1 u2 d2 u3 d3 x1 x2 x3 m 137 (.val (.ref aU)) .unset .unset .unset .unset .unset .unset .unset .unset [(.ref aD), (.ref aD)])) rfl (by rw [hml]; rfl) (Steps.refl _) (a := aD) (argsL := []) (rest := [(.ref aD)]) (lenOf own_pd0 rfl) rfl (by show 2 * 0 + _ ≤ _; exact Nat.le_of_eq rfl) (hb hby at_137) (fun _ _ => ⟨rfl, e1, (by decide : 3 + 0 ≤ _), (by decide : 16 + 0 ≤ _)⟩)
  dsimp only [Pt.U, Pt.locs, Pt.cells, Pt.slots] at X3 l3 y3 z3 st3 hQ3
  subst l3 y3 z3
  obtain ⟨h3, e3⟩ : ∃ z, T3.heap = z := ⟨_, rfl⟩
  rw [e3] at hQ3
  obtain ⟨rfl, N3, K3, A3⟩ := hQ3
  have N6_ := Fr.app N0 N3
  have K7_ := K2_.trans K3 (allS (Or.inr gh_aD) all0)
  have f9_ := (f4_.keep K3 (allS ge_aD all0))
  have Z10_ := (Nat.le_trans Z0 K7_.1)
  obtain ⟨_, _, ⟨T8, L8, k8, n8⟩, -, X8, ⟨Lc8, hQ8, l8, y8, z8⟩, st8⟩ := Jvm.LawKit.callS X3 hx (y := (⟨"java/lang/Integer", "valueOf", "(I)Ljava/lang/Integer;"⟩ : MethodName)) hown (mvT hZ (ow hw 26 rfl)) (mvT hZ (ow hw 27 rfl)) (mvT hZ (ow hw 28 rfl)) (mvT hZ (ow hw 29 rfl)) (by decide) (backOf (W := 1) (own_vof0 l Z a0 hw [] G h3 n0 Z10_  f9_) hZ (ow hw 29 rfl) (ow hw 28 rfl) (by decide) (by decide)) (g := (own_B v0 v1 v2 v3 v4 nU nD n u1 d1 u2 d2 u3 d3 x1 x2 x3 m 145 (.val (.ref aU)) (.val (.ref aD)) .unset .unset .unset .unset .unset .unset .unset [(.int 0), (.ref aD)])) rfl (by rw [hml]; rfl) (argsL := [(.int 0)]) (rest := [(.ref aD)]) (lenOf own_pd21 rfl) rfl (by show 2 * 0 + _ ≤ _; exact Nat.le_of_eq rfl) (hb hby at_145) (fun _ _ => ⟨rfl, e3, (by decide : 3 + 0 ≤ _), (by decide : 16 + 0 ≤ _)⟩)
  dsimp only [Pt.U, Pt.locs, Pt.cells, Pt.slots] at X8 l8 y8 z8 st8 hQ8
  subst l8 y8 z8
  obtain ⟨rfl, N8, e8⟩ := hQ8
  have N11_ := Fr.app N6_ N8
  obtain ⟨cq12, kq12, q12a, q12b, q12c⟩ := isOf hZ e8 A3.1
  obtain ⟨_, _, ⟨T12, L12, k12, n12⟩, -, X12, ⟨Lc12, hQ12, l12, y12, z12⟩, st12⟩ := X8.interfaceBack hx (xi := (⟨"java/util/List", "add", "(Ljava/lang/Object;)Z"⟩ : MethodName)) (y := (⟨"java/util/ArrayList", "add", "(Ljava/lang/Object;)Z"⟩ : MethodName)) hown (mvT hZ (ow hw 33 rfl)) (mvT hZ (ow hw 34 rfl)) (mvT hZ (ow hw 35 rfl)) (mvT hZ (ow hw 36 rfl)) (mvT hZ (ow hw 37 rfl)) (mvT hZ (ow hw 38 rfl)) (mvT hZ (ow hw 39 rfl)) (mvT hZ (ow hw 40 rfl)) (by decide) (backOf (W := 0) (own_add_0 l Z a0 hw [] G aD b0 0 h3 n0 Z10_ ⟨A3.1, A3.2.1, A3.2.2.1, A3.2.2.2⟩ ge_aD (Ins.of_exa (G.2.2.1.1.ext f9_.2) (ow hw 67 rfl)) f9_) hZ (ow hw 41 rfl) (ow hw 2 rfl) (by decide) (by decide)) q12a q12b q12c (g := (own_B v0 v1 v2 v3 v4 nU nD n u1 d1 u2 d2 u3 d3 x1 x2 x3 m 148 (.val (.ref aU)) (.val (.ref aD)) .unset .unset .unset .unset .unset .unset .unset [(.ref b0), (.ref aD)])) rfl (by rw [hml]; rfl) (Steps.refl _) (argsL := [(.ref b0)]) (rest := []) (lenOf own_pd22 rfl) rfl (by show 2 * 0 + _ ≤ _; exact Nat.le_of_eq rfl) (hb hby at_148) (fun _ _ => ⟨rfl, e8, (by decide : 3 + 1 ≤ _), (by decide : 16 + 10 ≤ _)⟩)
  dsimp only [Pt.U, Pt.locs, Pt.cells, Pt.slots] at X12 l12 y12 z12 st12 hQ12
  subst l12 y12 z12
  obtain ⟨h12, e12⟩ : ∃ z, T12.heap = z := ⟨_, rfl⟩
  rw [e12] at hQ12
  obtain ⟨xxaD, rfl, N12, K12, g12, A12, B12⟩ := hQ12
  have N13_ := Fr.app N11_ N12
  have K14_ := K7_.trans K12 (allS (Or.inr gh_aD) all0)
  have gh_xxaD := Nat.le_trans K7_.1 g12
  have ge_xxaD := Nat.le_trans Z0 gh_xxaD
  have ne_axxaD := ne_exa A12.1 B12.exa (by decide)
  have f15_ := (f9_.keep K12 (allS ge_aD all0))
  have CL_ : own_CL Z D h12 aD [b0] := ⟨_, _, List.replicate 9 .null, ⟨A12.1, A12.2.1, A12.2.2.1, A12.2.2.2⟩, B12, (Ins.of_exa (G.2.2.1.1.ext f15_.2) (ow hw 67 rfl))⟩
  refine ⟨T12, h12, _, aD, X12, e12, N13_, K14_, CL_, fun target k' => ?_⟩
  show Steps _ _ _ (T.setTop (own_B v0 v1 v2 v3 v4 nU nD n u1 d1 u2 d2 u3 d3 x1 x2 x3 m 133 (.val (.ref aU)) .unset .unset .unset .unset .unset .unset .unset .unset [])) _
  refine st1 _ ?_
  refine XS.dup X1.here hx rfl (hb hby at_136) rfl rfl ?_
  show Steps _ _ _ (T1.setTop (own_B v0 v1 v2 v3 v4 nU nD n u1 d1 u2 d2 u3 d3 x1 x2 x3 m 137 (.val (.ref aU)) .unset .unset .unset .unset .unset .unset .unset .unset [(.ref aD), (.ref aD)])) _
  refine st3.trans ?_
  show Steps _ _ _ (T3.setTop (own_B v0 v1 v2 v3 v4 nU nD n u1 d1 u2 d2 u3 d3 x1 x2 x3 m 140 (.val (.ref aU)) .unset .unset .unset .unset .unset .unset .unset .unset [(.ref aD)])) _
  refine XS.astore X3.here hx rfl (hb hby at_140) rfl rfl rfl ?_
  refine XS.aload X3.here hx rfl (hb hby at_142) rfl rfl ?_
  refine XT.iconstV X3.here hx rfl 0 (hb hby at_144) rfl ?_
  show Steps _ _ _ (T3.setTop (own_B v0 v1 v2 v3 v4 nU nD n u1 d1 u2 d2 u3 d3 x1 x2 x3 m 145 (.val (.ref aU)) (.val (.ref aD)) .unset .unset .unset .unset .unset .unset .unset [(.int 0), (.ref aD)])) _
  refine st8 _ ?_
  show Steps _ _ _ (T8.setTop (own_B v0 v1 v2 v3 v4 nU nD n u1 d1 u2 d2 u3 d3 x1 x2 x3 m 148 (.val (.ref aU)) (.val (.ref aD)) .unset .unset .unset .unset .unset .unset .unset [(.ref b0), (.ref aD)])) _
  refine st12.trans ?_
  show Steps _ _ _ (T12.setTop (own_B v0 v1 v2 v3 v4 nU nD n u1 d1 u2 d2 u3 d3 x1 x2 x3 m 153 (.val (.ref aU)) (.val (.ref aD)) .unset .unset .unset .unset .unset .unset .unset [(.int 1)])) _
  refine XT.pop X12.here hx rfl (hb hby at_153) rfl rfl ?_
  refine XS.iload X12.here hx rfl (hb hby at_154) rfl ?_
  refine XT.iconstV X12.here hx rfl 1 (hb hby at_156) rfl ?_
  show Steps _ _ _ (T12.setTop (own_B v0 v1 v2 v3 v4 nU nD n u1 d1 u2 d2 u3 d3 x1 x2 x3 m 157 (.val (.ref aU)) (.val (.ref aD)) .unset .unset .unset .unset .unset .unset .unset [(.int 1), (.int nD)])) _
  refine XS.icmpYes X12.here hx rfl rfl (hb hby at_157) rfl (XT.ii_le_t hU) (show (0 : Int) ≤ ((157 : Nat) : Int) + (15) by decide) (show (((157 : Nat) : Int) + (15)).toNat = 172 by decide) ?_
  show Steps _ _ _ (T12.setTop (own_B v0 v1 v2 v3 v4 nU nD n u1 d1 u2 d2 u3 d3 x1 x2 x3 m 172 (.val (.ref aU)) (.val (.ref aD)) .unset .unset .unset .unset .unset .unset .unset [])) _
  exact k'
theorem own_d2 (X : Stand p l e room_1 s m args below meth c T locs 2 13) (hx : p.tables.exec = Jvm.exec) (hZ : Z.Warmed39 s.vm) (hw : ∀ d ∈ tables_1, d.before a0 Z = true) {D IC EL EE EM MO b0 b1 : Addr} {cD cI cE : Cell} (G : own_G Z D IC EL EE EM MO b0 b1 cD cI cE) (hby : c.code = code) (hml : c.maxLocals = 29) (hown : s.vm.findClass "com/example/overweave/overweave/InstanceTrafficPinLaw" = some m.cls) (eT : T.heap = h) (N0 : Fr n0 locs) (Z0 : n0 ≤ h.size) (O : Old Z n0 h) {v0 v1 v2 v3 v4 nU nD n u1 d1 u2 d2 u3 d3 : Int32} {x1 x2 x3 : UInt64} {aU : Addr} (hU : 1 < nD) :
    ∃ T' h' L' aD, Stand p l e room_1 s m args below meth c T' L' 4 26 ∧ T'.heap = h' ∧ Fr n0 L' ∧ Keep h h' [] ∧ own_CL Z D h' aD [b0, b1] ∧ ∀ target, Steps p.tables e below (T'.setTop (own_B v0 v1 v2 v3 v4 nU nD n u1 d1 u2 d2 u3 d3 x1 x2 x3 m 172 (.val (.ref aU)) (.val (.ref aD)) .unset .unset .unset .unset .unset .unset .unset [])) target → Steps p.tables e below (T.setTop (own_B v0 v1 v2 v3 v4 nU nD n u1 d1 u2 d2 u3 d3 x1 x2 x3 m 133 (.val (.ref aU)) .unset .unset .unset .unset .unset .unset .unset .unset [])) target := by
  obtain ⟨T1, h1, X1, e1, E1, A1, D1, -, st1⟩ := newO X hx hZ hown (ow hw 0 rfl) (ow hw 1 rfl) (ow hw 2 rfl) eT (g := (own_B v0 v1 v2 v3 v4 nU nD n u1 d1 u2 d2 u3 d3 x1 x2 x3 m 133 (.val (.ref aU)) .unset .unset .unset .unset .unset .unset .unset .unset [])) rfl (hb hby at_133) (by decide) (by decide)
  obtain ⟨aD, go_aD⟩ : ∃ z, z = h.size := ⟨_, rfl⟩
  rw [← go_aD] at A1 D1 st1
  have gh_aD := (Nat.le_of_eq go_aD.symm : h.size ≤ aD)
  have ge_aD := Nat.le_trans Z0 gh_aD
  have K2_ := (Keep.refl h []).ext E1
  have A_aD := (⟨A1, (D1 (Or.inl (ow hw 22 rfl)) (ty := .int) (by decide)), (D1 (Or.inl (ow hw 25 rfl)) (ty := (.array (.object "java/lang/Object"))) (by decide)), (D1 (Or.inl (ow hw 45 rfl)) (ty := .int) (by decide))⟩ : own_Al Z h1 aD .null 0 0)
  have f4_ := (O.ext E1)
  have Z5_ := (Nat.le_trans Z0 K2_.1)
  obtain ⟨_, _, ⟨T3, L3, k3, n3⟩, -, X3, ⟨Lc3, hQ3, l3, y3, z3⟩, st3⟩ := X1.specialBack hx (y := (⟨"java/util/ArrayList", "<init>", "()V"⟩ : MethodName)) rfl hown (mvT hZ (ow hw 3 rfl)) (mvT hZ (ow hw 4 rfl)) (mvT hZ (ow hw 5 rfl)) (by decide) (backOf (W := 1) (own_alI l Z a0 hw [] G aD .null 0 0 h1 n0 Z5_ A_aD ge_aD f4_) hZ (ow hw 5 rfl) (ow hw 2 rfl) (by decide) (by decide)) (g := (own_B v0 v1 v2 v3 v4 nU nD n u1 d1 u2 d2 u3 d3 x1 x2 x3 m 137 (.val (.ref aU)) .unset .unset .unset .unset .unset .unset .unset .unset [(.ref aD), (.ref aD)])) rfl (by rw [hml]; rfl) (Steps.refl _) (a := aD) (argsL := []) (rest := [(.ref aD)]) (lenOf own_pd0 rfl) rfl (by show 2 * 0 + _ ≤ _; exact Nat.le_of_eq rfl) (hb hby at_137) (fun _ _ => ⟨rfl, e1, (by decide : 3 + 0 ≤ _), (by decide : 16 + 0 ≤ _)⟩)
  dsimp only [Pt.U, Pt.locs, Pt.cells, Pt.slots] at X3 l3 y3 z3 st3 hQ3
  subst l3 y3 z3
  obtain ⟨h3, e3⟩ : ∃ z, T3.heap = z := ⟨_, rfl⟩
  rw [e3] at hQ3
  obtain ⟨rfl, N3, K3, A3⟩ := hQ3
  have N6_ := Fr.app N0 N3
  have K7_ := K2_.trans K3 (allS (Or.inr gh_aD) all0)
  have f9_ := (f4_.keep K3 (allS ge_aD all0))
  have Z10_ := (Nat.le_trans Z0 K7_.1)
  obtain ⟨_, _, ⟨T8, L8, k8, n8⟩, -, X8, ⟨Lc8, hQ8, l8, y8, z8⟩, st8⟩ := Jvm.LawKit.callS X3 hx (y := (⟨"java/lang/Integer", "valueOf", "(I)Ljava/lang/Integer;"⟩ : MethodName)) hown (mvT hZ (ow hw 26 rfl)) (mvT hZ (ow hw 27 rfl)) (mvT hZ (ow hw 28 rfl)) (mvT hZ (ow hw 29 rfl)) (by decide) (backOf (W := 1) (own_vof0 l Z a0 hw [] G h3 n0 Z10_  f9_) hZ (ow hw 29 rfl) (ow hw 28 rfl) (by decide) (by decide)) (g := (own_B v0 v1 v2 v3 v4 nU nD n u1 d1 u2 d2 u3 d3 x1 x2 x3 m 145 (.val (.ref aU)) (.val (.ref aD)) .unset .unset .unset .unset .unset .unset .unset [(.int 0), (.ref aD)])) rfl (by rw [hml]; rfl) (argsL := [(.int 0)]) (rest := [(.ref aD)]) (lenOf own_pd21 rfl) rfl (by show 2 * 0 + _ ≤ _; exact Nat.le_of_eq rfl) (hb hby at_145) (fun _ _ => ⟨rfl, e3, (by decide : 3 + 0 ≤ _), (by decide : 16 + 0 ≤ _)⟩)
  dsimp only [Pt.U, Pt.locs, Pt.cells, Pt.slots] at X8 l8 y8 z8 st8 hQ8
  subst l8 y8 z8
  obtain ⟨rfl, N8, e8⟩ := hQ8
  have N11_ := Fr.app N6_ N8
  obtain ⟨cq12, kq12, q12a, q12b, q12c⟩ := isOf hZ e8 A3.1
  obtain ⟨_, _, ⟨T12, L12, k12, n12⟩, -, X12, ⟨Lc12, hQ12, l12, y12, z12⟩, st12⟩ := X8.interfaceBack hx (xi := (⟨"java/util/List", "add", "(Ljava/lang/Object;)Z"⟩ : MethodName)) (y := (⟨"java/util/ArrayList", "add", "(Ljava/lang/Object;)Z"⟩ : MethodName)) hown (mvT hZ (ow hw 33 rfl)) (mvT hZ (ow hw 34 rfl)) (mvT hZ (ow hw 35 rfl)) (mvT hZ (ow hw 36 rfl)) (mvT hZ (ow hw 37 rfl)) (mvT hZ (ow hw 38 rfl)) (mvT hZ (ow hw 39 rfl)) (mvT hZ (ow hw 40 rfl)) (by decide) (backOf (W := 0) (own_add_0 l Z a0 hw [] G aD b0 0 h3 n0 Z10_ ⟨A3.1, A3.2.1, A3.2.2.1, A3.2.2.2⟩ ge_aD (Ins.of_exa (G.2.2.1.1.ext f9_.2) (ow hw 67 rfl)) f9_) hZ (ow hw 41 rfl) (ow hw 2 rfl) (by decide) (by decide)) q12a q12b q12c (g := (own_B v0 v1 v2 v3 v4 nU nD n u1 d1 u2 d2 u3 d3 x1 x2 x3 m 148 (.val (.ref aU)) (.val (.ref aD)) .unset .unset .unset .unset .unset .unset .unset [(.ref b0), (.ref aD)])) rfl (by rw [hml]; rfl) (Steps.refl _) (argsL := [(.ref b0)]) (rest := []) (lenOf own_pd22 rfl) rfl (by show 2 * 0 + _ ≤ _; exact Nat.le_of_eq rfl) (hb hby at_148) (fun _ _ => ⟨rfl, e8, (by decide : 3 + 1 ≤ _), (by decide : 16 + 10 ≤ _)⟩)
  dsimp only [Pt.U, Pt.locs, Pt.cells, Pt.slots] at X12 l12 y12 z12 st12 hQ12
  subst l12 y12 z12
  obtain ⟨h12, e12⟩ : ∃ z, T12.heap = z := ⟨_, rfl⟩
  rw [e12] at hQ12
  obtain ⟨xxaD, rfl, N12, K12, g12, A12, B12⟩ := hQ12
  have N13_ := Fr.app N11_ N12
  have K14_ := K7_.trans K12 (allS (Or.inr gh_aD) all0)
  have gh_xxaD := Nat.le_trans K7_.1 g12
  have ge_xxaD := Nat.le_trans Z0 gh_xxaD
  have ne_axxaD := ne_exa A12.1 B12.exa (by decide)
  have f16_ := (f9_.keep K12 (allS ge_aD all0))
  have Z17_ := (Nat.le_trans Z0 K14_.1)
  obtain ⟨_, _, ⟨T15, L15, k15, n15⟩, -, X15, ⟨Lc15, hQ15, l15, y15, z15⟩, st15⟩ := Jvm.LawKit.callS X12 hx (y := (⟨"java/lang/Integer", "valueOf", "(I)Ljava/lang/Integer;"⟩ : MethodName)) hown (mvT hZ (ow hw 26 rfl)) (mvT hZ (ow hw 27 rfl)) (mvT hZ (ow hw 28 rfl)) (mvT hZ (ow hw 29 rfl)) (by decide) (backOf (W := 1) (own_vof1 l Z a0 hw [] G h12 n0 Z17_  f16_) hZ (ow hw 29 rfl) (ow hw 28 rfl) (by decide) (by decide)) (g := (own_B v0 v1 v2 v3 v4 nU nD n u1 d1 u2 d2 u3 d3 x1 x2 x3 m 163 (.val (.ref aU)) (.val (.ref aD)) .unset .unset .unset .unset .unset .unset .unset [(.int 1), (.ref aD)])) rfl (by rw [hml]; rfl) (argsL := [(.int 1)]) (rest := [(.ref aD)]) (lenOf own_pd21 rfl) rfl (by show 2 * 0 + _ ≤ _; exact Nat.le_of_eq rfl) (hb hby at_163) (fun _ _ => ⟨rfl, e12, (by decide : 4 + 0 ≤ _), (by decide : 26 + 0 ≤ _)⟩)
  dsimp only [Pt.U, Pt.locs, Pt.cells, Pt.slots] at X15 l15 y15 z15 st15 hQ15
  subst l15 y15 z15
  obtain ⟨rfl, N15, e15⟩ := hQ15
  have N18_ := Fr.app N13_ N15
  obtain ⟨cq19, kq19, q19a, q19b, q19c⟩ := isOf hZ e15 A12.1
  obtain ⟨_, _, ⟨T19, L19, k19, n19⟩, -, X19, ⟨Lc19, hQ19, l19, y19, z19⟩, st19⟩ := X15.interfaceBack hx (xi := (⟨"java/util/List", "add", "(Ljava/lang/Object;)Z"⟩ : MethodName)) (y := (⟨"java/util/ArrayList", "add", "(Ljava/lang/Object;)Z"⟩ : MethodName)) hown (mvT hZ (ow hw 33 rfl)) (mvT hZ (ow hw 34 rfl)) (mvT hZ (ow hw 35 rfl)) (mvT hZ (ow hw 36 rfl)) (mvT hZ (ow hw 37 rfl)) (mvT hZ (ow hw 38 rfl)) (mvT hZ (ow hw 39 rfl)) (mvT hZ (ow hw 40 rfl)) (by decide) (backOf (W := 0) (own_add_1 l Z a0 hw [] aD xxaD b1 (0 + 1) ((List.replicate 10 .null).set 0 (.ref b0)) (by simp) h12 n0 Z17_ ⟨A12.1, A12.2.1, A12.2.2.1, A12.2.2.2⟩ ge_aD ge_xxaD B12 (Ins.of_exa (G.2.2.1.2.ext f16_.2) (ow hw 67 rfl))) hZ (ow hw 41 rfl) (ow hw 2 rfl) (by decide) (by decide)) q19a q19b q19c (g := (own_B v0 v1 v2 v3 v4 nU nD n u1 d1 u2 d2 u3 d3 x1 x2 x3 m 166 (.val (.ref aU)) (.val (.ref aD)) .unset .unset .unset .unset .unset .unset .unset [(.ref b1), (.ref aD)])) rfl (by rw [hml]; rfl) (Steps.refl _) (argsL := [(.ref b1)]) (rest := []) (lenOf own_pd22 rfl) rfl (by show 2 * 0 + _ ≤ _; exact Nat.le_of_eq rfl) (hb hby at_166) (fun _ _ => ⟨rfl, e15, (by decide : 4 + 0 ≤ _), (by decide : 26 + 0 ≤ _)⟩)
  dsimp only [Pt.U, Pt.locs, Pt.cells, Pt.slots] at X19 l19 y19 z19 st19 hQ19
  subst l19 y19 z19
  obtain ⟨h19, e19⟩ : ∃ z, T19.heap = z := ⟨_, rfl⟩
  rw [e19] at hQ19
  obtain ⟨rfl, N19, K19, A19, B19⟩ := hQ19
  have N20_ := Fr.app N18_ N19
  have K21_ := K14_.trans K19 (allS (Or.inr gh_aD) (allS (Or.inr gh_xxaD) all0))
  have f22_ := (f16_.keep K19 (allS ge_aD (allS ge_xxaD all0)))
  have CL_ : own_CL Z D h19 aD [b0, b1] := ⟨_, _, List.replicate 8 .null, ⟨A19.1, A19.2.1, A19.2.2.1, A19.2.2.2⟩, B19, (Ins.of_exa (G.2.2.1.1.ext f22_.2) (ow hw 67 rfl)), (Ins.of_exa (G.2.2.1.2.ext f22_.2) (ow hw 67 rfl))⟩
  refine ⟨T19, h19, _, aD, X19, e19, N20_, K21_, CL_, fun target k' => ?_⟩
  show Steps _ _ _ (T.setTop (own_B v0 v1 v2 v3 v4 nU nD n u1 d1 u2 d2 u3 d3 x1 x2 x3 m 133 (.val (.ref aU)) .unset .unset .unset .unset .unset .unset .unset .unset [])) _
  refine st1 _ ?_
  refine XS.dup X1.here hx rfl (hb hby at_136) rfl rfl ?_
  show Steps _ _ _ (T1.setTop (own_B v0 v1 v2 v3 v4 nU nD n u1 d1 u2 d2 u3 d3 x1 x2 x3 m 137 (.val (.ref aU)) .unset .unset .unset .unset .unset .unset .unset .unset [(.ref aD), (.ref aD)])) _
  refine st3.trans ?_
  show Steps _ _ _ (T3.setTop (own_B v0 v1 v2 v3 v4 nU nD n u1 d1 u2 d2 u3 d3 x1 x2 x3 m 140 (.val (.ref aU)) .unset .unset .unset .unset .unset .unset .unset .unset [(.ref aD)])) _
  refine XS.astore X3.here hx rfl (hb hby at_140) rfl rfl rfl ?_
  refine XS.aload X3.here hx rfl (hb hby at_142) rfl rfl ?_
  refine XT.iconstV X3.here hx rfl 0 (hb hby at_144) rfl ?_
  show Steps _ _ _ (T3.setTop (own_B v0 v1 v2 v3 v4 nU nD n u1 d1 u2 d2 u3 d3 x1 x2 x3 m 145 (.val (.ref aU)) (.val (.ref aD)) .unset .unset .unset .unset .unset .unset .unset [(.int 0), (.ref aD)])) _
  refine st8 _ ?_
  show Steps _ _ _ (T8.setTop (own_B v0 v1 v2 v3 v4 nU nD n u1 d1 u2 d2 u3 d3 x1 x2 x3 m 148 (.val (.ref aU)) (.val (.ref aD)) .unset .unset .unset .unset .unset .unset .unset [(.ref b0), (.ref aD)])) _
  refine st12.trans ?_
  show Steps _ _ _ (T12.setTop (own_B v0 v1 v2 v3 v4 nU nD n u1 d1 u2 d2 u3 d3 x1 x2 x3 m 153 (.val (.ref aU)) (.val (.ref aD)) .unset .unset .unset .unset .unset .unset .unset [(.int 1)])) _
  refine XT.pop X12.here hx rfl (hb hby at_153) rfl rfl ?_
  refine XS.iload X12.here hx rfl (hb hby at_154) rfl ?_
  refine XT.iconstV X12.here hx rfl 1 (hb hby at_156) rfl ?_
  show Steps _ _ _ (T12.setTop (own_B v0 v1 v2 v3 v4 nU nD n u1 d1 u2 d2 u3 d3 x1 x2 x3 m 157 (.val (.ref aU)) (.val (.ref aD)) .unset .unset .unset .unset .unset .unset .unset [(.int 1), (.int nD)])) _
  refine XS.icmpNo X12.here hx rfl (hb hby at_157) rfl (XT.ii_le_f hU) ?_
  refine XS.aload X12.here hx rfl (hb hby at_160) rfl rfl ?_
  refine XT.iconstV X12.here hx rfl 1 (hb hby at_162) rfl ?_
  show Steps _ _ _ (T12.setTop (own_B v0 v1 v2 v3 v4 nU nD n u1 d1 u2 d2 u3 d3 x1 x2 x3 m 163 (.val (.ref aU)) (.val (.ref aD)) .unset .unset .unset .unset .unset .unset .unset [(.int 1), (.ref aD)])) _
  refine st15 _ ?_
  show Steps _ _ _ (T15.setTop (own_B v0 v1 v2 v3 v4 nU nD n u1 d1 u2 d2 u3 d3 x1 x2 x3 m 166 (.val (.ref aU)) (.val (.ref aD)) .unset .unset .unset .unset .unset .unset .unset [(.ref b1), (.ref aD)])) _
  refine st19.trans ?_
  show Steps _ _ _ (T19.setTop (own_B v0 v1 v2 v3 v4 nU nD n u1 d1 u2 d2 u3 d3 x1 x2 x3 m 171 (.val (.ref aU)) (.val (.ref aD)) .unset .unset .unset .unset .unset .unset .unset [(.int 1)])) _
  refine XT.pop X19.here hx rfl (hb hby at_171) rfl rfl ?_
  show Steps _ _ _ (T19.setTop (own_B v0 v1 v2 v3 v4 nU nD n u1 d1 u2 d2 u3 d3 x1 x2 x3 m 172 (.val (.ref aU)) (.val (.ref aD)) .unset .unset .unset .unset .unset .unset .unset [])) _
  exact k'
theorem own_q0 (X : Stand p l e room_1 s m args below meth c T locs 4 26) (hx : p.tables.exec = Jvm.exec) (hZ : Z.Warmed39 s.vm) (hw : ∀ d ∈ tables_1, d.before a0 Z = true) {D IC EL EE EM MO b0 b1 : Addr} {cD cI cE : Cell} (G : own_G Z D IC EL EE EM MO b0 b1 cD cI cE) (hby : c.code = code) (hml : c.maxLocals = 29) (hown : s.vm.findClass "com/example/overweave/overweave/InstanceTrafficPinLaw" = some m.cls) (eT : T.heap = h) (N0 : Fr n0 locs) (Z0 : n0 ≤ h.size) (O : Old Z n0 h) {v0 v1 v2 v3 v4 nU nD n u1 d1 u2 d2 u3 d3 : Int32} {x1 x2 x3 : UInt64} {aU aD : Addr} (r1 : u1 = 0 ∨ (u1 = 1 ∧ nU = 2)) (t1 : d1 = 0 ∨ (d1 = 1 ∧ nD = 2)) (M1 : Mag64 1056 x1) (r2 : u2 = 0 ∨ (u2 = 1 ∧ nU = 2)) (t2 : d2 = 0 ∨ (d2 = 1 ∧ nD = 2)) (M2 : Mag64 1056 x2) (r3 : u3 = 0 ∨ (u3 = 1 ∧ nU = 2)) (t3 : d3 = 0 ∨ (d3 = 1 ∧ nD = 2)) (M3 : Mag64 1056 x3) (H1 : ¬ 0 < n) (H2 : ¬ 1 < n) (H3 : ¬ 2 < n) :
    ∃ T' h' L' aQ ps, Stand p l e room_1 s m args below meth c T' L' 9 48 ∧ T'.heap = h' ∧ Fr n0 L' ∧ Keep h h' [] ∧ own_CL Z D h' aQ (ps.map (·.1)) ∧ ps.length ≤ 3 ∧ own_Ds Z h' nU nD ps ∧ (∀ a b, own_val a b ps = own_ex a b n u1 d1 x1 u2 d2 x2 u3 d3 x3) ∧ ∀ target, Steps p.tables e below (T'.setTop (own_B v0 v1 v2 v3 v4 nU nD n u1 d1 u2 d2 u3 d3 x1 x2 x3 m 261 (.val (.ref aU)) (.val (.ref aD)) (.val (.ref aQ)) .unset .unset .unset .unset .unset .unset [])) target → Steps p.tables e below (T.setTop (own_B v0 v1 v2 v3 v4 nU nD n u1 d1 u2 d2 u3 d3 x1 x2 x3 m 172 (.val (.ref aU)) (.val (.ref aD)) .unset .unset .unset .unset .unset .unset .unset [])) target := by
  obtain ⟨T1, h1, X1, e1, E1, A1, D1, -, st1⟩ := newO X hx hZ hown (ow hw 0 rfl) (ow hw 1 rfl) (ow hw 2 rfl) eT (g := (own_B v0 v1 v2 v3 v4 nU nD n u1 d1 u2 d2 u3 d3 x1 x2 x3 m 172 (.val (.ref aU)) (.val (.ref aD)) .unset .unset .unset .unset .unset .unset .unset [])) rfl (hb hby at_172) (by decide) (by decide)
  obtain ⟨aQ, go_aQ⟩ : ∃ z, z = h.size := ⟨_, rfl⟩
  rw [← go_aQ] at A1 D1 st1
  have gh_aQ := (Nat.le_of_eq go_aQ.symm : h.size ≤ aQ)
  have ge_aQ := Nat.le_trans Z0 gh_aQ
  have K2_ := (Keep.refl h []).ext E1
  have A_aQ := (⟨A1, (D1 (Or.inl (ow hw 22 rfl)) (ty := .int) (by decide)), (D1 (Or.inl (ow hw 25 rfl)) (ty := (.array (.object "java/lang/Object"))) (by decide)), (D1 (Or.inl (ow hw 45 rfl)) (ty := .int) (by decide))⟩ : own_Al Z h1 aQ .null 0 0)
  have f4_ := (O.ext E1)
  have Z5_ := (Nat.le_trans Z0 K2_.1)
  obtain ⟨_, _, ⟨T3, L3, k3, n3⟩, -, X3, ⟨Lc3, hQ3, l3, y3, z3⟩, st3⟩ := X1.specialBack hx (y := (⟨"java/util/ArrayList", "<init>", "()V"⟩ : MethodName)) rfl hown (mvT hZ (ow hw 3 rfl)) (mvT hZ (ow hw 4 rfl)) (mvT hZ (ow hw 5 rfl)) (by decide) (backOf (W := 1) (own_alI l Z a0 hw [] G aQ .null 0 0 h1 n0 Z5_ A_aQ ge_aQ f4_) hZ (ow hw 5 rfl) (ow hw 2 rfl) (by decide) (by decide)) (g := (own_B v0 v1 v2 v3 v4 nU nD n u1 d1 u2 d2 u3 d3 x1 x2 x3 m 176 (.val (.ref aU)) (.val (.ref aD)) .unset .unset .unset .unset .unset .unset .unset [(.ref aQ), (.ref aQ)])) rfl (by rw [hml]; rfl) (Steps.refl _) (a := aQ) (argsL := []) (rest := [(.ref aQ)]) (lenOf own_pd0 rfl) rfl (by show 2 * 0 + _ ≤ _; exact Nat.le_of_eq rfl) (hb hby at_176) (fun _ _ => ⟨rfl, e1, (by decide : 5 + 0 ≤ _), (by decide : 29 + 0 ≤ _)⟩)
  dsimp only [Pt.U, Pt.locs, Pt.cells, Pt.slots] at X3 l3 y3 z3 st3 hQ3
  subst l3 y3 z3
  obtain ⟨h3, e3⟩ : ∃ z, T3.heap = z := ⟨_, rfl⟩
  rw [e3] at hQ3
  obtain ⟨rfl, N3, K3, A3⟩ := hQ3
  have N6_ := Fr.app N0 N3
  have K7_ := K2_.trans K3 (allS (Or.inr gh_aQ) all0)
  have CL_ : own_CL Z D h3 aQ [] := ⟨_, ⟨A3.1, A3.2.1, A3.2.2.1, A3.2.2.2⟩⟩
  have DS_ : own_Ds Z h3 nU nD [] := fun q hq => nomatch hq
  have VL_ : ∀ a b, own_val a b [] = own_ex a b n u1 d1 x1 u2 d2 x2 u3 d3 x3 := fun a b => by
    unfold own_ex own_e1
    rw [if_neg H3, if_neg H2, if_neg H1]
    rfl
  refine ⟨T3, h3, _, aQ, [], (X3.more (by decide) (by decide)), e3, N6_, K7_, CL_, (by decide), DS_, VL_, fun target k' => ?_⟩
  show Steps _ _ _ (T.setTop (own_B v0 v1 v2 v3 v4 nU nD n u1 d1 u2 d2 u3 d3 x1 x2 x3 m 172 (.val (.ref aU)) (.val (.ref aD)) .unset .unset .unset .unset .unset .unset .unset [])) _
  refine st1 _ ?_
  refine XS.dup X1.here hx rfl (hb hby at_175) rfl rfl ?_
  show Steps _ _ _ (T1.setTop (own_B v0 v1 v2 v3 v4 nU nD n u1 d1 u2 d2 u3 d3 x1 x2 x3 m 176 (.val (.ref aU)) (.val (.ref aD)) .unset .unset .unset .unset .unset .unset .unset [(.ref aQ), (.ref aQ)])) _
  refine st3.trans ?_
  show Steps _ _ _ (T3.setTop (own_B v0 v1 v2 v3 v4 nU nD n u1 d1 u2 d2 u3 d3 x1 x2 x3 m 179 (.val (.ref aU)) (.val (.ref aD)) .unset .unset .unset .unset .unset .unset .unset [(.ref aQ)])) _
  refine XS.astore X3.here hx rfl (hb hby at_179) rfl rfl rfl ?_
  refine XS.iload X3.here hx rfl (hb hby at_181) rfl ?_
  show Steps _ _ _ (T3.setTop (own_B v0 v1 v2 v3 v4 nU nD n u1 d1 u2 d2 u3 d3 x1 x2 x3 m 183 (.val (.ref aU)) (.val (.ref aD)) (.val (.ref aQ)) .unset .unset .unset .unset .unset .unset [(.int n)])) _
  refine XS.ifYes X3.here hx rfl rfl (hb hby at_183) rfl (XT.i0_le_t H1) (show (0 : Int) ≤ ((183 : Nat) : Int) + (24) by decide) (show (((183 : Nat) : Int) + (24)).toNat = 207 by decide) ?_
  refine XS.iload X3.here hx rfl (hb hby at_207) rfl ?_
  refine XT.iconstV X3.here hx rfl 1 (hb hby at_209) rfl ?_
  show Steps _ _ _ (T3.setTop (own_B v0 v1 v2 v3 v4 nU nD n u1 d1 u2 d2 u3 d3 x1 x2 x3 m 210 (.val (.ref aU)) (.val (.ref aD)) (.val (.ref aQ)) .unset .unset .unset .unset .unset .unset [(.int 1), (.int n)])) _
  refine XS.icmpYes X3.here hx rfl rfl (hb hby at_210) rfl (XT.ii_le_t H2) (show (0 : Int) ≤ ((210 : Nat) : Int) + (24) by decide) (show (((210 : Nat) : Int) + (24)).toNat = 234 by decide) ?_
  refine XS.iload X3.here hx rfl (hb hby at_234) rfl ?_
  refine XT.iconstV X3.here hx rfl 2 (hb hby at_236) rfl ?_
  show Steps _ _ _ (T3.setTop (own_B v0 v1 v2 v3 v4 nU nD n u1 d1 u2 d2 u3 d3 x1 x2 x3 m 237 (.val (.ref aU)) (.val (.ref aD)) (.val (.ref aQ)) .unset .unset .unset .unset .unset .unset [(.int 2), (.int n)])) _
  refine XS.icmpYes X3.here hx rfl rfl (hb hby at_237) rfl (XT.ii_le_t H3) (show (0 : Int) ≤ ((237 : Nat) : Int) + (24) by decide) (show (((237 : Nat) : Int) + (24)).toNat = 261 by decide) ?_
  show Steps _ _ _ (T3.setTop (own_B v0 v1 v2 v3 v4 nU nD n u1 d1 u2 d2 u3 d3 x1 x2 x3 m 261 (.val (.ref aU)) (.val (.ref aD)) (.val (.ref aQ)) .unset .unset .unset .unset .unset .unset [])) _
  exact k'
theorem own_pd23 : parseMethodDescriptor "(IID)V" = some ⟨[.int, .int, .double], none⟩ := by decide +kernel
theorem own_q1 (X : Stand p l e room_1 s m args below meth c T locs 4 26) (hx : p.tables.exec = Jvm.exec) (hZ : Z.Warmed39 s.vm) (hw : ∀ d ∈ tables_1, d.before a0 Z = true) {D IC EL EE EM MO b0 b1 : Addr} {cD cI cE : Cell} (G : own_G Z D IC EL EE EM MO b0 b1 cD cI cE) (hby : c.code = code) (hml : c.maxLocals = 29) (hown : s.vm.findClass "com/example/overweave/overweave/InstanceTrafficPinLaw" = some m.cls) (eT : T.heap = h) (N0 : Fr n0 locs) (Z0 : n0 ≤ h.size) (O : Old Z n0 h) {v0 v1 v2 v3 v4 nU nD n u1 d1 u2 d2 u3 d3 : Int32} {x1 x2 x3 : UInt64} {aU aD : Addr} (r1 : u1 = 0 ∨ (u1 = 1 ∧ nU = 2)) (t1 : d1 = 0 ∨ (d1 = 1 ∧ nD = 2)) (M1 : Mag64 1056 x1) (r2 : u2 = 0 ∨ (u2 = 1 ∧ nU = 2)) (t2 : d2 = 0 ∨ (d2 = 1 ∧ nD = 2)) (M2 : Mag64 1056 x2) (r3 : u3 = 0 ∨ (u3 = 1 ∧ nU = 2)) (t3 : d3 = 0 ∨ (d3 = 1 ∧ nD = 2)) (M3 : Mag64 1056 x3) (H1 : 0 < n) (H2 : ¬ 1 < n) (H3 : ¬ 2 < n) :
    ∃ T' h' L' aQ ps, Stand p l e room_1 s m args below meth c T' L' 9 48 ∧ T'.heap = h' ∧ Fr n0 L' ∧ Keep h h' [] ∧ own_CL Z D h' aQ (ps.map (·.1)) ∧ ps.length ≤ 3 ∧ own_Ds Z h' nU nD ps ∧ (∀ a b, own_val a b ps = own_ex a b n u1 d1 x1 u2 d2 x2 u3 d3 x3) ∧ ∀ target, Steps p.tables e below (T'.setTop (own_B v0 v1 v2 v3 v4 nU nD n u1 d1 u2 d2 u3 d3 x1 x2 x3 m 261 (.val (.ref aU)) (.val (.ref aD)) (.val (.ref aQ)) .unset .unset .unset .unset .unset .unset [])) target → Steps p.tables e below (T.setTop (own_B v0 v1 v2 v3 v4 nU nD n u1 d1 u2 d2 u3 d3 x1 x2 x3 m 172 (.val (.ref aU)) (.val (.ref aD)) .unset .unset .unset .unset .unset .unset .unset [])) target := by
  obtain ⟨T1, h1, X1, e1, E1, A1, D1, -, st1⟩ := newO X hx hZ hown (ow hw 0 rfl) (ow hw 1 rfl) (ow hw 2 rfl) eT (g := (own_B v0 v1 v2 v3 v4 nU nD n u1 d1 u2 d2 u3 d3 x1 x2 x3 m 172 (.val (.ref aU)) (.val (.ref aD)) .unset .unset .unset .unset .unset .unset .unset [])) rfl (hb hby at_172) (by decide) (by decide)
  obtain ⟨aQ, go_aQ⟩ : ∃ z, z = h.size := ⟨_, rfl⟩
  rw [← go_aQ] at A1 D1 st1
  have gh_aQ := (Nat.le_of_eq go_aQ.symm : h.size ≤ aQ)
  have ge_aQ := Nat.le_trans Z0 gh_aQ
  have K2_ := (Keep.refl h []).ext E1
  have A_aQ := (⟨A1, (D1 (Or.inl (ow hw 22 rfl)) (ty := .int) (by decide)), (D1 (Or.inl (ow hw 25 rfl)) (ty := (.array (.object "java/lang/Object"))) (by decide)), (D1 (Or.inl (ow hw 45 rfl)) (ty := .int) (by decide))⟩ : own_Al Z h1 aQ .null 0 0)
  have f4_ := (O.ext E1)
  have Z5_ := (Nat.le_trans Z0 K2_.1)
  obtain ⟨_, _, ⟨T3, L3, k3, n3⟩, -, X3, ⟨Lc3, hQ3, l3, y3, z3⟩, st3⟩ := X1.specialBack hx (y := (⟨"java/util/ArrayList", "<init>", "()V"⟩ : MethodName)) rfl hown (mvT hZ (ow hw 3 rfl)) (mvT hZ (ow hw 4 rfl)) (mvT hZ (ow hw 5 rfl)) (by decide) (backOf (W := 1) (own_alI l Z a0 hw [] G aQ .null 0 0 h1 n0 Z5_ A_aQ ge_aQ f4_) hZ (ow hw 5 rfl) (ow hw 2 rfl) (by decide) (by decide)) (g := (own_B v0 v1 v2 v3 v4 nU nD n u1 d1 u2 d2 u3 d3 x1 x2 x3 m 176 (.val (.ref aU)) (.val (.ref aD)) .unset .unset .unset .unset .unset .unset .unset [(.ref aQ), (.ref aQ)])) rfl (by rw [hml]; rfl) (Steps.refl _) (a := aQ) (argsL := []) (rest := [(.ref aQ)]) (lenOf own_pd0 rfl) rfl (by show 2 * 0 + _ ≤ _; exact Nat.le_of_eq rfl) (hb hby at_176) (fun _ _ => ⟨rfl, e1, (by decide : 5 + 0 ≤ _), (by decide : 29 + 0 ≤ _)⟩)
  dsimp only [Pt.U, Pt.locs, Pt.cells, Pt.slots] at X3 l3 y3 z3 st3 hQ3
  subst l3 y3 z3
  obtain ⟨h3, e3⟩ : ∃ z, T3.heap = z := ⟨_, rfl⟩
  rw [e3] at hQ3
  obtain ⟨rfl, N3, K3, A3⟩ := hQ3
  have N6_ := Fr.app N0 N3
  have K7_ := K2_.trans K3 (allS (Or.inr gh_aQ) all0)
  have lt8_ := A3.1.lt
  obtain ⟨T9, h9, X9, e9, E9, A9, D9, -, st9⟩ := newO X3 hx hZ hown (ow hw 252 rfl) (ow hw 253 rfl) (ow hw 254 rfl) e3 (g := (own_B v0 v1 v2 v3 v4 nU nD n u1 d1 u2 d2 u3 d3 x1 x2 x3 m 188 (.val (.ref aU)) (.val (.ref aD)) (.val (.ref aQ)) .unset .unset .unset .unset .unset .unset [(.ref aQ)])) rfl (hb hby at_188) (by decide) (by decide)
  obtain ⟨y1, go_y1⟩ : ∃ z, z = h3.size := ⟨_, rfl⟩
  rw [← go_y1] at A9 D9 st9
  have gh_y1 := Nat.le_trans K7_.1 (Nat.le_of_eq go_y1.symm)
  have ge_y1 := Nat.le_trans Z0 gh_y1
  have K10_ := K7_.ext E9
  have ne11_ := (Nat.ne_of_lt (Nat.lt_of_lt_of_le lt8_ (Nat.le_of_eq go_y1.symm)) : aQ ≠ y1)
  have D_y1 := (⟨A9, (D9 (Or.inr (ow hw 260 rfl)) (ty := .int) (by decide)), (D9 (Or.inr (ow hw 262 rfl)) (ty := .int) (by decide)), (D9 (Or.inr (ow hw 264 rfl)) (ty := .double) (by decide))⟩ : own_Dm Z h9 y1 0 0 0)
  have Z13_ := (Nat.le_trans Z0 K10_.1)
  obtain ⟨_, _, ⟨T12, L12, k12, n12⟩, -, X12, ⟨Lc12, hQ12, l12, y12, z12⟩, st12⟩ := X9.specialBack hx (y := (⟨"com/example/overweave/overweave/Instance$Demand", "<init>", "(IID)V"⟩ : MethodName)) rfl hown (mvT hZ (ow hw 255 rfl)) (mvT hZ (ow hw 256 rfl)) (mvT hZ (ow hw 257 rfl)) (by decide) (backOf (W := 2) (own_demI l Z a0 hw [] y1 u1 d1 x1 h9 n0 Z13_ D_y1 ge_y1) hZ (ow hw 257 rfl) (ow hw 254 rfl) (by decide) (by decide)) (g := (own_B v0 v1 v2 v3 v4 nU nD n u1 d1 u2 d2 u3 d3 x1 x2 x3 m 198 (.val (.ref aU)) (.val (.ref aD)) (.val (.ref aQ)) .unset .unset .unset .unset .unset .unset [(.double x1), (.int d1), (.int u1), (.ref y1), (.ref y1), (.ref aQ)])) rfl (by rw [hml]; rfl) (Steps.refl _) (a := y1) (argsL := [(.int u1), (.int d1), (.double x1)]) (rest := [(.ref y1), (.ref aQ)]) (lenOf own_pd23 rfl) rfl (by show 2 * 0 + _ ≤ _; exact Nat.le_of_eq rfl) (hb hby at_198) (fun _ _ => ⟨rfl, e9, (by decide : 6 + 0 ≤ _), (by decide : 32 + 0 ≤ _)⟩)
  dsimp only [Pt.U, Pt.locs, Pt.cells, Pt.slots] at X12 l12 y12 z12 st12 hQ12
  subst l12 y12 z12
  obtain ⟨h12, e12⟩ : ∃ z, T12.heap = z := ⟨_, rfl⟩
  rw [e12] at hQ12
  obtain ⟨rfl, N12, K12, A12⟩ := hQ12
  have N14_ := Fr.app N6_ N12
  have K15_ := K10_.trans K12 (allS (Or.inr gh_y1) all0)
  have f16_ := ((A3.1.ext E9).keep K12)
  have f17_ := ((A3.2.1.ext E9).keep K12 (ninS ne11_ nin0))
  have f18_ := ((A3.2.2.1.ext E9).keep K12 (ninS ne11_ nin0))
  have f19_ := ((A3.2.2.2.ext E9).keep K12 (ninS ne11_ nin0))
  have f21_ := (((f4_.keep K3 (allS ge_aQ all0)).ext E9).keep K12 (allS ge_y1 all0))
  have Z22_ := (Nat.le_trans Z0 K15_.1)
  have f23_ := ((A3.1.ext E9).keep K12)
  obtain ⟨cq20, kq20, q20a, q20b, q20c⟩ := isOf hZ e12 f23_
  obtain ⟨_, _, ⟨T20, L20, k20, n20⟩, -, X20, ⟨Lc20, hQ20, l20, y20, z20⟩, st20⟩ := X12.interfaceBack hx (xi := (⟨"java/util/List", "add", "(Ljava/lang/Object;)Z"⟩ : MethodName)) (y := (⟨"java/util/ArrayList", "add", "(Ljava/lang/Object;)Z"⟩ : MethodName)) hown (mvT hZ (ow hw 33 rfl)) (mvT hZ (ow hw 34 rfl)) (mvT hZ (ow hw 35 rfl)) (mvT hZ (ow hw 36 rfl)) (mvT hZ (ow hw 37 rfl)) (mvT hZ (ow hw 38 rfl)) (mvT hZ (ow hw 39 rfl)) (mvT hZ (ow hw 40 rfl)) (by decide) (backOf (W := 0) (own_add_0 l Z a0 hw [] G aQ y1 0 h12 n0 Z22_ ⟨f16_, f17_, f18_, f19_⟩ ge_aQ (Ins.of_exa A12.1 (ow hw 265 rfl)) f21_) hZ (ow hw 41 rfl) (ow hw 2 rfl) (by decide) (by decide)) q20a q20b q20c (g := (own_B v0 v1 v2 v3 v4 nU nD n u1 d1 u2 d2 u3 d3 x1 x2 x3 m 201 (.val (.ref aU)) (.val (.ref aD)) (.val (.ref aQ)) .unset .unset .unset .unset .unset .unset [(.ref y1), (.ref aQ)])) rfl (by rw [hml]; rfl) (Steps.refl _) (argsL := [(.ref y1)]) (rest := []) (lenOf own_pd22 rfl) rfl (by show 2 * 0 + _ ≤ _; exact Nat.le_of_eq rfl) (hb hby at_201) (fun _ _ => ⟨rfl, e12, (by decide : 6 + 1 ≤ _), (by decide : 32 + 10 ≤ _)⟩)
  dsimp only [Pt.U, Pt.locs, Pt.cells, Pt.slots] at X20 l20 y20 z20 st20 hQ20
  subst l20 y20 z20
  obtain ⟨h20, e20⟩ : ∃ z, T20.heap = z := ⟨_, rfl⟩
  rw [e20] at hQ20
  obtain ⟨xxaQ, rfl, N20, K20, g20, A20, B20⟩ := hQ20
  have N24_ := Fr.app N14_ N20
  have K25_ := K15_.trans K20 (allS (Or.inr gh_aQ) all0)
  have gh_xxaQ := Nat.le_trans K15_.1 g20
  have ge_xxaQ := Nat.le_trans Z0 gh_xxaQ
  have ne_axxaQ := ne_exa A20.1 B20.exa (by decide)
  have f26_ := (A12.1.keep K20)
  have ne_y1xxaQ := ne_exa f26_ B20.exa (by decide)
  have f27_ := (A12.2.1.keep K20 (ninS (Ne.symm ne11_) nin0))
  have f28_ := (A12.2.2.1.keep K20 (ninS (Ne.symm ne11_) nin0))
  have f29_ := (A12.2.2.2.keep K20 (ninS (Ne.symm ne11_) nin0))
  have CL_ : own_CL Z D h20 aQ [y1] := ⟨_, _, List.replicate 9 .null, ⟨A20.1, A20.2.1, A20.2.2.1, A20.2.2.2⟩, B20, Ins.of_exa f26_ (ow hw 265 rfl)⟩
  have DM1 : own_Dm Z h20 y1 u1 d1 x1 := ⟨f26_, f27_, f28_, f29_⟩
  have DS_ : own_Ds Z h20 nU nD [(y1, u1, d1, x1)] := fun q hq => by
    simp only [List.mem_cons, List.not_mem_nil, or_false] at hq
    rcases hq with rfl
    · exact ⟨DM1, r1, t1, M1⟩
  have VL_ : ∀ a b, own_val a b [(y1, u1, d1, x1)] = own_ex a b n u1 d1 x1 u2 d2 x2 u3 d3 x3 := fun a b => by
    unfold own_ex own_e1
    rw [if_neg H3, if_neg H2, if_pos H1]
    rfl
  refine ⟨T20, h20, _, aQ, [(y1, u1, d1, x1)], (X20.more (by decide) (by decide)), e20, N24_, K25_, CL_, (by simp), DS_, VL_, fun target k' => ?_⟩
  show Steps _ _ _ (T.setTop (own_B v0 v1 v2 v3 v4 nU nD n u1 d1 u2 d2 u3 d3 x1 x2 x3 m 172 (.val (.ref aU)) (.val (.ref aD)) .unset .unset .unset .unset .unset .unset .unset [])) _
  refine st1 _ ?_
  refine XS.dup X1.here hx rfl (hb hby at_175) rfl rfl ?_
  show Steps _ _ _ (T1.setTop (own_B v0 v1 v2 v3 v4 nU nD n u1 d1 u2 d2 u3 d3 x1 x2 x3 m 176 (.val (.ref aU)) (.val (.ref aD)) .unset .unset .unset .unset .unset .unset .unset [(.ref aQ), (.ref aQ)])) _
  refine st3.trans ?_
  show Steps _ _ _ (T3.setTop (own_B v0 v1 v2 v3 v4 nU nD n u1 d1 u2 d2 u3 d3 x1 x2 x3 m 179 (.val (.ref aU)) (.val (.ref aD)) .unset .unset .unset .unset .unset .unset .unset [(.ref aQ)])) _
  refine XS.astore X3.here hx rfl (hb hby at_179) rfl rfl rfl ?_
  refine XS.iload X3.here hx rfl (hb hby at_181) rfl ?_
  show Steps _ _ _ (T3.setTop (own_B v0 v1 v2 v3 v4 nU nD n u1 d1 u2 d2 u3 d3 x1 x2 x3 m 183 (.val (.ref aU)) (.val (.ref aD)) (.val (.ref aQ)) .unset .unset .unset .unset .unset .unset [(.int n)])) _
  refine XS.ifNo X3.here hx rfl (hb hby at_183) rfl (XT.i0_le_f H1) ?_
  refine XS.aload X3.here hx rfl (hb hby at_186) rfl rfl ?_
  show Steps _ _ _ (T3.setTop (own_B v0 v1 v2 v3 v4 nU nD n u1 d1 u2 d2 u3 d3 x1 x2 x3 m 188 (.val (.ref aU)) (.val (.ref aD)) (.val (.ref aQ)) .unset .unset .unset .unset .unset .unset [(.ref aQ)])) _
  refine st9 _ ?_
  refine XS.dup X9.here hx rfl (hb hby at_191) rfl rfl ?_
  refine XS.iload X9.here hx rfl (hb hby at_192) rfl ?_
  refine XS.iload X9.here hx rfl (hb hby at_194) rfl ?_
  refine XS.dload X9.here hx rfl (hb hby at_196) rfl ?_
  show Steps _ _ _ (T9.setTop (own_B v0 v1 v2 v3 v4 nU nD n u1 d1 u2 d2 u3 d3 x1 x2 x3 m 198 (.val (.ref aU)) (.val (.ref aD)) (.val (.ref aQ)) .unset .unset .unset .unset .unset .unset [(.double x1), (.int d1), (.int u1), (.ref y1), (.ref y1), (.ref aQ)])) _
  refine st12.trans ?_
  show Steps _ _ _ (T12.setTop (own_B v0 v1 v2 v3 v4 nU nD n u1 d1 u2 d2 u3 d3 x1 x2 x3 m 201 (.val (.ref aU)) (.val (.ref aD)) (.val (.ref aQ)) .unset .unset .unset .unset .unset .unset [(.ref y1), (.ref aQ)])) _
  refine st20.trans ?_
  show Steps _ _ _ (T20.setTop (own_B v0 v1 v2 v3 v4 nU nD n u1 d1 u2 d2 u3 d3 x1 x2 x3 m 206 (.val (.ref aU)) (.val (.ref aD)) (.val (.ref aQ)) .unset .unset .unset .unset .unset .unset [(.int 1)])) _
  refine XT.pop X20.here hx rfl (hb hby at_206) rfl rfl ?_
  refine XS.iload X20.here hx rfl (hb hby at_207) rfl ?_
  refine XT.iconstV X20.here hx rfl 1 (hb hby at_209) rfl ?_
  show Steps _ _ _ (T20.setTop (own_B v0 v1 v2 v3 v4 nU nD n u1 d1 u2 d2 u3 d3 x1 x2 x3 m 210 (.val (.ref aU)) (.val (.ref aD)) (.val (.ref aQ)) .unset .unset .unset .unset .unset .unset [(.int 1), (.int n)])) _
  refine XS.icmpYes X20.here hx rfl rfl (hb hby at_210) rfl (XT.ii_le_t H2) (show (0 : Int) ≤ ((210 : Nat) : Int) + (24) by decide) (show (((210 : Nat) : Int) + (24)).toNat = 234 by decide) ?_
  refine XS.iload X20.here hx rfl (hb hby at_234) rfl ?_
  refine XT.iconstV X20.here hx rfl 2 (hb hby at_236) rfl ?_
  show Steps _ _ _ (T20.setTop (own_B v0 v1 v2 v3 v4 nU nD n u1 d1 u2 d2 u3 d3 x1 x2 x3 m 237 (.val (.ref aU)) (.val (.ref aD)) (.val (.ref aQ)) .unset .unset .unset .unset .unset .unset [(.int 2), (.int n)])) _
  refine XS.icmpYes X20.here hx rfl rfl (hb hby at_237) rfl (XT.ii_le_t H3) (show (0 : Int) ≤ ((237 : Nat) : Int) + (24) by decide) (show (((237 : Nat) : Int) + (24)).toNat = 261 by decide) ?_
  show Steps _ _ _ (T20.setTop (own_B v0 v1 v2 v3 v4 nU nD n u1 d1 u2 d2 u3 d3 x1 x2 x3 m 261 (.val (.ref aU)) (.val (.ref aD)) (.val (.ref aQ)) .unset .unset .unset .unset .unset .unset [])) _
  exact k'
theorem own_q2 (X : Stand p l e room_1 s m args below meth c T locs 4 26) (hx : p.tables.exec = Jvm.exec) (hZ : Z.Warmed39 s.vm) (hw : ∀ d ∈ tables_1, d.before a0 Z = true) {D IC EL EE EM MO b0 b1 : Addr} {cD cI cE : Cell} (G : own_G Z D IC EL EE EM MO b0 b1 cD cI cE) (hby : c.code = code) (hml : c.maxLocals = 29) (hown : s.vm.findClass "com/example/overweave/overweave/InstanceTrafficPinLaw" = some m.cls) (eT : T.heap = h) (N0 : Fr n0 locs) (Z0 : n0 ≤ h.size) (O : Old Z n0 h) {v0 v1 v2 v3 v4 nU nD n u1 d1 u2 d2 u3 d3 : Int32} {x1 x2 x3 : UInt64} {aU aD : Addr} (r1 : u1 = 0 ∨ (u1 = 1 ∧ nU = 2)) (t1 : d1 = 0 ∨ (d1 = 1 ∧ nD = 2)) (M1 : Mag64 1056 x1) (r2 : u2 = 0 ∨ (u2 = 1 ∧ nU = 2)) (t2 : d2 = 0 ∨ (d2 = 1 ∧ nD = 2)) (M2 : Mag64 1056 x2) (r3 : u3 = 0 ∨ (u3 = 1 ∧ nU = 2)) (t3 : d3 = 0 ∨ (d3 = 1 ∧ nD = 2)) (M3 : Mag64 1056 x3) (H1 : 0 < n) (H2 : 1 < n) (H3 : ¬ 2 < n) :
    ∃ T' h' L' aQ ps, Stand p l e room_1 s m args below meth c T' L' 9 48 ∧ T'.heap = h' ∧ Fr n0 L' ∧ Keep h h' [] ∧ own_CL Z D h' aQ (ps.map (·.1)) ∧ ps.length ≤ 3 ∧ own_Ds Z h' nU nD ps ∧ (∀ a b, own_val a b ps = own_ex a b n u1 d1 x1 u2 d2 x2 u3 d3 x3) ∧ ∀ target, Steps p.tables e below (T'.setTop (own_B v0 v1 v2 v3 v4 nU nD n u1 d1 u2 d2 u3 d3 x1 x2 x3 m 261 (.val (.ref aU)) (.val (.ref aD)) (.val (.ref aQ)) .unset .unset .unset .unset .unset .unset [])) target → Steps p.tables e below (T.setTop (own_B v0 v1 v2 v3 v4 nU nD n u1 d1 u2 d2 u3 d3 x1 x2 x3 m 172 (.val (.ref aU)) (.val (.ref aD)) .unset .unset .unset .unset .unset .unset .unset [])) target := by
  obtain ⟨T1, h1, X1, e1, E1, A1, D1, -, st1⟩ := newO X hx hZ hown (ow hw 0 rfl) (ow hw 1 rfl) (ow hw 2 rfl) eT (g := (own_B v0 v1 v2 v3 v4 nU nD n u1 d1 u2 d2 u3 d3 x1 x2 x3 m 172 (.val (.ref aU)) (.val (.ref aD)) .unset .unset .unset .unset .unset .unset .unset [])) rfl (hb hby at_172) (by decide) (by decide)
  obtain ⟨aQ, go_aQ⟩ : ∃ z, z = h.size := ⟨_, rfl⟩
  rw [← go_aQ] at A1 D1 st1
  have gh_aQ := (Nat.le_of_eq go_aQ.symm : h.size ≤ aQ)
  have ge_aQ := Nat.le_trans Z0 gh_aQ
  have K2_ := (Keep.refl h []).ext E1
  have A_aQ := (⟨A1, (D1 (Or.inl (ow hw 22 rfl)) (ty := .int) (by decide)), (D1 (Or.inl (ow hw 25 rfl)) (ty := (.array (.object "java/lang/Object"))) (by decide)), (D1 (Or.inl (ow hw 45 rfl)) (ty := .int) (by decide))⟩ : own_Al Z h1 aQ .null 0 0)
  have f4_ := (O.ext E1)
  have Z5_ := (Nat.le_trans Z0 K2_.1)
  obtain ⟨_, _, ⟨T3, L3, k3, n3⟩, -, X3, ⟨Lc3, hQ3, l3, y3, z3⟩, st3⟩ := X1.specialBack hx (y := (⟨"java/util/ArrayList", "<init>", "()V"⟩ : MethodName)) rfl hown (mvT hZ (ow hw 3 rfl)) (mvT hZ (ow hw 4 rfl)) (mvT hZ (ow hw 5 rfl)) (by decide) (backOf (W := 1) (own_alI l Z a0 hw [] G aQ .null 0 0 h1 n0 Z5_ A_aQ ge_aQ f4_) hZ (ow hw 5 rfl) (ow hw 2 rfl) (by decide) (by decide)) (g := (own_B v0 v1 v2 v3 v4 nU nD n u1 d1 u2 d2 u3 d3 x1 x2 x3 m 176 (.val (.ref aU)) (.val (.ref aD)) .unset .unset .unset .unset .unset .unset .unset [(.ref aQ), (.ref aQ)])) rfl (by rw [hml]; rfl) (Steps.refl _) (a := aQ) (argsL := []) (rest := [(.ref aQ)]) (lenOf own_pd0 rfl) rfl (by show 2 * 0 + _ ≤ _; exact Nat.le_of_eq rfl) (hb hby at_176) (fun _ _ => ⟨rfl, e1, (by decide : 5 + 0 ≤ _), (by decide : 29 + 0 ≤ _)⟩)
  dsimp only [Pt.U, Pt.locs, Pt.cells, Pt.slots] at X3 l3 y3 z3 st3 hQ3
  subst l3 y3 z3
  obtain ⟨h3, e3⟩ : ∃ z, T3.heap = z := ⟨_, rfl⟩
  rw [e3] at hQ3
  obtain ⟨rfl, N3, K3, A3⟩ := hQ3
  have N6_ := Fr.app N0 N3
  have K7_ := K2_.trans K3 (allS (Or.inr gh_aQ) all0)
  have lt8_ := A3.1.lt
  obtain ⟨T9, h9, X9, e9, E9, A9, D9, -, st9⟩ := newO X3 hx hZ hown (ow hw 252 rfl) (ow hw 253 rfl) (ow hw 254 rfl) e3 (g := (own_B v0 v1 v2 v3 v4 nU nD n u1 d1 u2 d2 u3 d3 x1 x2 x3 m 188 (.val (.ref aU)) (.val (.ref aD)) (.val (.ref aQ)) .unset .unset .unset .unset .unset .unset [(.ref aQ)])) rfl (hb hby at_188) (by decide) (by decide)
  obtain ⟨y1, go_y1⟩ : ∃ z, z = h3.size := ⟨_, rfl⟩
  rw [← go_y1] at A9 D9 st9
  have gh_y1 := Nat.le_trans K7_.1 (Nat.le_of_eq go_y1.symm)
  have ge_y1 := Nat.le_trans Z0 gh_y1
  have K10_ := K7_.ext E9
  have ne11_ := (Nat.ne_of_lt (Nat.lt_of_lt_of_le lt8_ (Nat.le_of_eq go_y1.symm)) : aQ ≠ y1)
  have D_y1 := (⟨A9, (D9 (Or.inr (ow hw 260 rfl)) (ty := .int) (by decide)), (D9 (Or.inr (ow hw 262 rfl)) (ty := .int) (by decide)), (D9 (Or.inr (ow hw 264 rfl)) (ty := .double) (by decide))⟩ : own_Dm Z h9 y1 0 0 0)
  have Z13_ := (Nat.le_trans Z0 K10_.1)
  obtain ⟨_, _, ⟨T12, L12, k12, n12⟩, -, X12, ⟨Lc12, hQ12, l12, y12, z12⟩, st12⟩ := X9.specialBack hx (y := (⟨"com/example/overweave/overweave/Instance$Demand", "<init>", "(IID)V"⟩ : MethodName)) rfl hown (mvT hZ (ow hw 255 rfl)) (mvT hZ (ow hw 256 rfl)) (mvT hZ (ow hw 257 rfl)) (by decide) (backOf (W := 2) (own_demI l Z a0 hw [] y1 u1 d1 x1 h9 n0 Z13_ D_y1 ge_y1) hZ (ow hw 257 rfl) (ow hw 254 rfl) (by decide) (by decide)) (g := (own_B v0 v1 v2 v3 v4 nU nD n u1 d1 u2 d2 u3 d3 x1 x2 x3 m 198 (.val (.ref aU)) (.val (.ref aD)) (.val (.ref aQ)) .unset .unset .unset .unset .unset .unset [(.double x1), (.int d1), (.int u1), (.ref y1), (.ref y1), (.ref aQ)])) rfl (by rw [hml]; rfl) (Steps.refl _) (a := y1) (argsL := [(.int u1), (.int d1), (.double x1)]) (rest := [(.ref y1), (.ref aQ)]) (lenOf own_pd23 rfl) rfl (by show 2 * 0 + _ ≤ _; exact Nat.le_of_eq rfl) (hb hby at_198) (fun _ _ => ⟨rfl, e9, (by decide : 6 + 0 ≤ _), (by decide : 32 + 0 ≤ _)⟩)
  dsimp only [Pt.U, Pt.locs, Pt.cells, Pt.slots] at X12 l12 y12 z12 st12 hQ12
  subst l12 y12 z12
  obtain ⟨h12, e12⟩ : ∃ z, T12.heap = z := ⟨_, rfl⟩
  rw [e12] at hQ12
  obtain ⟨rfl, N12, K12, A12⟩ := hQ12
  have N14_ := Fr.app N6_ N12
  have K15_ := K10_.trans K12 (allS (Or.inr gh_y1) all0)
  have f16_ := ((A3.1.ext E9).keep K12)
  have f17_ := ((A3.2.1.ext E9).keep K12 (ninS ne11_ nin0))
  have f18_ := ((A3.2.2.1.ext E9).keep K12 (ninS ne11_ nin0))
  have f19_ := ((A3.2.2.2.ext E9).keep K12 (ninS ne11_ nin0))
  have f21_ := (((f4_.keep K3 (allS ge_aQ all0)).ext E9).keep K12 (allS ge_y1 all0))
  have Z22_ := (Nat.le_trans Z0 K15_.1)
  have f23_ := ((A3.1.ext E9).keep K12)
  obtain ⟨cq20, kq20, q20a, q20b, q20c⟩ := isOf hZ e12 f23_
  obtain ⟨_, _, ⟨T20, L20, k20, n20⟩, -, X20, ⟨Lc20, hQ20, l20, y20, z20⟩, st20⟩ := X12.interfaceBack hx (xi := (⟨"java/util/List", "add", "(Ljava/lang/Object;)Z"⟩ : MethodName)) (y := (⟨"java/util/ArrayList", "add", "(Ljava/lang/Object;)Z"⟩ : MethodName)) hown (mvT hZ (ow hw 33 rfl)) (mvT hZ (ow hw 34 rfl)) (mvT hZ (ow hw 35 rfl)) (mvT hZ (ow hw 36 rfl)) (mvT hZ (ow hw 37 rfl)) (mvT hZ (ow hw 38 rfl)) (mvT hZ (ow hw 39 rfl)) (mvT hZ (ow hw 40 rfl)) (by decide) (backOf (W := 0) (own_add_0 l Z a0 hw [] G aQ y1 0 h12 n0 Z22_ ⟨f16_, f17_, f18_, f19_⟩ ge_aQ (Ins.of_exa A12.1 (ow hw 265 rfl)) f21_) hZ (ow hw 41 rfl) (ow hw 2 rfl) (by decide) (by decide)) q20a q20b q20c (g := (own_B v0 v1 v2 v3 v4 nU nD n u1 d1 u2 d2 u3 d3 x1 x2 x3 m 201 (.val (.ref aU)) (.val (.ref aD)) (.val (.ref aQ)) .unset .unset .unset .unset .unset .unset [(.ref y1), (.ref aQ)])) rfl (by rw [hml]; rfl) (Steps.refl _) (argsL := [(.ref y1)]) (rest := []) (lenOf own_pd22 rfl) rfl (by show 2 * 0 + _ ≤ _; exact Nat.le_of_eq rfl) (hb hby at_201) (fun _ _ => ⟨rfl, e12, (by decide : 6 + 1 ≤ _), (by decide : 32 + 10 ≤ _)⟩)
  dsimp only [Pt.U, Pt.locs, Pt.cells, Pt.slots] at X20 l20 y20 z20 st20 hQ20
  subst l20 y20 z20
  obtain ⟨h20, e20⟩ : ∃ z, T20.heap = z := ⟨_, rfl⟩
  rw [e20] at hQ20
  obtain ⟨xxaQ, rfl, N20, K20, g20, A20, B20⟩ := hQ20
  have N24_ := Fr.app N14_ N20
  have K25_ := K15_.trans K20 (allS (Or.inr gh_aQ) all0)
  have gh_xxaQ := Nat.le_trans K15_.1 g20
  have ge_xxaQ := Nat.le_trans Z0 gh_xxaQ
  have ne_axxaQ := ne_exa A20.1 B20.exa (by decide)
  have f26_ := (A12.1.keep K20)
  have ne_y1xxaQ := ne_exa f26_ B20.exa (by decide)
  have lt27_ := A20.1.lt
  have lt28_ := B20.lt
  have lt29_ := f26_.lt
  obtain ⟨T30, h30, X30, e30, E30, A30, D30, -, st30⟩ := newO X20 hx hZ hown (ow hw 252 rfl) (ow hw 253 rfl) (ow hw 254 rfl) e20 (g := (own_B v0 v1 v2 v3 v4 nU nD n u1 d1 u2 d2 u3 d3 x1 x2 x3 m 215 (.val (.ref aU)) (.val (.ref aD)) (.val (.ref aQ)) .unset .unset .unset .unset .unset .unset [(.ref aQ)])) rfl (hb hby at_215) (by decide) (by decide)
  obtain ⟨y2, go_y2⟩ : ∃ z, z = h20.size := ⟨_, rfl⟩
  rw [← go_y2] at A30 D30 st30
  have gh_y2 := Nat.le_trans K25_.1 (Nat.le_of_eq go_y2.symm)
  have ge_y2 := Nat.le_trans Z0 gh_y2
  have K31_ := K25_.ext E30
  have ne32_ := (Nat.ne_of_lt (Nat.lt_of_lt_of_le lt27_ (Nat.le_of_eq go_y2.symm)) : aQ ≠ y2)
  have ne33_ := (Nat.ne_of_lt (Nat.lt_of_lt_of_le lt28_ (Nat.le_of_eq go_y2.symm)) : xxaQ ≠ y2)
  have ne34_ := (Nat.ne_of_lt (Nat.lt_of_lt_of_le lt29_ (Nat.le_of_eq go_y2.symm)) : y1 ≠ y2)
  have D_y2 := (⟨A30, (D30 (Or.inr (ow hw 260 rfl)) (ty := .int) (by decide)), (D30 (Or.inr (ow hw 262 rfl)) (ty := .int) (by decide)), (D30 (Or.inr (ow hw 264 rfl)) (ty := .double) (by decide))⟩ : own_Dm Z h30 y2 0 0 0)
  have Z36_ := (Nat.le_trans Z0 K31_.1)
  obtain ⟨_, _, ⟨T35, L35, k35, n35⟩, -, X35, ⟨Lc35, hQ35, l35, y35, z35⟩, st35⟩ := X30.specialBack hx (y := (⟨"com/example/overweave/overweave/Instance$Demand", "<init>", "(IID)V"⟩ : MethodName)) rfl hown (mvT hZ (ow hw 255 rfl)) (mvT hZ (ow hw 256 rfl)) (mvT hZ (ow hw 257 rfl)) (by decide) (backOf (W := 2) (own_demI l Z a0 hw [] y2 u2 d2 x2 h30 n0 Z36_ D_y2 ge_y2) hZ (ow hw 257 rfl) (ow hw 254 rfl) (by decide) (by decide)) (g := (own_B v0 v1 v2 v3 v4 nU nD n u1 d1 u2 d2 u3 d3 x1 x2 x3 m 225 (.val (.ref aU)) (.val (.ref aD)) (.val (.ref aQ)) .unset .unset .unset .unset .unset .unset [(.double x2), (.int d2), (.int u2), (.ref y2), (.ref y2), (.ref aQ)])) rfl (by rw [hml]; rfl) (Steps.refl _) (a := y2) (argsL := [(.int u2), (.int d2), (.double x2)]) (rest := [(.ref y2), (.ref aQ)]) (lenOf own_pd23 rfl) rfl (by show 2 * 0 + _ ≤ _; exact Nat.le_of_eq rfl) (hb hby at_225) (fun _ _ => ⟨rfl, e30, (by decide : 8 + 0 ≤ _), (by decide : 45 + 0 ≤ _)⟩)
  dsimp only [Pt.U, Pt.locs, Pt.cells, Pt.slots] at X35 l35 y35 z35 st35 hQ35
  subst l35 y35 z35
  obtain ⟨h35, e35⟩ : ∃ z, T35.heap = z := ⟨_, rfl⟩
  rw [e35] at hQ35
  obtain ⟨rfl, N35, K35, A35⟩ := hQ35
  have N37_ := Fr.app N24_ N35
  have K38_ := K31_.trans K35 (allS (Or.inr gh_y2) all0)
  have f39_ := ((A20.1.ext E30).keep K35)
  have f40_ := ((A20.2.1.ext E30).keep K35 (ninS ne32_ nin0))
  have f41_ := ((A20.2.2.1.ext E30).keep K35 (ninS ne32_ nin0))
  have f42_ := ((A20.2.2.2.ext E30).keep K35 (ninS ne32_ nin0))
  have f43_ := ((B20.ext E30).keep K35 (ninS ne33_ nin0))
  have Z45_ := (Nat.le_trans Z0 K38_.1)
  have f46_ := ((A20.1.ext E30).keep K35)
  obtain ⟨cq44, kq44, q44a, q44b, q44c⟩ := isOf hZ e35 f46_
  obtain ⟨_, _, ⟨T44, L44, k44, n44⟩, -, X44, ⟨Lc44, hQ44, l44, y44, z44⟩, st44⟩ := X35.interfaceBack hx (xi := (⟨"java/util/List", "add", "(Ljava/lang/Object;)Z"⟩ : MethodName)) (y := (⟨"java/util/ArrayList", "add", "(Ljava/lang/Object;)Z"⟩ : MethodName)) hown (mvT hZ (ow hw 33 rfl)) (mvT hZ (ow hw 34 rfl)) (mvT hZ (ow hw 35 rfl)) (mvT hZ (ow hw 36 rfl)) (mvT hZ (ow hw 37 rfl)) (mvT hZ (ow hw 38 rfl)) (mvT hZ (ow hw 39 rfl)) (mvT hZ (ow hw 40 rfl)) (by decide) (backOf (W := 0) (own_add_1 l Z a0 hw [] aQ xxaQ y2 (0 + 1) ((List.replicate 10 .null).set 0 (.ref y1)) (by simp) h35 n0 Z45_ ⟨f39_, f40_, f41_, f42_⟩ ge_aQ ge_xxaQ f43_ (Ins.of_exa A35.1 (ow hw 265 rfl))) hZ (ow hw 41 rfl) (ow hw 2 rfl) (by decide) (by decide)) q44a q44b q44c (g := (own_B v0 v1 v2 v3 v4 nU nD n u1 d1 u2 d2 u3 d3 x1 x2 x3 m 228 (.val (.ref aU)) (.val (.ref aD)) (.val (.ref aQ)) .unset .unset .unset .unset .unset .unset [(.ref y2), (.ref aQ)])) rfl (by rw [hml]; rfl) (Steps.refl _) (argsL := [(.ref y2)]) (rest := []) (lenOf own_pd22 rfl) rfl (by show 2 * 0 + _ ≤ _; exact Nat.le_of_eq rfl) (hb hby at_228) (fun _ _ => ⟨rfl, e35, (by decide : 8 + 0 ≤ _), (by decide : 45 + 0 ≤ _)⟩)
  dsimp only [Pt.U, Pt.locs, Pt.cells, Pt.slots] at X44 l44 y44 z44 st44 hQ44
  subst l44 y44 z44
  obtain ⟨h44, e44⟩ : ∃ z, T44.heap = z := ⟨_, rfl⟩
  rw [e44] at hQ44
  obtain ⟨rfl, N44, K44, A44, B44⟩ := hQ44
  have N47_ := Fr.app N37_ N44
  have K48_ := K38_.trans K44 (allS (Or.inr gh_aQ) (allS (Or.inr gh_xxaQ) all0))
  have f49_ := (((f26_.ext E30).keep K35).keep K44)
  have f50_ := ((((A12.2.1.keep K20 (ninS (Ne.symm ne11_) nin0)).ext E30).keep K35 (ninS ne34_ nin0)).keep K44 (ninS (Ne.symm ne11_) (ninS ne_y1xxaQ nin0)))
  have f51_ := ((((A12.2.2.1.keep K20 (ninS (Ne.symm ne11_) nin0)).ext E30).keep K35 (ninS ne34_ nin0)).keep K44 (ninS (Ne.symm ne11_) (ninS ne_y1xxaQ nin0)))
  have f52_ := ((((A12.2.2.2.keep K20 (ninS (Ne.symm ne11_) nin0)).ext E30).keep K35 (ninS ne34_ nin0)).keep K44 (ninS (Ne.symm ne11_) (ninS ne_y1xxaQ nin0)))
  have f53_ := (A35.1.keep K44)
  have f54_ := (A35.2.1.keep K44 (ninS (Ne.symm ne32_) (ninS (Ne.symm ne33_) nin0)))
  have f55_ := (A35.2.2.1.keep K44 (ninS (Ne.symm ne32_) (ninS (Ne.symm ne33_) nin0)))
  have f56_ := (A35.2.2.2.keep K44 (ninS (Ne.symm ne32_) (ninS (Ne.symm ne33_) nin0)))
  have CL_ : own_CL Z D h44 aQ [y1, y2] := ⟨_, _, List.replicate 8 .null, ⟨A44.1, A44.2.1, A44.2.2.1, A44.2.2.2⟩, B44, Ins.of_exa f49_ (ow hw 265 rfl), Ins.of_exa f53_ (ow hw 265 rfl)⟩
  have DM1 : own_Dm Z h44 y1 u1 d1 x1 := ⟨f49_, f50_, f51_, f52_⟩
  have DM2 : own_Dm Z h44 y2 u2 d2 x2 := ⟨f53_, f54_, f55_, f56_⟩
  have DS_ : own_Ds Z h44 nU nD [(y1, u1, d1, x1), (y2, u2, d2, x2)] := fun q hq => by
    simp only [List.mem_cons, List.not_mem_nil, or_false] at hq
    rcases hq with rfl | rfl
    · exact ⟨DM1, r1, t1, M1⟩
    · exact ⟨DM2, r2, t2, M2⟩
  have VL_ : ∀ a b, own_val a b [(y1, u1, d1, x1), (y2, u2, d2, x2)] = own_ex a b n u1 d1 x1 u2 d2 x2 u3 d3 x3 := fun a b => by
    unfold own_ex own_e1
    rw [if_neg H3, if_pos H2, if_pos H1]
    rfl
  refine ⟨T44, h44, _, aQ, [(y1, u1, d1, x1), (y2, u2, d2, x2)], (X44.more (by decide) (by decide)), e44, N47_, K48_, CL_, (by simp), DS_, VL_, fun target k' => ?_⟩
  show Steps _ _ _ (T.setTop (own_B v0 v1 v2 v3 v4 nU nD n u1 d1 u2 d2 u3 d3 x1 x2 x3 m 172 (.val (.ref aU)) (.val (.ref aD)) .unset .unset .unset .unset .unset .unset .unset [])) _
  refine st1 _ ?_
  refine XS.dup X1.here hx rfl (hb hby at_175) rfl rfl ?_
  show Steps _ _ _ (T1.setTop (own_B v0 v1 v2 v3 v4 nU nD n u1 d1 u2 d2 u3 d3 x1 x2 x3 m 176 (.val (.ref aU)) (.val (.ref aD)) .unset .unset .unset .unset .unset .unset .unset [(.ref aQ), (.ref aQ)])) _
  refine st3.trans ?_
  show Steps _ _ _ (T3.setTop (own_B v0 v1 v2 v3 v4 nU nD n u1 d1 u2 d2 u3 d3 x1 x2 x3 m 179 (.val (.ref aU)) (.val (.ref aD)) .unset .unset .unset .unset .unset .unset .unset [(.ref aQ)])) _
  refine XS.astore X3.here hx rfl (hb hby at_179) rfl rfl rfl ?_
  refine XS.iload X3.here hx rfl (hb hby at_181) rfl ?_
  show Steps _ _ _ (T3.setTop (own_B v0 v1 v2 v3 v4 nU nD n u1 d1 u2 d2 u3 d3 x1 x2 x3 m 183 (.val (.ref aU)) (.val (.ref aD)) (.val (.ref aQ)) .unset .unset .unset .unset .unset .unset [(.int n)])) _
  refine XS.ifNo X3.here hx rfl (hb hby at_183) rfl (XT.i0_le_f H1) ?_
  refine XS.aload X3.here hx rfl (hb hby at_186) rfl rfl ?_
  show Steps _ _ _ (T3.setTop (own_B v0 v1 v2 v3 v4 nU nD n u1 d1 u2 d2 u3 d3 x1 x2 x3 m 188 (.val (.ref aU)) (.val (.ref aD)) (.val (.ref aQ)) .unset .unset .unset .unset .unset .unset [(.ref aQ)])) _
  refine st9 _ ?_
  refine XS.dup X9.here hx rfl (hb hby at_191) rfl rfl ?_
  refine XS.iload X9.here hx rfl (hb hby at_192) rfl ?_
  refine XS.iload X9.here hx rfl (hb hby at_194) rfl ?_
  refine XS.dload X9.here hx rfl (hb hby at_196) rfl ?_
  show Steps _ _ _ (T9.setTop (own_B v0 v1 v2 v3 v4 nU nD n u1 d1 u2 d2 u3 d3 x1 x2 x3 m 198 (.val (.ref aU)) (.val (.ref aD)) (.val (.ref aQ)) .unset .unset .unset .unset .unset .unset [(.double x1), (.int d1), (.int u1), (.ref y1), (.ref y1), (.ref aQ)])) _
  refine st12.trans ?_
  show Steps _ _ _ (T12.setTop (own_B v0 v1 v2 v3 v4 nU nD n u1 d1 u2 d2 u3 d3 x1 x2 x3 m 201 (.val (.ref aU)) (.val (.ref aD)) (.val (.ref aQ)) .unset .unset .unset .unset .unset .unset [(.ref y1), (.ref aQ)])) _
  refine st20.trans ?_
  show Steps _ _ _ (T20.setTop (own_B v0 v1 v2 v3 v4 nU nD n u1 d1 u2 d2 u3 d3 x1 x2 x3 m 206 (.val (.ref aU)) (.val (.ref aD)) (.val (.ref aQ)) .unset .unset .unset .unset .unset .unset [(.int 1)])) _
  refine XT.pop X20.here hx rfl (hb hby at_206) rfl rfl ?_
  refine XS.iload X20.here hx rfl (hb hby at_207) rfl ?_
  refine XT.iconstV X20.here hx rfl 1 (hb hby at_209) rfl ?_
  show Steps _ _ _ (T20.setTop (own_B v0 v1 v2 v3 v4 nU nD n u1 d1 u2 d2 u3 d3 x1 x2 x3 m 210 (.val (.ref aU)) (.val (.ref aD)) (.val (.ref aQ)) .unset .unset .unset .unset .unset .unset [(.int 1), (.int n)])) _
  refine XS.icmpNo X20.here hx rfl (hb hby at_210) rfl (XT.ii_le_f H2) ?_
  refine XS.aload X20.here hx rfl (hb hby at_213) rfl rfl ?_
  show Steps _ _ _ (T20.setTop (own_B v0 v1 v2 v3 v4 nU nD n u1 d1 u2 d2 u3 d3 x1 x2 x3 m 215 (.val (.ref aU)) (.val (.ref aD)) (.val (.ref aQ)) .unset .unset .unset .unset .unset .unset [(.ref aQ)])) _
  refine st30 _ ?_
  refine XS.dup X30.here hx rfl (hb hby at_218) rfl rfl ?_
  refine XS.iload X30.here hx rfl (hb hby at_219) rfl ?_
  refine XS.iload X30.here hx rfl (hb hby at_221) rfl ?_
  refine XS.dload X30.here hx rfl (hb hby at_223) rfl ?_
  show Steps _ _ _ (T30.setTop (own_B v0 v1 v2 v3 v4 nU nD n u1 d1 u2 d2 u3 d3 x1 x2 x3 m 225 (.val (.ref aU)) (.val (.ref aD)) (.val (.ref aQ)) .unset .unset .unset .unset .unset .unset [(.double x2), (.int d2), (.int u2), (.ref y2), (.ref y2), (.ref aQ)])) _
  refine st35.trans ?_
  show Steps _ _ _ (T35.setTop (own_B v0 v1 v2 v3 v4 nU nD n u1 d1 u2 d2 u3 d3 x1 x2 x3 m 228 (.val (.ref aU)) (.val (.ref aD)) (.val (.ref aQ)) .unset .unset .unset .unset .unset .unset [(.ref y2), (.ref aQ)])) _
  refine st44.trans ?_
  show Steps _ _ _ (T44.setTop (own_B v0 v1 v2 v3 v4 nU nD n u1 d1 u2 d2 u3 d3 x1 x2 x3 m 233 (.val (.ref aU)) (.val (.ref aD)) (.val (.ref aQ)) .unset .unset .unset .unset .unset .unset [(.int 1)])) _
  refine XT.pop X44.here hx rfl (hb hby at_233) rfl rfl ?_
  refine XS.iload X44.here hx rfl (hb hby at_234) rfl ?_
  refine XT.iconstV X44.here hx rfl 2 (hb hby at_236) rfl ?_
  show Steps _ _ _ (T44.setTop (own_B v0 v1 v2 v3 v4 nU nD n u1 d1 u2 d2 u3 d3 x1 x2 x3 m 237 (.val (.ref aU)) (.val (.ref aD)) (.val (.ref aQ)) .unset .unset .unset .unset .unset .unset [(.int 2), (.int n)])) _
  refine XS.icmpYes X44.here hx rfl rfl (hb hby at_237) rfl (XT.ii_le_t H3) (show (0 : Int) ≤ ((237 : Nat) : Int) + (24) by decide) (show (((237 : Nat) : Int) + (24)).toNat = 261 by decide) ?_
  show Steps _ _ _ (T44.setTop (own_B v0 v1 v2 v3 v4 nU nD n u1 d1 u2 d2 u3 d3 x1 x2 x3 m 261 (.val (.ref aU)) (.val (.ref aD)) (.val (.ref aQ)) .unset .unset .unset .unset .unset .unset [])) _
  exact k'
theorem own_q3 (X : Stand p l e room_1 s m args below meth c T locs 4 26) (hx : p.tables.exec = Jvm.exec) (hZ : Z.Warmed39 s.vm) (hw : ∀ d ∈ tables_1, d.before a0 Z = true) {D IC EL EE EM MO b0 b1 : Addr} {cD cI cE : Cell} (G : own_G Z D IC EL EE EM MO b0 b1 cD cI cE) (hby : c.code = code) (hml : c.maxLocals = 29) (hown : s.vm.findClass "com/example/overweave/overweave/InstanceTrafficPinLaw" = some m.cls) (eT : T.heap = h) (N0 : Fr n0 locs) (Z0 : n0 ≤ h.size) (O : Old Z n0 h) {v0 v1 v2 v3 v4 nU nD n u1 d1 u2 d2 u3 d3 : Int32} {x1 x2 x3 : UInt64} {aU aD : Addr} (r1 : u1 = 0 ∨ (u1 = 1 ∧ nU = 2)) (t1 : d1 = 0 ∨ (d1 = 1 ∧ nD = 2)) (M1 : Mag64 1056 x1) (r2 : u2 = 0 ∨ (u2 = 1 ∧ nU = 2)) (t2 : d2 = 0 ∨ (d2 = 1 ∧ nD = 2)) (M2 : Mag64 1056 x2) (r3 : u3 = 0 ∨ (u3 = 1 ∧ nU = 2)) (t3 : d3 = 0 ∨ (d3 = 1 ∧ nD = 2)) (M3 : Mag64 1056 x3) (H1 : 0 < n) (H2 : 1 < n) (H3 : 2 < n) :
    ∃ T' h' L' aQ ps, Stand p l e room_1 s m args below meth c T' L' 9 48 ∧ T'.heap = h' ∧ Fr n0 L' ∧ Keep h h' [] ∧ own_CL Z D h' aQ (ps.map (·.1)) ∧ ps.length ≤ 3 ∧ own_Ds Z h' nU nD ps ∧ (∀ a b, own_val a b ps = own_ex a b n u1 d1 x1 u2 d2 x2 u3 d3 x3) ∧ ∀ target, Steps p.tables e below (T'.setTop (own_B v0 v1 v2 v3 v4 nU nD n u1 d1 u2 d2 u3 d3 x1 x2 x3 m 261 (.val (.ref aU)) (.val (.ref aD)) (.val (.ref aQ)) .unset .unset .unset .unset .unset .unset [])) target → Steps p.tables e below (T.setTop (own_B v0 v1 v2 v3 v4 nU nD n u1 d1 u2 d2 u3 d3 x1 x2 x3 m 172 (.val (.ref aU)) (.val (.ref aD)) .unset .unset .unset .unset .unset .unset .unset [])) target := by
  obtain ⟨T1, h1, X1, e1, E1, A1, D1, -, st1⟩ := newO X hx hZ hown (ow hw 0 rfl) (ow hw 1 rfl) (ow hw 2 rfl) eT (g := (own_B v0 v1 v2 v3 v4 nU nD n u1 d1 u2 d2 u3 d3 x1 x2 x3 m 172 (.val (.ref aU)) (.val (.ref aD)) .unset .unset .unset .unset .unset .unset .unset [])) rfl (hb hby at_172) (by decide) (by decide)
  obtain ⟨aQ, go_aQ⟩ : ∃ z, z = h.size := ⟨_, rfl⟩
  rw [← go_aQ] at A1 D1 st1
  have gh_aQ := (Nat.le_of_eq go_aQ.symm : h.size ≤ aQ)
  have ge_aQ := Nat.le_trans Z0 gh_aQ
  have K2_ := (Keep.refl h []).ext E1
  have A_aQ := (⟨A1, (D1 (Or.inl (ow hw 22 rfl)) (ty := .int) (by decide)), (D1 (Or.inl (ow hw 25 rfl)) (ty := (.array (.object "java/lang/Object"))) (by decide)), (D1 (Or.inl (ow hw 45 rfl)) (ty := .int) (by decide))⟩ : own_Al Z h1 aQ .null 0 0)
  have f4_ := (O.ext E1)
  have Z5_ := (Nat.le_trans Z0 K2_.1)
  obtain ⟨_, _, ⟨T3, L3, k3, n3⟩, -, X3, ⟨Lc3, hQ3, l3, y3, z3⟩, st3⟩ := X1.specialBack hx (y := (⟨"java/util/ArrayList", "<init>", "()V"⟩ : MethodName)) rfl hown (mvT hZ (ow hw 3 rfl)) (mvT hZ (ow hw 4 rfl)) (mvT hZ (ow hw 5 rfl)) (by decide) (backOf (W := 1) (own_alI l Z a0 hw [] G aQ .null 0 0 h1 n0 Z5_ A_aQ ge_aQ f4_) hZ (ow hw 5 rfl) (ow hw 2 rfl) (by decide) (by decide)) (g := (own_B v0 v1 v2 v3 v4 nU nD n u1 d1 u2 d2 u3 d3 x1 x2 x3 m 176 (.val (.ref aU)) (.val (.ref aD)) .unset .unset .unset .unset .unset .unset .unset [(.ref aQ), (.ref aQ)])) rfl (by rw [hml]; rfl) (Steps.refl _) (a := aQ) (argsL := []) (rest := [(.ref aQ)]) (lenOf own_pd0 rfl) rfl (by show 2 * 0 + _ ≤ _; exact Nat.le_of_eq rfl) (hb hby at_176) (fun _ _ => ⟨rfl, e1, (by decide : 5 + 0 ≤ _), (by decide : 29 + 0 ≤ _)⟩)
  dsimp only [Pt.U, Pt.locs, Pt.cells, Pt.slots] at X3 l3 y3 z3 st3 hQ3
  subst l3 y3 z3
  obtain ⟨h3, e3⟩ : ∃ z, T3.heap = z := ⟨_, rfl⟩
  rw [e3] at hQ3
  obtain ⟨rfl, N3, K3, A3⟩ := hQ3
  have N6_ := Fr.app N0 N3
  have K7_ := K2_.trans K3 (allS (Or.inr gh_aQ) all0)
  have lt8_ := A3.1.lt
  obtain ⟨T9, h9, X9, e9, E9, A9, D9, -, st9⟩ := newO X3 hx hZ hown (ow hw 252 rfl) (ow hw 253 rfl) (ow hw 254 rfl) e3 (g := (own_B v0 v1 v2 v3 v4 nU nD n u1 d1 u2 d2 u3 d3 x1 x2 x3 m 188 (.val (.ref aU)) (.val (.ref aD)) (.val (.ref aQ)) .unset .unset .unset .unset .unset .unset [(.ref aQ)])) rfl (hb hby at_188) (by decide) (by decide)
  obtain ⟨y1, go_y1⟩ : ∃ z, z = h3.size := ⟨_, rfl⟩
  rw [← go_y1] at A9 D9 st9
  have gh_y1 := Nat.le_trans K7_.1 (Nat.le_of_eq go_y1.symm)
  have ge_y1 := Nat.le_trans Z0 gh_y1
  have K10_ := K7_.ext E9
  have ne11_ := (Nat.ne_of_lt (Nat.lt_of_lt_of_le lt8_ (Nat.le_of_eq go_y1.symm)) : aQ ≠ y1)
  have D_y1 := (⟨A9, (D9 (Or.inr (ow hw 260 rfl)) (ty := .int) (by decide)), (D9 (Or.inr (ow hw 262 rfl)) (ty := .int) (by decide)), (D9 (Or.inr (ow hw 264 rfl)) (ty := .double) (by decide))⟩ : own_Dm Z h9 y1 0 0 0)
  have Z13_ := (Nat.le_trans Z0 K10_.1)
  obtain ⟨_, _, ⟨T12, L12, k12, n12⟩, -, X12, ⟨Lc12, hQ12, l12, y12, z12⟩, st12⟩ := X9.specialBack hx (y := (⟨"com/example/overweave/overweave/Instance$Demand", "<init>", "(IID)V"⟩ : MethodName)) rfl hown (mvT hZ (ow hw 255 rfl)) (mvT hZ (ow hw 256 rfl)) (mvT hZ (ow hw 257 rfl)) (by decide) (backOf (W := 2) (own_demI l Z a0 hw [] y1 u1 d1 x1 h9 n0 Z13_ D_y1 ge_y1) hZ (ow hw 257 rfl) (ow hw 254 rfl) (by decide) (by decide)) (g := (own_B v0 v1 v2 v3 v4 nU nD n u1 d1 u2 d2 u3 d3 x1 x2 x3 m 198 (.val (.ref aU)) (.val (.ref aD)) (.val (.ref aQ)) .unset .unset .unset .unset .unset .unset [(.double x1), (.int d1), (.int u1), (.ref y1), (.ref y1), (.ref aQ)])) rfl (by rw [hml]; rfl) (Steps.refl _) (a := y1) (argsL := [(.int u1), (.int d1), (.double x1)]) (rest := [(.ref y1), (.ref aQ)]) (lenOf own_pd23 rfl) rfl (by show 2 * 0 + _ ≤ _; exact Nat.le_of_eq rfl) (hb hby at_198) (fun _ _ => ⟨rfl, e9, (by decide : 6 + 0 ≤ _), (by decide : 32 + 0 ≤ _)⟩)
  dsimp only [Pt.U, Pt.locs, Pt.cells, Pt.slots] at X12 l12 y12 z12 st12 hQ12
  subst l12 y12 z12
  obtain ⟨h12, e12⟩ : ∃ z, T12.heap = z := ⟨_, rfl⟩
  rw [e12] at hQ12
  obtain ⟨rfl, N12, K12, A12⟩ := hQ12
  have N14_ := Fr.app N6_ N12
  have K15_ := K10_.trans K12 (allS (Or.inr gh_y1) all0)
  have f16_ := ((A3.1.ext E9).keep K12)
  have f17_ := ((A3.2.1.ext E9).keep K12 (ninS ne11_ nin0))
  have f18_ := ((A3.2.2.1.ext E9).keep K12 (ninS ne11_ nin0))
  have f19_ := ((A3.2.2.2.ext E9).keep K12 (ninS ne11_ nin0))
  have f21_ := (((f4_.keep K3 (allS ge_aQ all0)).ext E9).keep K12 (allS ge_y1 all0))
  have Z22_ := (Nat.le_trans Z0 K15_.1)
  have f23_ := ((A3.1.ext E9).keep K12)
  obtain ⟨cq20, kq20, q20a, q20b, q20c⟩ := isOf hZ e12 f23_
  obtain ⟨_, _, ⟨T20, L20, k20, n20⟩, -, X20, ⟨Lc20, hQ20, l20, y20, z20⟩, st20⟩ := X12.interfaceBack hx (xi := (⟨"java/util/List", "add", "(Ljava/lang/Object;)Z"⟩ : MethodName)) (y := (⟨"java/util/ArrayList", "add", "(Ljava/lang/Object;)Z"⟩ : MethodName)) hown (mvT hZ (ow hw 33 rfl)) (mvT hZ (ow hw 34 rfl)) (mvT hZ (ow hw 35 rfl)) (mvT hZ (ow hw 36 rfl)) (mvT hZ (ow hw 37 rfl)) (mvT hZ (ow hw 38 rfl)) (mvT hZ (ow hw 39 rfl)) (mvT hZ (ow hw 40 rfl)) (by decide) (backOf (W := 0) (own_add_0 l Z a0 hw [] G aQ y1 0 h12 n0 Z22_ ⟨f16_, f17_, f18_, f19_⟩ ge_aQ (Ins.of_exa A12.1 (ow hw 265 rfl)) f21_) hZ (ow hw 41 rfl) (ow hw 2 rfl) (by decide) (by decide)) q20a q20b q20c (g := (own_B v0 v1 v2 v3 v4 nU nD n u1 d1 u2 d2 u3 d3 x1 x2 x3 m 201 (.val (.ref aU)) (.val (.ref aD)) (.val (.ref aQ)) .unset .unset .unset .unset .unset .unset [(.ref y1), (.ref aQ)])) rfl (by rw [hml]; rfl) (Steps.refl _) (argsL := [(.ref y1)]) (rest := []) (lenOf own_pd22 rfl) rfl (by show 2 * 0 + _ ≤ _; exact Nat.le_of_eq rfl) (hb hby at_201) (fun _ _ => ⟨rfl, e12, (by decide : 6 + 1 ≤ _), (by decide : 32 + 10 ≤ _)⟩)
  dsimp only [Pt.U, Pt.locs, Pt.cells, Pt.slots] at X20 l20 y20 z20 st20 hQ20
  subst l20 y20 z20
  obtain ⟨h20, e20⟩ : ∃ z, T20.heap = z := ⟨_, rfl⟩
  rw [e20] at hQ20
  obtain ⟨xxaQ, rfl, N20, K20, g20, A20, B20⟩ := hQ20
  have N24_ := Fr.app N14_ N20
  have K25_ := K15_.trans K20 (allS (Or.inr gh_aQ) all0)
  have gh_xxaQ := Nat.le_trans K15_.1 g20
  have ge_xxaQ := Nat.le_trans Z0 gh_xxaQ
  have ne_axxaQ := ne_exa A20.1 B20.exa (by decide)
  have f26_ := (A12.1.keep K20)
  have ne_y1xxaQ := ne_exa f26_ B20.exa (by decide)
  have lt27_ := A20.1.lt
  have lt28_ := B20.lt
  have lt29_ := f26_.lt
  obtain ⟨T30, h30, X30, e30, E30, A30, D30, -, st30⟩ := newO X20 hx hZ hown (ow hw 252 rfl) (ow hw 253 rfl) (ow hw 254 rfl) e20 (g := (own_B v0 v1 v2 v3 v4 nU nD n u1 d1 u2 d2 u3 d3 x1 x2 x3 m 215 (.val (.ref aU)) (.val (.ref aD)) (.val (.ref aQ)) .unset .unset .unset .unset .unset .unset [(.ref aQ)])) rfl (hb hby at_215) (by decide) (by decide)
  obtain ⟨y2, go_y2⟩ : ∃ z, z = h20.size := ⟨_, rfl⟩
  rw [← go_y2] at A30 D30 st30
  have gh_y2 := Nat.le_trans K25_.1 (Nat.le_of_eq go_y2.symm)
  have ge_y2 := Nat.le_trans Z0 gh_y2
  have K31_ := K25_.ext E30
  have ne32_ := (Nat.ne_of_lt (Nat.lt_of_lt_of_le lt27_ (Nat.le_of_eq go_y2.symm)) : aQ ≠ y2)
  have ne33_ := (Nat.ne_of_lt (Nat.lt_of_lt_of_le lt28_ (Nat.le_of_eq go_y2.symm)) : xxaQ ≠ y2)
  have ne34_ := (Nat.ne_of_lt (Nat.lt_of_lt_of_le lt29_ (Nat.le_of_eq go_y2.symm)) : y1 ≠ y2)
  have D_y2 := (⟨A30, (D30 (Or.inr (ow hw 260 rfl)) (ty := .int) (by decide)), (D30 (Or.inr (ow hw 262 rfl)) (ty := .int) (by decide)), (D30 (Or.inr (ow hw 264 rfl)) (ty := .double) (by decide))⟩ : own_Dm Z h30 y2 0 0 0)
  have Z36_ := (Nat.le_trans Z0 K31_.1)
  obtain ⟨_, _, ⟨T35, L35, k35, n35⟩, -, X35, ⟨Lc35, hQ35, l35, y35, z35⟩, st35⟩ := X30.specialBack hx (y := (⟨"com/example/overweave/overweave/Instance$Demand", "<init>", "(IID)V"⟩ : MethodName)) rfl hown (mvT hZ (ow hw 255 rfl)) (mvT hZ (ow hw 256 rfl)) (mvT hZ (ow hw 257 rfl)) (by decide) (backOf (W := 2) (own_demI l Z a0 hw [] y2 u2 d2 x2 h30 n0 Z36_ D_y2 ge_y2) hZ (ow hw 257 rfl) (ow hw 254 rfl) (by decide) (by decide)) (g := (own_B v0 v1 v2 v3 v4 nU nD n u1 d1 u2 d2 u3 d3 x1 x2 x3 m 225 (.val (.ref aU)) (.val (.ref aD)) (.val (.ref aQ)) .unset .unset .unset .unset .unset .unset [(.double x2), (.int d2), (.int u2), (.ref y2), (.ref y2), (.ref aQ)])) rfl (by rw [hml]; rfl) (Steps.refl _) (a := y2) (argsL := [(.int u2), (.int d2), (.double x2)]) (rest := [(.ref y2), (.ref aQ)]) (lenOf own_pd23 rfl) rfl (by show 2 * 0 + _ ≤ _; exact Nat.le_of_eq rfl) (hb hby at_225) (fun _ _ => ⟨rfl, e30, (by decide : 8 + 0 ≤ _), (by decide : 45 + 0 ≤ _)⟩)
  dsimp only [Pt.U, Pt.locs, Pt.cells, Pt.slots] at X35 l35 y35 z35 st35 hQ35
  subst l35 y35 z35
  obtain ⟨h35, e35⟩ : ∃ z, T35.heap = z := ⟨_, rfl⟩
  rw [e35] at hQ35
  obtain ⟨rfl, N35, K35, A35⟩ := hQ35
  have N37_ := Fr.app N24_ N35
  have K38_ := K31_.trans K35 (allS (Or.inr gh_y2) all0)
  have f39_ := ((A20.1.ext E30).keep K35)
  have f40_ := ((A20.2.1.ext E30).keep K35 (ninS ne32_ nin0))
  have f41_ := ((A20.2.2.1.ext E30).keep K35 (ninS ne32_ nin0))
  have f42_ := ((A20.2.2.2.ext E30).keep K35 (ninS ne32_ nin0))
  have f43_ := ((B20.ext E30).keep K35 (ninS ne33_ nin0))
  have Z45_ := (Nat.le_trans Z0 K38_.1)
  have f46_ := ((A20.1.ext E30).keep K35)
  obtain ⟨cq44, kq44, q44a, q44b, q44c⟩ := isOf hZ e35 f46_
  obtain ⟨_, _, ⟨T44, L44, k44, n44⟩, -, X44, ⟨Lc44, hQ44, l44, y44, z44⟩, st44⟩ := X35.interfaceBack hx (xi := (⟨"java/util/List", "add", "(Ljava/lang/Object;)Z"⟩ : MethodName)) (y := (⟨"java/util/ArrayList", "add", "(Ljava/lang/Object;)Z"⟩ : MethodName)) hown (mvT hZ (ow hw 33 rfl)) (mvT hZ (ow hw 34 rfl)) (mvT hZ (ow hw 35 rfl)) (mvT hZ (ow hw 36 rfl)) (mvT hZ (ow hw 37 rfl)) (mvT hZ (ow hw 38 rfl)) (mvT hZ (ow hw 39 rfl)) (mvT hZ (ow hw 40 rfl)) (by decide) (backOf (W := 0) (own_add_1 l Z a0 hw [] aQ xxaQ y2 (0 + 1) ((List.replicate 10 .null).set 0 (.ref y1)) (by simp) h35 n0 Z45_ ⟨f39_, f40_, f41_, f42_⟩ ge_aQ ge_xxaQ f43_ (Ins.of_exa A35.1 (ow hw 265 rfl))) hZ (ow hw 41 rfl) (ow hw 2 rfl) (by decide) (by decide)) q44a q44b q44c (g := (own_B v0 v1 v2 v3 v4 nU nD n u1 d1 u2 d2 u3 d3 x1 x2 x3 m 228 (.val (.ref aU)) (.val (.ref aD)) (.val (.ref aQ)) .unset .unset .unset .unset .unset .unset [(.ref y2), (.ref aQ)])) rfl (by rw [hml]; rfl) (Steps.refl _) (argsL := [(.ref y2)]) (rest := []) (lenOf own_pd22 rfl) rfl (by show 2 * 0 + _ ≤ _; exact Nat.le_of_eq rfl) (hb hby at_228) (fun _ _ => ⟨rfl, e35, (by decide : 8 + 0 ≤ _), (by decide : 45 + 0 ≤ _)⟩)
  dsimp only [Pt.U, Pt.locs, Pt.cells, Pt.slots] at X44 l44 y44 z44 st44 hQ44
  subst l44 y44 z44
  obtain ⟨h44, e44⟩ : ∃ z, T44.heap = z := ⟨_, rfl⟩
  rw [e44] at hQ44
  obtain ⟨rfl, N44, K44, A44, B44⟩ := hQ44
  have N47_ := Fr.app N37_ N44
  have K48_ := K38_.trans K44 (allS (Or.inr gh_aQ) (allS (Or.inr gh_xxaQ) all0))
  have lt49_ := A44.1.lt
  have lt50_ := B44.lt
  have f52_ := (((f26_.ext E30).keep K35).keep K44)
  have lt51_ := f52_.lt
  have f54_ := (A35.1.keep K44)
  have lt53_ := f54_.lt
  obtain ⟨T55, h55, X55, e55, E55, A55, D55, -, st55⟩ := newO X44 hx hZ hown (ow hw 252 rfl) (ow hw 253 rfl) (ow hw 254 rfl) e44 (g := (own_B v0 v1 v2 v3 v4 nU nD n u1 d1 u2 d2 u3 d3 x1 x2 x3 m 242 (.val (.ref aU)) (.val (.ref aD)) (.val (.ref aQ)) .unset .unset .unset .unset .unset .unset [(.ref aQ)])) rfl (hb hby at_242) (by decide) (by decide)
  obtain ⟨y3, go_y3⟩ : ∃ z, z = h44.size := ⟨_, rfl⟩
  rw [← go_y3] at A55 D55 st55
  have gh_y3 := Nat.le_trans K48_.1 (Nat.le_of_eq go_y3.symm)
  have ge_y3 := Nat.le_trans Z0 gh_y3
  have K56_ := K48_.ext E55
  have ne57_ := (Nat.ne_of_lt (Nat.lt_of_lt_of_le lt49_ (Nat.le_of_eq go_y3.symm)) : aQ ≠ y3)
  have ne58_ := (Nat.ne_of_lt (Nat.lt_of_lt_of_le lt50_ (Nat.le_of_eq go_y3.symm)) : xxaQ ≠ y3)
  have ne59_ := (Nat.ne_of_lt (Nat.lt_of_lt_of_le lt51_ (Nat.le_of_eq go_y3.symm)) : y1 ≠ y3)
  have ne60_ := (Nat.ne_of_lt (Nat.lt_of_lt_of_le lt53_ (Nat.le_of_eq go_y3.symm)) : y2 ≠ y3)
  have D_y3 := (⟨A55, (D55 (Or.inr (ow hw 260 rfl)) (ty := .int) (by decide)), (D55 (Or.inr (ow hw 262 rfl)) (ty := .int) (by decide)), (D55 (Or.inr (ow hw 264 rfl)) (ty := .double) (by decide))⟩ : own_Dm Z h55 y3 0 0 0)
  have Z62_ := (Nat.le_trans Z0 K56_.1)
  obtain ⟨_, _, ⟨T61, L61, k61, n61⟩, -, X61, ⟨Lc61, hQ61, l61, y61, z61⟩, st61⟩ := X55.specialBack hx (y := (⟨"com/example/overweave/overweave/Instance$Demand", "<init>", "(IID)V"⟩ : MethodName)) rfl hown (mvT hZ (ow hw 255 rfl)) (mvT hZ (ow hw 256 rfl)) (mvT hZ (ow hw 257 rfl)) (by decide) (backOf (W := 2) (own_demI l Z a0 hw [] y3 u3 d3 x3 h55 n0 Z62_ D_y3 ge_y3) hZ (ow hw 257 rfl) (ow hw 254 rfl) (by decide) (by decide)) (g := (own_B v0 v1 v2 v3 v4 nU nD n u1 d1 u2 d2 u3 d3 x1 x2 x3 m 252 (.val (.ref aU)) (.val (.ref aD)) (.val (.ref aQ)) .unset .unset .unset .unset .unset .unset [(.double x3), (.int d3), (.int u3), (.ref y3), (.ref y3), (.ref aQ)])) rfl (by rw [hml]; rfl) (Steps.refl _) (a := y3) (argsL := [(.int u3), (.int d3), (.double x3)]) (rest := [(.ref y3), (.ref aQ)]) (lenOf own_pd23 rfl) rfl (by show 2 * 0 + _ ≤ _; exact Nat.le_of_eq rfl) (hb hby at_252) (fun _ _ => ⟨rfl, e55, (by decide : 9 + 0 ≤ _), (by decide : 48 + 0 ≤ _)⟩)
  dsimp only [Pt.U, Pt.locs, Pt.cells, Pt.slots] at X61 l61 y61 z61 st61 hQ61
  subst l61 y61 z61
  obtain ⟨h61, e61⟩ : ∃ z, T61.heap = z := ⟨_, rfl⟩
  rw [e61] at hQ61
  obtain ⟨rfl, N61, K61, A61⟩ := hQ61
  have N63_ := Fr.app N47_ N61
  have K64_ := K56_.trans K61 (allS (Or.inr gh_y3) all0)
  have f65_ := ((A44.1.ext E55).keep K61)
  have f66_ := ((A44.2.1.ext E55).keep K61 (ninS ne57_ nin0))
  have f67_ := ((A44.2.2.1.ext E55).keep K61 (ninS ne57_ nin0))
  have f68_ := ((A44.2.2.2.ext E55).keep K61 (ninS ne57_ nin0))
  have f69_ := ((B44.ext E55).keep K61 (ninS ne58_ nin0))
  have Z71_ := (Nat.le_trans Z0 K64_.1)
  have f72_ := ((A44.1.ext E55).keep K61)
  obtain ⟨cq70, kq70, q70a, q70b, q70c⟩ := isOf hZ e61 f72_
  obtain ⟨_, _, ⟨T70, L70, k70, n70⟩, -, X70, ⟨Lc70, hQ70, l70, y70, z70⟩, st70⟩ := X61.interfaceBack hx (xi := (⟨"java/util/List", "add", "(Ljava/lang/Object;)Z"⟩ : MethodName)) (y := (⟨"java/util/ArrayList", "add", "(Ljava/lang/Object;)Z"⟩ : MethodName)) hown (mvT hZ (ow hw 33 rfl)) (mvT hZ (ow hw 34 rfl)) (mvT hZ (ow hw 35 rfl)) (mvT hZ (ow hw 36 rfl)) (mvT hZ (ow hw 37 rfl)) (mvT hZ (ow hw 38 rfl)) (mvT hZ (ow hw 39 rfl)) (mvT hZ (ow hw 40 rfl)) (by decide) (backOf (W := 0) (own_add_2 l Z a0 hw [] aQ xxaQ y3 ((0 + 1) + 1) (((List.replicate 10 .null).set 0 (.ref y1)).set 1 (.ref y2)) (by simp) h61 n0 Z71_ ⟨f65_, f66_, f67_, f68_⟩ ge_aQ ge_xxaQ f69_ (Ins.of_exa A61.1 (ow hw 265 rfl))) hZ (ow hw 41 rfl) (ow hw 2 rfl) (by decide) (by decide)) q70a q70b q70c (g := (own_B v0 v1 v2 v3 v4 nU nD n u1 d1 u2 d2 u3 d3 x1 x2 x3 m 255 (.val (.ref aU)) (.val (.ref aD)) (.val (.ref aQ)) .unset .unset .unset .unset .unset .unset [(.ref y3), (.ref aQ)])) rfl (by rw [hml]; rfl) (Steps.refl _) (argsL := [(.ref y3)]) (rest := []) (lenOf own_pd22 rfl) rfl (by show 2 * 0 + _ ≤ _; exact Nat.le_of_eq rfl) (hb hby at_255) (fun _ _ => ⟨rfl, e61, (by decide : 9 + 0 ≤ _), (by decide : 48 + 0 ≤ _)⟩)
  dsimp only [Pt.U, Pt.locs, Pt.cells, Pt.slots] at X70 l70 y70 z70 st70 hQ70
  subst l70 y70 z70
  obtain ⟨h70, e70⟩ : ∃ z, T70.heap = z := ⟨_, rfl⟩
  rw [e70] at hQ70
  obtain ⟨rfl, N70, K70, A70, B70⟩ := hQ70
  have N73_ := Fr.app N63_ N70
  have K74_ := K64_.trans K70 (allS (Or.inr gh_aQ) (allS (Or.inr gh_xxaQ) all0))
  have f75_ := (((f52_.ext E55).keep K61).keep K70)
  have f76_ := (((((((A12.2.1.keep K20 (ninS (Ne.symm ne11_) nin0)).ext E30).keep K35 (ninS ne34_ nin0)).keep K44 (ninS (Ne.symm ne11_) (ninS ne_y1xxaQ nin0))).ext E55).keep K61 (ninS ne59_ nin0)).keep K70 (ninS (Ne.symm ne11_) (ninS ne_y1xxaQ nin0)))
  have f77_ := (((((((A12.2.2.1.keep K20 (ninS (Ne.symm ne11_) nin0)).ext E30).keep K35 (ninS ne34_ nin0)).keep K44 (ninS (Ne.symm ne11_) (ninS ne_y1xxaQ nin0))).ext E55).keep K61 (ninS ne59_ nin0)).keep K70 (ninS (Ne.symm ne11_) (ninS ne_y1xxaQ nin0)))
  have f78_ := (((((((A12.2.2.2.keep K20 (ninS (Ne.symm ne11_) nin0)).ext E30).keep K35 (ninS ne34_ nin0)).keep K44 (ninS (Ne.symm ne11_) (ninS ne_y1xxaQ nin0))).ext E55).keep K61 (ninS ne59_ nin0)).keep K70 (ninS (Ne.symm ne11_) (ninS ne_y1xxaQ nin0)))
  have f79_ := (((f54_.ext E55).keep K61).keep K70)
  have f80_ := ((((A35.2.1.keep K44 (ninS (Ne.symm ne32_) (ninS (Ne.symm ne33_) nin0))).ext E55).keep K61 (ninS ne60_ nin0)).keep K70 (ninS (Ne.symm ne32_) (ninS (Ne.symm ne33_) nin0)))
  have f81_ := ((((A35.2.2.1.keep K44 (ninS (Ne.symm ne32_) (ninS (Ne.symm ne33_) nin0))).ext E55).keep K61 (ninS ne60_ nin0)).keep K70 (ninS (Ne.symm ne32_) (ninS (Ne.symm ne33_) nin0)))
  have f82_ := ((((A35.2.2.2.keep K44 (ninS (Ne.symm ne32_) (ninS (Ne.symm ne33_) nin0))).ext E55).keep K61 (ninS ne60_ nin0)).keep K70 (ninS (Ne.symm ne32_) (ninS (Ne.symm ne33_) nin0)))
  have f83_ := (A61.1.keep K70)
  have f84_ := (A61.2.1.keep K70 (ninS (Ne.symm ne57_) (ninS (Ne.symm ne58_) nin0)))
  have f85_ := (A61.2.2.1.keep K70 (ninS (Ne.symm ne57_) (ninS (Ne.symm ne58_) nin0)))
  have f86_ := (A61.2.2.2.keep K70 (ninS (Ne.symm ne57_) (ninS (Ne.symm ne58_) nin0)))
  have CL_ : own_CL Z D h70 aQ [y1, y2, y3] := ⟨_, _, List.replicate 7 .null, ⟨A70.1, A70.2.1, A70.2.2.1, A70.2.2.2⟩, B70, Ins.of_exa f75_ (ow hw 265 rfl), Ins.of_exa f79_ (ow hw 265 rfl), Ins.of_exa f83_ (ow hw 265 rfl)⟩
  have DM1 : own_Dm Z h70 y1 u1 d1 x1 := ⟨f75_, f76_, f77_, f78_⟩
  have DM2 : own_Dm Z h70 y2 u2 d2 x2 := ⟨f79_, f80_, f81_, f82_⟩
  have DM3 : own_Dm Z h70 y3 u3 d3 x3 := ⟨f83_, f84_, f85_, f86_⟩
  have DS_ : own_Ds Z h70 nU nD [(y1, u1, d1, x1), (y2, u2, d2, x2), (y3, u3, d3, x3)] := fun q hq => by
    simp only [List.mem_cons, List.not_mem_nil, or_false] at hq
    rcases hq with rfl | rfl | rfl
    · exact ⟨DM1, r1, t1, M1⟩
    · exact ⟨DM2, r2, t2, M2⟩
    · exact ⟨DM3, r3, t3, M3⟩
  have VL_ : ∀ a b, own_val a b [(y1, u1, d1, x1), (y2, u2, d2, x2), (y3, u3, d3, x3)] = own_ex a b n u1 d1 x1 u2 d2 x2 u3 d3 x3 := fun a b => by
    unfold own_ex own_e1
    rw [if_pos H3, if_pos H2, if_pos H1]
    rfl
  refine ⟨T70, h70, _, aQ, [(y1, u1, d1, x1), (y2, u2, d2, x2), (y3, u3, d3, x3)], (X70.more (by decide) (by decide)), e70, N73_, K74_, CL_, (by simp), DS_, VL_, fun target k' => ?_⟩
  show Steps _ _ _ (T.setTop (own_B v0 v1 v2 v3 v4 nU nD n u1 d1 u2 d2 u3 d3 x1 x2 x3 m 172 (.val (.ref aU)) (.val (.ref aD)) .unset .unset .unset .unset .unset .unset .unset [])) _
  refine st1 _ ?_
  refine XS.dup X1.here hx rfl (hb hby at_175) rfl rfl ?_
  show Steps _ _ _ (T1.setTop (own_B v0 v1 v2 v3 v4 nU nD n u1 d1 u2 d2 u3 d3 x1 x2 x3 m 176 (.val (.ref aU)) (.val (.ref aD)) .unset .unset .unset .unset .unset .unset .unset [(.ref aQ), (.ref aQ)])) _
  refine st3.trans ?_
  show Steps _ _ _ (T3.setTop (own_B v0 v1 v2 v3 v4 nU nD n u1 d1 u2 d2 u3 d3 x1 x2 x3 m 179 (.val (.ref aU)) (.val (.ref aD)) .unset .unset .unset .unset .unset .unset .unset [(.ref aQ)])) _
  refine XS.astore X3.here hx rfl (hb hby at_179) rfl rfl rfl ?_
  refine XS.iload X3.here hx rfl (hb hby at_181) rfl ?_
  show Steps _ _ _ (T3.setTop (own_B v0 v1 v2 v3 v4 nU nD n u1 d1 u2 d2 u3 d3 x1 x2 x3 m 183 (.val (.ref aU)) (.val (.ref aD)) (.val (.ref aQ)) .unset .unset .unset .unset .unset .unset [(.int n)])) _
  refine XS.ifNo X3.here hx rfl (hb hby at_183) rfl (XT.i0_le_f H1) ?_
  refine XS.aload X3.here hx rfl (hb hby at_186) rfl rfl ?_
  show Steps _ _ _ (T3.setTop (own_B v0 v1 v2 v3 v4 nU nD n u1 d1 u2 d2 u3 d3 x1 x2 x3 m 188 (.val (.ref aU)) (.val (.ref aD)) (.val (.ref aQ)) .unset .unset .unset .unset .unset .unset [(.ref aQ)])) _
  refine st9 _ ?_
  refine XS.dup X9.here hx rfl (hb hby at_191) rfl rfl ?_
  refine XS.iload X9.here hx rfl (hb hby at_192) rfl ?_
  refine XS.iload X9.here hx rfl (hb hby at_194) rfl ?_
  refine XS.dload X9.here hx rfl (hb hby at_196) rfl ?_
  show Steps _ _ _ (T9.setTop (own_B v0 v1 v2 v3 v4 nU nD n u1 d1 u2 d2 u3 d3 x1 x2 x3 m 198 (.val (.ref aU)) (.val (.ref aD)) (.val (.ref aQ)) .unset .unset .unset .unset .unset .unset [(.double x1), (.int d1), (.int u1), (.ref y1), (.ref y1), (.ref aQ)])) _
  refine st12.trans ?_
  show Steps _ _ _ (T12.setTop (own_B v0 v1 v2 v3 v4 nU nD n u1 d1 u2 d2 u3 d3 x1 x2 x3 m 201 (.val (.ref aU)) (.val (.ref aD)) (.val (.ref aQ)) .unset .unset .unset .unset .unset .unset [(.ref y1), (.ref aQ)])) _
  refine st20.trans ?_
  show Steps _ _ _ (T20.setTop (own_B v0 v1 v2 v3 v4 nU nD n u1 d1 u2 d2 u3 d3 x1 x2 x3 m 206 (.val (.ref aU)) (.val (.ref aD)) (.val (.ref aQ)) .unset .unset .unset .unset .unset .unset [(.int 1)])) _
  refine XT.pop X20.here hx rfl (hb hby at_206) rfl rfl ?_
  refine XS.iload X20.here hx rfl (hb hby at_207) rfl ?_
  refine XT.iconstV X20.here hx rfl 1 (hb hby at_209) rfl ?_
  show Steps _ _ _ (T20.setTop (own_B v0 v1 v2 v3 v4 nU nD n u1 d1 u2 d2 u3 d3 x1 x2 x3 m 210 (.val (.ref aU)) (.val (.ref aD)) (.val (.ref aQ)) .unset .unset .unset .unset .unset .unset [(.int 1), (.int n)])) _
  refine XS.icmpNo X20.here hx rfl (hb hby at_210) rfl (XT.ii_le_f H2) ?_
  refine XS.aload X20.here hx rfl (hb hby at_213) rfl rfl ?_
  show Steps _ _ _ (T20.setTop (own_B v0 v1 v2 v3 v4 nU nD n u1 d1 u2 d2 u3 d3 x1 x2 x3 m 215 (.val (.ref aU)) (.val (.ref aD)) (.val (.ref aQ)) .unset .unset .unset .unset .unset .unset [(.ref aQ)])) _
  refine st30 _ ?_
  refine XS.dup X30.here hx rfl (hb hby at_218) rfl rfl ?_
  refine XS.iload X30.here hx rfl (hb hby at_219) rfl ?_
  refine XS.iload X30.here hx rfl (hb hby at_221) rfl ?_
  refine XS.dload X30.here hx rfl (hb hby at_223) rfl ?_
  show Steps _ _ _ (T30.setTop (own_B v0 v1 v2 v3 v4 nU nD n u1 d1 u2 d2 u3 d3 x1 x2 x3 m 225 (.val (.ref aU)) (.val (.ref aD)) (.val (.ref aQ)) .unset .unset .unset .unset .unset .unset [(.double x2), (.int d2), (.int u2), (.ref y2), (.ref y2), (.ref aQ)])) _
  refine st35.trans ?_
  show Steps _ _ _ (T35.setTop (own_B v0 v1 v2 v3 v4 nU nD n u1 d1 u2 d2 u3 d3 x1 x2 x3 m 228 (.val (.ref aU)) (.val (.ref aD)) (.val (.ref aQ)) .unset .unset .unset .unset .unset .unset [(.ref y2), (.ref aQ)])) _
  refine st44.trans ?_
  show Steps _ _ _ (T44.setTop (own_B v0 v1 v2 v3 v4 nU nD n u1 d1 u2 d2 u3 d3 x1 x2 x3 m 233 (.val (.ref aU)) (.val (.ref aD)) (.val (.ref aQ)) .unset .unset .unset .unset .unset .unset [(.int 1)])) _
  refine XT.pop X44.here hx rfl (hb hby at_233) rfl rfl ?_
  refine XS.iload X44.here hx rfl (hb hby at_234) rfl ?_
  refine XT.iconstV X44.here hx rfl 2 (hb hby at_236) rfl ?_
  show Steps _ _ _ (T44.setTop (own_B v0 v1 v2 v3 v4 nU nD n u1 d1 u2 d2 u3 d3 x1 x2 x3 m 237 (.val (.ref aU)) (.val (.ref aD)) (.val (.ref aQ)) .unset .unset .unset .unset .unset .unset [(.int 2), (.int n)])) _
  refine XS.icmpNo X44.here hx rfl (hb hby at_237) rfl (XT.ii_le_f H3) ?_
  refine XS.aload X44.here hx rfl (hb hby at_240) rfl rfl ?_
  show Steps _ _ _ (T44.setTop (own_B v0 v1 v2 v3 v4 nU nD n u1 d1 u2 d2 u3 d3 x1 x2 x3 m 242 (.val (.ref aU)) (.val (.ref aD)) (.val (.ref aQ)) .unset .unset .unset .unset .unset .unset [(.ref aQ)])) _
  refine st55 _ ?_
  refine XS.dup X55.here hx rfl (hb hby at_245) rfl rfl ?_
  refine XS.iload X55.here hx rfl (hb hby at_246) rfl ?_
  refine XS.iload X55.here hx rfl (hb hby at_248) rfl ?_
  refine XS.dload X55.here hx rfl (hb hby at_250) rfl ?_
  show Steps _ _ _ (T55.setTop (own_B v0 v1 v2 v3 v4 nU nD n u1 d1 u2 d2 u3 d3 x1 x2 x3 m 252 (.val (.ref aU)) (.val (.ref aD)) (.val (.ref aQ)) .unset .unset .unset .unset .unset .unset [(.double x3), (.int d3), (.int u3), (.ref y3), (.ref y3), (.ref aQ)])) _
  refine st61.trans ?_
  show Steps _ _ _ (T61.setTop (own_B v0 v1 v2 v3 v4 nU nD n u1 d1 u2 d2 u3 d3 x1 x2 x3 m 255 (.val (.ref aU)) (.val (.ref aD)) (.val (.ref aQ)) .unset .unset .unset .unset .unset .unset [(.ref y3), (.ref aQ)])) _
  refine st70.trans ?_
  show Steps _ _ _ (T70.setTop (own_B v0 v1 v2 v3 v4 nU nD n u1 d1 u2 d2 u3 d3 x1 x2 x3 m 260 (.val (.ref aU)) (.val (.ref aD)) (.val (.ref aQ)) .unset .unset .unset .unset .unset .unset [(.int 1)])) _
  refine XT.pop X70.here hx rfl (hb hby at_260) rfl rfl ?_
  show Steps _ _ _ (T70.setTop (own_B v0 v1 v2 v3 v4 nU nD n u1 d1 u2 d2 u3 d3 x1 x2 x3 m 261 (.val (.ref aU)) (.val (.ref aD)) (.val (.ref aQ)) .unset .unset .unset .unset .unset .unset [])) _
  exact k'
theorem own_n (X : Stand p l e room_1 s m args below meth c T locs 9 48) (hx : p.tables.exec = Jvm.exec) (hZ : Z.Warmed39 s.vm) (hw : ∀ d ∈ tables_1, d.before a0 Z = true) {D IC EL EE EM MO b0 b1 : Addr} {cD cI cE : Cell} (G : own_G Z D IC EL EE EM MO b0 b1 cD cI cE) (hby : c.code = code) (hml : c.maxLocals = 29) (hown : s.vm.findClass "com/example/overweave/overweave/InstanceTrafficPinLaw" = some m.cls) (eT : T.heap = h) (N0 : Fr n0 locs) (Z0 : n0 ≤ h.size) (O : Old Z n0 h) {v0 v1 v2 v3 v4 nU nD n u1 d1 u2 d2 u3 d3 : Int32} {x1 x2 x3 : UInt64} {aU aD aQ : Addr} :
    ∃ T' h' L' o, Stand p l e room_1 s m args below meth c T' L' 10 54 ∧ T'.heap = h' ∧ Fr n0 L' ∧ Keep h h' [] ∧ h.size ≤ o ∧ own_In0 Z h' o ∧ ∀ target, Steps p.tables e below (T'.setTop (own_B v0 v1 v2 v3 v4 nU nD n u1 d1 u2 d2 u3 d3 x1 x2 x3 m 265 (.val (.ref aU)) (.val (.ref aD)) (.val (.ref aQ)) .unset .unset .unset .unset .unset .unset [(.ref o), (.ref o)])) target → Steps p.tables e below (T.setTop (own_B v0 v1 v2 v3 v4 nU nD n u1 d1 u2 d2 u3 d3 x1 x2 x3 m 261 (.val (.ref aU)) (.val (.ref aD)) (.val (.ref aQ)) .unset .unset .unset .unset .unset .unset [])) target := by
  obtain ⟨T1, h1, X1, e1, E1, A1, D1, -, st1⟩ := newO X hx hZ hown (ow hw 68 rfl) (ow hw 69 rfl) (ow hw 70 rfl) eT (g := (own_B v0 v1 v2 v3 v4 nU nD n u1 d1 u2 d2 u3 d3 x1 x2 x3 m 261 (.val (.ref aU)) (.val (.ref aD)) (.val (.ref aQ)) .unset .unset .unset .unset .unset .unset [])) rfl (hb hby at_261) (by decide) (by decide)
  obtain ⟨o, go_o⟩ : ∃ z, z = h.size := ⟨_, rfl⟩
  rw [← go_o] at A1 D1 st1
  have gh_o := (Nat.le_of_eq go_o.symm : h.size ≤ o)
  have ge_o := Nat.le_trans Z0 gh_o
  have K2_ := (Keep.refl h []).ext E1
  have I_o := (⟨A1, (D1 (Or.inr (ow hw 84 rfl)) (ty := (.object "java/lang/String")) (by decide)), (D1 (Or.inr (ow hw 113 rfl)) (ty := (.object "java/util/List")) (by decide)), (D1 (Or.inr (ow hw 178 rfl)) (ty := (.object "java/util/List")) (by decide)), (D1 (Or.inr (ow hw 180 rfl)) (ty := (.object "java/util/List")) (by decide)), (D1 (Or.inr (ow hw 182 rfl)) (ty := (.object "java/util/List")) (by decide)), (D1 (Or.inr (ow hw 184 rfl)) (ty := (.object "java/util/List")) (by decide))⟩ : own_In0 Z h1 o)
  refine ⟨T1, h1, _, o, X1, e1, N0, K2_, gh_o, I_o, fun target k' => ?_⟩
  show Steps _ _ _ (T.setTop (own_B v0 v1 v2 v3 v4 nU nD n u1 d1 u2 d2 u3 d3 x1 x2 x3 m 261 (.val (.ref aU)) (.val (.ref aD)) (.val (.ref aQ)) .unset .unset .unset .unset .unset .unset [])) _
  refine st1 _ ?_
  refine XS.dup X1.here hx rfl (hb hby at_264) rfl rfl ?_
  show Steps _ _ _ (T1.setTop (own_B v0 v1 v2 v3 v4 nU nD n u1 d1 u2 d2 u3 d3 x1 x2 x3 m 265 (.val (.ref aU)) (.val (.ref aD)) (.val (.ref aQ)) .unset .unset .unset .unset .unset .unset [(.ref o), (.ref o)])) _
  exact k'
theorem own_pd24 : parseMethodDescriptor "(Ljava/lang/String;Ljava/util/List;Ljava/util/List;Ljava/util/List;Ljava/util/List;Ljava/util/List;)V" = some ⟨[(.object "java/lang/String"), (.object "java/util/List"), (.object "java/util/List"), (.object "java/util/List"), (.object "java/util/List"), (.object "java/util/List")], none⟩ := by decide +kernel
theorem own_i (X : Stand p l e room_1 s m args below meth c T locs 12 62) (hx : p.tables.exec = Jvm.exec) (hZ : Z.Warmed39 s.vm) (hw : ∀ d ∈ tables_1, d.before a0 Z = true) {D IC EL EE EM MO b0 b1 : Addr} {cD cI cE : Cell} (G : own_G Z D IC EL EE EM MO b0 b1 cD cI cE) (hby : c.code = code) (hml : c.maxLocals = 29) (hown : s.vm.findClass "com/example/overweave/overweave/InstanceTrafficPinLaw" = some m.cls) (eT : T.heap = h) (N0 : Fr n0 locs) (Z0 : n0 ≤ h.size) (O : Old Z n0 h) {v0 v1 v2 v3 v4 nU nD n u1 d1 u2 d2 u3 d3 : Int32} {x1 x2 x3 : UInt64} {st o aU aD aQ : Addr} {us ds qs : List Addr} (hU : ∀ y ∈ us, y ≠ EM) (hD : ∀ y ∈ ds, y ≠ EM) (hQ : ∀ y ∈ qs, y ≠ EM) (I : own_In0 Z h o) (go : n0 ≤ o) (C2 : own_CL Z D h aU us) (C3 : own_CL Z D h aD ds) (C5 : own_CL Z D h aQ qs) :
    ∃ T' h' L' ru rd rq, Stand p l e room_1 s m args below meth c T' L' 34 148 ∧ T'.heap = h' ∧ Fr n0 L' ∧ Keep h h' [o] ∧ own_In Z h' o ru rd rq ∧ own_IL Z EL EM h' ru us ∧ own_IL Z EL EM h' rd ds ∧ own_IL Z EL EM h' rq qs ∧ ∀ target, Steps p.tables e below (T'.setTop (own_B v0 v1 v2 v3 v4 nU nD n u1 d1 u2 d2 u3 d3 x1 x2 x3 m 292 (.val (.ref aU)) (.val (.ref aD)) (.val (.ref aQ)) (.val (.ref o)) .unset .unset .unset .unset .unset [])) target → Steps p.tables e below (T.setTop (own_B v0 v1 v2 v3 v4 nU nD n u1 d1 u2 d2 u3 d3 x1 x2 x3 m 267 (.val (.ref aU)) (.val (.ref aD)) (.val (.ref aQ)) .unset .unset .unset .unset .unset .unset [(.ref st), (.ref o), (.ref o)])) target := by
  have lto := I.1.lt
  have lt1_ := I.1.lt
  obtain ⟨T2, h2, X2, e2, E2, A2, D2, -, st2⟩ := newO X hx hZ hown (ow hw 0 rfl) (ow hw 1 rfl) (ow hw 2 rfl) eT (g := (own_B v0 v1 v2 v3 v4 nU nD n u1 d1 u2 d2 u3 d3 x1 x2 x3 m 267 (.val (.ref aU)) (.val (.ref aD)) (.val (.ref aQ)) .unset .unset .unset .unset .unset .unset [(.ref st), (.ref o), (.ref o)])) rfl (hb hby at_267) (by decide) (by decide)
  obtain ⟨aS, go_aS⟩ : ∃ z, z = h.size := ⟨_, rfl⟩
  rw [← go_aS] at A2 D2 st2
  have gh_aS := (Nat.le_of_eq go_aS.symm : h.size ≤ aS)
  have ge_aS := Nat.le_trans Z0 gh_aS
  have J3_ := (Keep.refl h []).ext E2
  have K4_ := (Keep.refl h [o]).ext E2
  have A_aS := (⟨A2, (D2 (Or.inl (ow hw 22 rfl)) (ty := .int) (by decide)), (D2 (Or.inl (ow hw 25 rfl)) (ty := (.array (.object "java/lang/Object"))) (by decide)), (D2 (Or.inl (ow hw 45 rfl)) (ty := .int) (by decide))⟩ : own_Al Z h2 aS .null 0 0)
  have ne5_ := (Nat.ne_of_lt (Nat.lt_of_lt_of_le lt1_ (Nat.le_of_eq go_aS.symm)) : o ≠ aS)
  have f7_ := (O.ext E2)
  have Z8_ := (Nat.le_trans Z0 K4_.1)
  obtain ⟨_, _, ⟨T6, L6, k6, n6⟩, -, X6, ⟨Lc6, hQ6, l6, y6, z6⟩, st6⟩ := X2.specialBack hx (y := (⟨"java/util/ArrayList", "<init>", "()V"⟩ : MethodName)) rfl hown (mvT hZ (ow hw 3 rfl)) (mvT hZ (ow hw 4 rfl)) (mvT hZ (ow hw 5 rfl)) (by decide) (backOf (W := 4) (own_alI l Z a0 hw [] G aS .null 0 0 h2 n0 Z8_ A_aS ge_aS f7_) hZ (ow hw 5 rfl) (ow hw 2 rfl) (by decide) (by decide)) (g := (own_B v0 v1 v2 v3 v4 nU nD n u1 d1 u2 d2 u3 d3 x1 x2 x3 m 271 (.val (.ref aU)) (.val (.ref aD)) (.val (.ref aQ)) .unset .unset .unset .unset .unset .unset [(.ref aS), (.ref aS), (.ref st), (.ref o), (.ref o)])) rfl (by rw [hml]; rfl) (Steps.refl _) (a := aS) (argsL := []) (rest := [(.ref aS), (.ref st), (.ref o), (.ref o)]) (lenOf own_pd0 rfl) rfl (by show 2 * 0 + _ ≤ _; exact Nat.le_of_eq rfl) (hb hby at_271) (fun _ _ => ⟨rfl, e2, (by decide : 13 + 0 ≤ _), (by decide : 65 + 0 ≤ _)⟩)
  dsimp only [Pt.U, Pt.locs, Pt.cells, Pt.slots] at X6 l6 y6 z6 st6 hQ6
  subst l6 y6 z6
  obtain ⟨h6, e6⟩ : ∃ z, T6.heap = z := ⟨_, rfl⟩
  rw [e6] at hQ6
  obtain ⟨rfl, N6, K6, A6⟩ := hQ6
  have N9_ := Fr.app N0 N6
  have j10_ := gh_aS
  have J11_ := J3_.trans K6 (allS (Or.inr j10_) all0)
  have K12_ := K4_.trans K6 (allS (Or.inr gh_aS) all0)
  have f14_ := ((I.1.ext E2).keep K6)
  have lt13_ := f14_.lt
  have lt15_ := A6.1.lt
  obtain ⟨T16, h16, X16, e16, E16, A16, D16, -, st16⟩ := newO X6 hx hZ hown (ow hw 0 rfl) (ow hw 1 rfl) (ow hw 2 rfl) e6 (g := (own_B v0 v1 v2 v3 v4 nU nD n u1 d1 u2 d2 u3 d3 x1 x2 x3 m 278 (.val (.ref aU)) (.val (.ref aD)) (.val (.ref aQ)) .unset .unset .unset .unset .unset .unset [(.ref aD), (.ref aU), (.ref aS), (.ref st), (.ref o), (.ref o)])) rfl (hb hby at_278) (by decide) (by decide)
  obtain ⟨aK, go_aK⟩ : ∃ z, z = h6.size := ⟨_, rfl⟩
  rw [← go_aK] at A16 D16 st16
  have gh_aK := Nat.le_trans K12_.1 (Nat.le_of_eq go_aK.symm)
  have ge_aK := Nat.le_trans Z0 gh_aK
  have J17_ := J11_.ext E16
  have K18_ := K12_.ext E16
  have A_aK := (⟨A16, (D16 (Or.inl (ow hw 22 rfl)) (ty := .int) (by decide)), (D16 (Or.inl (ow hw 25 rfl)) (ty := (.array (.object "java/lang/Object"))) (by decide)), (D16 (Or.inl (ow hw 45 rfl)) (ty := .int) (by decide))⟩ : own_Al Z h16 aK .null 0 0)
  have ne19_ := (Nat.ne_of_lt (Nat.lt_of_lt_of_le lt13_ (Nat.le_of_eq go_aK.symm)) : o ≠ aK)
  have ne20_ := (Nat.ne_of_lt (Nat.lt_of_lt_of_le lt15_ (Nat.le_of_eq go_aK.symm)) : aS ≠ aK)
  have f22_ := ((f7_.keep K6 (allS ge_aS all0)).ext E16)
  have Z23_ := (Nat.le_trans Z0 K18_.1)
  obtain ⟨_, _, ⟨T21, L21, k21, n21⟩, -, X21, ⟨Lc21, hQ21, l21, y21, z21⟩, st21⟩ := X16.specialBack hx (y := (⟨"java/util/ArrayList", "<init>", "()V"⟩ : MethodName)) rfl hown (mvT hZ (ow hw 3 rfl)) (mvT hZ (ow hw 4 rfl)) (mvT hZ (ow hw 5 rfl)) (by decide) (backOf (W := 7) (own_alI l Z a0 hw [] G aK .null 0 0 h16 n0 Z23_ A_aK ge_aK f22_) hZ (ow hw 5 rfl) (ow hw 2 rfl) (by decide) (by decide)) (g := (own_B v0 v1 v2 v3 v4 nU nD n u1 d1 u2 d2 u3 d3 x1 x2 x3 m 282 (.val (.ref aU)) (.val (.ref aD)) (.val (.ref aQ)) .unset .unset .unset .unset .unset .unset [(.ref aK), (.ref aK), (.ref aD), (.ref aU), (.ref aS), (.ref st), (.ref o), (.ref o)])) rfl (by rw [hml]; rfl) (Steps.refl _) (a := aK) (argsL := []) (rest := [(.ref aK), (.ref aD), (.ref aU), (.ref aS), (.ref st), (.ref o), (.ref o)]) (lenOf own_pd0 rfl) rfl (by show 2 * 0 + _ ≤ _; exact Nat.le_of_eq rfl) (hb hby at_282) (fun _ _ => ⟨rfl, e16, (by decide : 14 + 0 ≤ _), (by decide : 68 + 0 ≤ _)⟩)
  dsimp only [Pt.U, Pt.locs, Pt.cells, Pt.slots] at X21 l21 y21 z21 st21 hQ21
  subst l21 y21 z21
  obtain ⟨h21, e21⟩ : ∃ z, T21.heap = z := ⟨_, rfl⟩
  rw [e21] at hQ21
  obtain ⟨rfl, N21, K21, A21⟩ := hQ21
  have N24_ := Fr.app N9_ N21
  have j25_ := gh_aK
  have J26_ := J17_.trans K21 (allS (Or.inr j25_) all0)
  have K27_ := K18_.trans K21 (allS (Or.inr gh_aK) all0)
  have f28_ := ((A6.1.ext E16).keep K21)
  have f29_ := ((A6.2.1.ext E16).keep K21 (ninS ne20_ nin0))
  have f30_ := ((A6.2.2.1.ext E16).keep K21 (ninS ne20_ nin0))
  have f31_ := ((A6.2.2.2.ext E16).keep K21 (ninS ne20_ nin0))
  have f32_ := ((f14_.ext E16).keep K21)
  have f33_ := ((((I.2.1.ext E2).keep K6 (ninS ne5_ nin0)).ext E16).keep K21 (ninS ne19_ nin0))
  have f34_ := ((((I.2.2.1.ext E2).keep K6 (ninS ne5_ nin0)).ext E16).keep K21 (ninS ne19_ nin0))
  have f35_ := ((((I.2.2.2.1.ext E2).keep K6 (ninS ne5_ nin0)).ext E16).keep K21 (ninS ne19_ nin0))
  have f36_ := ((((I.2.2.2.2.1.ext E2).keep K6 (ninS ne5_ nin0)).ext E16).keep K21 (ninS ne19_ nin0))
  have f37_ := ((((I.2.2.2.2.2.1.ext E2).keep K6 (ninS ne5_ nin0)).ext E16).keep K21 (ninS ne19_ nin0))
  have f38_ := ((((I.2.2.2.2.2.2.ext E2).keep K6 (ninS ne5_ nin0)).ext E16).keep K21 (ninS ne19_ nin0))
  have K0_ : Keep h h21 [] := J26_
  have f40_ := (f22_.keep K21 (allS ge_aK all0))
  have Z41_ := (Nat.le_trans Z0 K27_.1)
  obtain ⟨_, _, ⟨T39, L39, k39, n39⟩, -, X39, ⟨Lc39, hQ39, l39, y39, z39⟩, st39⟩ := X21.specialBack hx (y := (⟨"com/example/overweave/overweave/Instance", "<init>", "(Ljava/lang/String;Ljava/util/List;Ljava/util/List;Ljava/util/List;Ljava/util/List;Ljava/util/List;)V"⟩ : MethodName)) rfl hown (mvT hZ (ow hw 79 rfl)) (mvT hZ (ow hw 80 rfl)) (mvT hZ (ow hw 81 rfl)) (by decide) (backOf (W := 1) (own_insI l Z a0 hw [] G o st aS aU aD aK aQ us ds qs hU hD hQ h21 n0 Z41_ ⟨f32_, f33_, f34_, f35_, f36_, f37_, f38_⟩ go (⟨0, ⟨f28_, f29_, f30_, f31_⟩⟩ : own_CL Z D h21 aS []) (C2.keep K0_) (C3.keep K0_) (⟨0, ⟨A21.1, A21.2.1, A21.2.2.1, A21.2.2.2⟩⟩ : own_CL Z D h21 aK []) (C5.keep K0_) f40_) hZ (ow hw 81 rfl) (ow hw 70 rfl) (by decide) (by decide)) (g := (own_B v0 v1 v2 v3 v4 nU nD n u1 d1 u2 d2 u3 d3 x1 x2 x3 m 287 (.val (.ref aU)) (.val (.ref aD)) (.val (.ref aQ)) .unset .unset .unset .unset .unset .unset [(.ref aQ), (.ref aK), (.ref aD), (.ref aU), (.ref aS), (.ref st), (.ref o), (.ref o)])) rfl (by rw [hml]; rfl) (Steps.refl _) (a := o) (argsL := [(.ref st), (.ref aS), (.ref aU), (.ref aD), (.ref aK), (.ref aQ)]) (rest := [(.ref o)]) (lenOf own_pd24 rfl) rfl (by show 2 * 0 + _ ≤ _; exact Nat.le_of_eq rfl) (hb hby at_287) (fun _ _ => ⟨rfl, e21, (by decide : 14 + 20 ≤ _), (by decide : 68 + 80 ≤ _)⟩)
  dsimp only [Pt.U, Pt.locs, Pt.cells, Pt.slots] at X39 l39 y39 z39 st39 hQ39
  subst l39 y39 z39
  obtain ⟨h39, e39⟩ : ∃ z, T39.heap = z := ⟨_, rfl⟩
  rw [e39] at hQ39
  obtain ⟨rfl, N39, K39, ru, rd, rq, I39, IU39, ID39, IQ39⟩ := hQ39
  have N42_ := Fr.app N24_ N39
  have K43_ := K27_.trans K39 (allS (Or.inl (List.mem_of_getElem? (i := 0) rfl)) all0)
  refine ⟨T39, h39, _, ru, rd, rq, X39, e39, N42_, K43_, I39, IU39, ID39, IQ39, fun target k' => ?_⟩
  show Steps _ _ _ (T.setTop (own_B v0 v1 v2 v3 v4 nU nD n u1 d1 u2 d2 u3 d3 x1 x2 x3 m 267 (.val (.ref aU)) (.val (.ref aD)) (.val (.ref aQ)) .unset .unset .unset .unset .unset .unset [(.ref st), (.ref o), (.ref o)])) _
  refine st2 _ ?_
  refine XS.dup X2.here hx rfl (hb hby at_270) rfl rfl ?_
  show Steps _ _ _ (T2.setTop (own_B v0 v1 v2 v3 v4 nU nD n u1 d1 u2 d2 u3 d3 x1 x2 x3 m 271 (.val (.ref aU)) (.val (.ref aD)) (.val (.ref aQ)) .unset .unset .unset .unset .unset .unset [(.ref aS), (.ref aS), (.ref st), (.ref o), (.ref o)])) _
  refine st6.trans ?_
  refine XS.aload X6.here hx rfl (hb hby at_274) rfl rfl ?_
  refine XS.aload X6.here hx rfl (hb hby at_276) rfl rfl ?_
  show Steps _ _ _ (T6.setTop (own_B v0 v1 v2 v3 v4 nU nD n u1 d1 u2 d2 u3 d3 x1 x2 x3 m 278 (.val (.ref aU)) (.val (.ref aD)) (.val (.ref aQ)) .unset .unset .unset .unset .unset .unset [(.ref aD), (.ref aU), (.ref aS), (.ref st), (.ref o), (.ref o)])) _
  refine st16 _ ?_
  refine XS.dup X16.here hx rfl (hb hby at_281) rfl rfl ?_
  show Steps _ _ _ (T16.setTop (own_B v0 v1 v2 v3 v4 nU nD n u1 d1 u2 d2 u3 d3 x1 x2 x3 m 282 (.val (.ref aU)) (.val (.ref aD)) (.val (.ref aQ)) .unset .unset .unset .unset .unset .unset [(.ref aK), (.ref aK), (.ref aD), (.ref aU), (.ref aS), (.ref st), (.ref o), (.ref o)])) _
  refine st21.trans ?_
  refine XS.aload X21.here hx rfl (hb hby at_285) rfl rfl ?_
  show Steps _ _ _ (T21.setTop (own_B v0 v1 v2 v3 v4 nU nD n u1 d1 u2 d2 u3 d3 x1 x2 x3 m 287 (.val (.ref aU)) (.val (.ref aD)) (.val (.ref aQ)) .unset .unset .unset .unset .unset .unset [(.ref aQ), (.ref aK), (.ref aD), (.ref aU), (.ref aS), (.ref st), (.ref o), (.ref o)])) _
  refine st39.trans ?_
  show Steps _ _ _ (T39.setTop (own_B v0 v1 v2 v3 v4 nU nD n u1 d1 u2 d2 u3 d3 x1 x2 x3 m 290 (.val (.ref aU)) (.val (.ref aD)) (.val (.ref aQ)) .unset .unset .unset .unset .unset .unset [(.ref o)])) _
  refine XS.astore X39.here hx rfl (hb hby at_290) rfl rfl rfl ?_
  show Steps _ _ _ (T39.setTop (own_B v0 v1 v2 v3 v4 nU nD n u1 d1 u2 d2 u3 d3 x1 x2 x3 m 292 (.val (.ref aU)) (.val (.ref aD)) (.val (.ref aQ)) (.val (.ref o)) .unset .unset .unset .unset .unset [])) _
  exact k'
end OwnM
/-! ## The law's own walk, second half (printed by gen302_i.py) -/
section OwnN
open Jvm.Free.Fl
variable {p : Program} {l : Launch} {e : Env} {s : State} {m : MethodId} {args : Array Value} {below : List Frame} {meth : Method} {c : Code} {T : State} {locs : List Loc} {Z : State} {a0 : Array Value} {h : Heap} {n0 : Nat}
theorem own_pd25 : parseMethodDescriptor "()[[D" = some ⟨[], some (.array (.array .double))⟩ := by decide +kernel
theorem own_pd26 : parseMethodDescriptor "(IIIIIDIIDIID)D" = some ⟨[.int, .int, .int, .int, .int, .double, .int, .int, .double, .int, .int, .double], some .double⟩ := by decide +kernel
theorem own_a1 (X : Stand p l e room_1 s m args below meth c T locs 34 148) (hx : p.tables.exec = Jvm.exec) (hZ : Z.Warmed39 s.vm) (hw : ∀ d ∈ tables_1, d.before a0 Z = true) {D IC EL EE EM MO b0 b1 : Addr} {cD cI cE : Cell} (G : own_G Z D IC EL EE EM MO b0 b1 cD cI cE) (hby : c.code = code) (hml : c.maxLocals = 29) (hown : s.vm.findClass "com/example/overweave/overweave/InstanceTrafficPinLaw" = some m.cls) (eT : T.heap = h) (N0 : Fr n0 locs) (Z0 : n0 ≤ h.size) (O : Old Z n0 h) {v0 v1 v2 v3 v4 nU nD n u1 d1 u2 d2 u3 d3 : Int32} {x1 x2 x3 : UInt64} {aU aD aQ o ru rd rq : Addr} {us ds : List Addr} {ps : List (Addr × Int32 × Int32 × UInt64)} {w00 w01 w10 w11 : UInt64} (hl : ps.length ≤ 3) (hn1 : (nU = 1 ∧ us.length = 1) ∨ (nU = 2 ∧ us.length = 2)) (hn2 : (nD = 1 ∧ ds.length = 1) ∨ (nD = 2 ∧ ds.length = 2)) (hU0 : 0 < nU) (hD0 : 0 < nD) (I : own_In Z h o ru rd rq) (IU : own_IL Z EL EM h ru us) (ID : own_IL Z EL EM h rd ds) (IQ : own_IL Z EL EM h rq (ps.map (·.1))) (Ds : own_Ds Z h nU nD ps) (hval : ∀ a b, own_val a b ps = own_ex a b n u1 d1 x1 u2 d2 x2 u3 d3 x3) (M1 : Mag64 1056 x1) (M2 : Mag64 1056 x2) (M3 : Mag64 1056 x3) (hE00 : own_ex 0 0 n u1 d1 x1 u2 d2 x2 u3 d3 x3 = w00) (hE01 : own_ex 0 1 n u1 d1 x1 u2 d2 x2 u3 d3 x3 = w01) (hE10 : own_ex 1 0 n u1 d1 x1 u2 d2 x2 u3 d3 x3 = w10) (hE11 : own_ex 1 1 n u1 d1 x1 u2 d2 x2 u3 d3 x3 = w11) (hU1 : ¬ 1 < nU) :
    ∃ T' h' L' g, Stand p l e room_1 s m args below meth c T' L' 38 158 ∧ T'.heap = h' ∧ Fr n0 L' ∧ Keep h h' [] ∧ h.size ≤ g ∧ own_Gr Z h.size h' g nU nD w00 w01 w10 w11 ∧ ∀ target, Steps p.tables e below (T'.setTop (own_B v0 v1 v2 v3 v4 nU nD n u1 d1 u2 d2 u3 d3 x1 x2 x3 m 385 (.val (.ref aU)) (.val (.ref aD)) (.val (.ref aQ)) (.val (.ref o)) (.val (.ref g)) (.val (.double w00)) .second (.val (.int 1)) .unset [])) target → Steps p.tables e below (T.setTop (own_B v0 v1 v2 v3 v4 nU nD n u1 d1 u2 d2 u3 d3 x1 x2 x3 m 292 (.val (.ref aU)) (.val (.ref aD)) (.val (.ref aQ)) (.val (.ref o)) .unset .unset .unset .unset .unset [])) target := by
  obtain ⟨cq1, kq1, q1a, q1b, q1c⟩ := isOf hZ eT I.1
  obtain ⟨_, _, ⟨T1, L1, k1, n1⟩, -, X1, ⟨Lc1, hQ1, l1, y1, z1⟩, st1⟩ := X.virtualBack hx (y := (⟨"com/example/overweave/overweave/Instance", "traffic", "()[[D"⟩ : MethodName)) (z := (⟨"com/example/overweave/overweave/Instance", "traffic", "()[[D"⟩ : MethodName)) hown (mvT hZ (ow hw 185 rfl)) (mvT hZ (ow hw 186 rfl)) (notFace_of_selects (args := #[]) (mvT hZ (ow hw 188 rfl))) (mvT hZ (ow hw 188 rfl)) (mvT hZ (ow hw 187 rfl)) (by decide) (backOf (W := 0) (own_tr l Z a0 hw [] G o ru rd rq us ds ps nU nD hl hn1 hn2 h n0 Z0 I IU ID IQ Ds O) hZ (ow hw 189 rfl) (ow hw 70 rfl) (by decide) (by decide)) q1a q1c (g := (own_B v0 v1 v2 v3 v4 nU nD n u1 d1 u2 d2 u3 d3 x1 x2 x3 m 294 (.val (.ref aU)) (.val (.ref aD)) (.val (.ref aQ)) (.val (.ref o)) .unset .unset .unset .unset .unset [(.ref o)])) rfl (by rw [hml]; rfl) (Steps.refl _) (argsL := []) (rest := []) (lenOf own_pd25 rfl) rfl (by show 2 * 0 + _ ≤ _; exact Nat.le_of_eq rfl) (hb hby at_294) (fun _ _ => ⟨rfl, eT, (by decide : 34 + 4 ≤ _), (by decide : 148 + 10 ≤ _)⟩)
  dsimp only [Pt.U, Pt.locs, Pt.cells, Pt.slots] at X1 l1 y1 z1 st1 hQ1
  subst l1 y1 z1
  obtain ⟨h1, e1⟩ : ∃ z, T1.heap = z := ⟨_, rfl⟩
  rw [e1] at hQ1
  obtain ⟨g, rfl, N1, K1, g1, Gr1⟩ := hQ1
  have N2_ := Fr.app N0 N1
  have K3_ := (Keep.refl h []).trans K1 all0
  rw [hval, hval, hval, hval, hE00, hE01, hE10, hE11] at Gr1
  obtain ⟨q0, q1, k0, k1, Bg_, GA, R0, R1⟩ := id Gr1
  have nn00 := own_ex_nn M1 M2 M3 hE00
  have Z5_ := (Nat.le_trans Z0 K3_.1)
  obtain ⟨_, _, ⟨T4, L4, k4, n4⟩, -, X4, ⟨Lc4, hQ4, l4, y4, z4⟩, st4⟩ := Jvm.LawKit.callS X1 hx (y := (⟨"com/example/overweave/overweave/InstanceTrafficPinLaw", "exp", "(IIIIIDIIDIID)D"⟩ : MethodName)) hown (mvT hZ (ow hw 245 rfl)) (mvT hZ (ow hw 246 rfl)) (mvT hZ (ow hw 247 rfl)) (mvT hZ (ow hw 248 rfl)) (by decide) (backOf (W := 0) (own_exp l Z a0 hw [] 0 0 n u1 d1 x1 u2 d2 x2 u3 d3 x3 w00 M1 M2 M3 hE00 h1 n0 Z5_) hZ (ow hw 248 rfl) (ow hw 247 rfl) (by decide) (by decide)) (g := (own_B v0 v1 v2 v3 v4 nU nD n u1 d1 u2 d2 u3 d3 x1 x2 x3 m 361 (.val (.ref aU)) (.val (.ref aD)) (.val (.ref aQ)) (.val (.ref o)) (.val (.ref g)) .unset .unset .unset .unset [(.double x3), (.int d3), (.int u3), (.double x2), (.int d2), (.int u2), (.double x1), (.int d1), (.int u1), (.int n), (.int 0), (.int 0)])) rfl (by rw [hml]; rfl) (argsL := [(.int 0), (.int 0), (.int n), (.int u1), (.int d1), (.double x1), (.int u2), (.int d2), (.double x2), (.int u3), (.int d3), (.double x3)]) (rest := []) (lenOf own_pd26 rfl) rfl (by show 2 * 0 + _ ≤ _; exact Nat.le_of_eq rfl) (hb hby at_361) (fun _ _ => ⟨rfl, e1, (by decide : 38 + 0 ≤ _), (by decide : 158 + 0 ≤ _)⟩)
  dsimp only [Pt.U, Pt.locs, Pt.cells, Pt.slots] at X4 l4 y4 z4 st4 hQ4
  subst l4 y4 z4
  obtain ⟨rfl, N4, e4⟩ := hQ4
  have N6_ := Fr.app N2_ N4
  refine ⟨T4, h1, _, g, X4, e4, N6_, K3_, g1, Gr1, fun target k' => ?_⟩
  show Steps _ _ _ (T.setTop (own_B v0 v1 v2 v3 v4 nU nD n u1 d1 u2 d2 u3 d3 x1 x2 x3 m 292 (.val (.ref aU)) (.val (.ref aD)) (.val (.ref aQ)) (.val (.ref o)) .unset .unset .unset .unset .unset [])) _
  refine XS.aload X.here hx rfl (hb hby at_292) rfl rfl ?_
  show Steps _ _ _ (T.setTop (own_B v0 v1 v2 v3 v4 nU nD n u1 d1 u2 d2 u3 d3 x1 x2 x3 m 294 (.val (.ref aU)) (.val (.ref aD)) (.val (.ref aQ)) (.val (.ref o)) .unset .unset .unset .unset .unset [(.ref o)])) _
  refine st1.trans ?_
  show Steps _ _ _ (T1.setTop (own_B v0 v1 v2 v3 v4 nU nD n u1 d1 u2 d2 u3 d3 x1 x2 x3 m 297 (.val (.ref aU)) (.val (.ref aD)) (.val (.ref aQ)) (.val (.ref o)) .unset .unset .unset .unset .unset [(.ref g)])) _
  refine XS.astore X1.here hx rfl (hb hby at_297) rfl rfl rfl ?_
  refine XS.aload X1.here hx rfl (hb hby at_299) rfl rfl ?_
  show Steps _ _ _ (T1.setTop (own_B v0 v1 v2 v3 v4 nU nD n u1 d1 u2 d2 u3 d3 x1 x2 x3 m 301 (.val (.ref aU)) (.val (.ref aD)) (.val (.ref aQ)) (.val (.ref o)) (.val (.ref g)) .unset .unset .unset .unset [(.ref g)])) _
  refine own_len X1 hx hZ e1 GA (g := (own_B v0 v1 v2 v3 v4 nU nD n u1 d1 u2 d2 u3 d3 x1 x2 x3 m 301 (.val (.ref aU)) (.val (.ref aD)) (.val (.ref aQ)) (.val (.ref o)) (.val (.ref g)) .unset .unset .unset .unset [(.ref g)])) rfl rfl (hb hby at_301) _ ?_
  refine XS.iload X1.here hx rfl (hb hby at_302) rfl ?_
  show Steps _ _ _ (T1.setTop (own_B v0 v1 v2 v3 v4 nU nD n u1 d1 u2 d2 u3 d3 x1 x2 x3 m 304 (.val (.ref aU)) (.val (.ref aD)) (.val (.ref aQ)) (.val (.ref o)) (.val (.ref g)) .unset .unset .unset .unset [(.int nU), (.int nU)])) _
  refine XS.icmpYes X1.here hx rfl rfl (hb hby at_304) rfl (XT.ii_eq_t rfl) (show (0 : Int) ≤ ((304 : Nat) : Int) + (5) by decide) (show (((304 : Nat) : Int) + (5)).toNat = 309 by decide) ?_
  refine XS.aload X1.here hx rfl (hb hby at_309) rfl rfl ?_
  refine XT.iconstV X1.here hx rfl 0 (hb hby at_311) rfl ?_
  show Steps _ _ _ (T1.setTop (own_B v0 v1 v2 v3 v4 nU nD n u1 d1 u2 d2 u3 d3 x1 x2 x3 m 312 (.val (.ref aU)) (.val (.ref aD)) (.val (.ref aQ)) (.val (.ref o)) (.val (.ref g)) .unset .unset .unset .unset [(.int 0), (.ref g)])) _
  refine own_aald X1 hx hZ e1 GA rfl ⟨by decide, hU0⟩ rfl (g := (own_B v0 v1 v2 v3 v4 nU nD n u1 d1 u2 d2 u3 d3 x1 x2 x3 m 312 (.val (.ref aU)) (.val (.ref aD)) (.val (.ref aQ)) (.val (.ref o)) (.val (.ref g)) .unset .unset .unset .unset [(.int 0), (.ref g)])) rfl rfl (hb hby at_312) _ ?_
  show Steps _ _ _ (T1.setTop (own_B v0 v1 v2 v3 v4 nU nD n u1 d1 u2 d2 u3 d3 x1 x2 x3 m 313 (.val (.ref aU)) (.val (.ref aD)) (.val (.ref aQ)) (.val (.ref o)) (.val (.ref g)) .unset .unset .unset .unset [(.ref q0)])) _
  refine own_len X1 hx hZ e1 R0 (g := (own_B v0 v1 v2 v3 v4 nU nD n u1 d1 u2 d2 u3 d3 x1 x2 x3 m 313 (.val (.ref aU)) (.val (.ref aD)) (.val (.ref aQ)) (.val (.ref o)) (.val (.ref g)) .unset .unset .unset .unset [(.ref q0)])) rfl rfl (hb hby at_313) _ ?_
  refine XS.iload X1.here hx rfl (hb hby at_314) rfl ?_
  show Steps _ _ _ (T1.setTop (own_B v0 v1 v2 v3 v4 nU nD n u1 d1 u2 d2 u3 d3 x1 x2 x3 m 316 (.val (.ref aU)) (.val (.ref aD)) (.val (.ref aQ)) (.val (.ref o)) (.val (.ref g)) .unset .unset .unset .unset [(.int nD), (.int nD)])) _
  refine XS.icmpYes X1.here hx rfl rfl (hb hby at_316) rfl (XT.ii_eq_t rfl) (show (0 : Int) ≤ ((316 : Nat) : Int) + (5) by decide) (show (((316 : Nat) : Int) + (5)).toNat = 321 by decide) ?_
  refine XS.iload X1.here hx rfl (hb hby at_321) rfl ?_
  refine XT.iconstV X1.here hx rfl 1 (hb hby at_323) rfl ?_
  show Steps _ _ _ (T1.setTop (own_B v0 v1 v2 v3 v4 nU nD n u1 d1 u2 d2 u3 d3 x1 x2 x3 m 324 (.val (.ref aU)) (.val (.ref aD)) (.val (.ref aQ)) (.val (.ref o)) (.val (.ref g)) .unset .unset .unset .unset [(.int 1), (.int nU)])) _
  refine XS.icmpYes X1.here hx rfl rfl (hb hby at_324) rfl (XT.ii_le_t hU1) (show (0 : Int) ≤ ((324 : Nat) : Int) + (15) by decide) (show (((324 : Nat) : Int) + (15)).toNat = 339 by decide) ?_
  refine XT.iconstV X1.here hx rfl 0 (hb hby at_339) rfl ?_
  refine XT.iconstV X1.here hx rfl 0 (hb hby at_340) rfl ?_
  refine XS.iload X1.here hx rfl (hb hby at_341) rfl ?_
  refine XS.iload X1.here hx rfl (hb hby at_343) rfl ?_
  refine XS.iload X1.here hx rfl (hb hby at_345) rfl ?_
  refine XS.dload X1.here hx rfl (hb hby at_347) rfl ?_
  refine XS.iload X1.here hx rfl (hb hby at_349) rfl ?_
  refine XS.iload X1.here hx rfl (hb hby at_351) rfl ?_
  refine XS.dload X1.here hx rfl (hb hby at_353) rfl ?_
  refine XS.iload X1.here hx rfl (hb hby at_355) rfl ?_
  refine XS.iload X1.here hx rfl (hb hby at_357) rfl ?_
  refine XS.dload X1.here hx rfl (hb hby at_359) rfl ?_
  show Steps _ _ _ (T1.setTop (own_B v0 v1 v2 v3 v4 nU nD n u1 d1 u2 d2 u3 d3 x1 x2 x3 m 361 (.val (.ref aU)) (.val (.ref aD)) (.val (.ref aQ)) (.val (.ref o)) (.val (.ref g)) .unset .unset .unset .unset [(.double x3), (.int d3), (.int u3), (.double x2), (.int d2), (.int u2), (.double x1), (.int d1), (.int u1), (.int n), (.int 0), (.int 0)])) _
  refine st4 _ ?_
  show Steps _ _ _ (T4.setTop (own_B v0 v1 v2 v3 v4 nU nD n u1 d1 u2 d2 u3 d3 x1 x2 x3 m 364 (.val (.ref aU)) (.val (.ref aD)) (.val (.ref aQ)) (.val (.ref o)) (.val (.ref g)) .unset .unset .unset .unset [(.double w00)])) _
  refine XS.dstore X4.here hx rfl (hb hby at_364) rfl rfl ?_
  refine XS.aload X4.here hx rfl (hb hby at_366) rfl rfl ?_
  refine XT.iconstV X4.here hx rfl 0 (hb hby at_368) rfl ?_
  show Steps _ _ _ (T4.setTop (own_B v0 v1 v2 v3 v4 nU nD n u1 d1 u2 d2 u3 d3 x1 x2 x3 m 369 (.val (.ref aU)) (.val (.ref aD)) (.val (.ref aQ)) (.val (.ref o)) (.val (.ref g)) (.val (.double w00)) .second .unset .unset [(.int 0), (.ref g)])) _
  refine own_aald X4 hx hZ e4 GA rfl ⟨by decide, hU0⟩ rfl (g := (own_B v0 v1 v2 v3 v4 nU nD n u1 d1 u2 d2 u3 d3 x1 x2 x3 m 369 (.val (.ref aU)) (.val (.ref aD)) (.val (.ref aQ)) (.val (.ref o)) (.val (.ref g)) (.val (.double w00)) .second .unset .unset [(.int 0), (.ref g)])) rfl rfl (hb hby at_369) _ ?_
  refine XT.iconstV X4.here hx rfl 0 (hb hby at_370) rfl ?_
  show Steps _ _ _ (T4.setTop (own_B v0 v1 v2 v3 v4 nU nD n u1 d1 u2 d2 u3 d3 x1 x2 x3 m 371 (.val (.ref aU)) (.val (.ref aD)) (.val (.ref aQ)) (.val (.ref o)) (.val (.ref g)) (.val (.double w00)) .second .unset .unset [(.int 0), (.ref q0)])) _
  refine own_dald X4 hx hZ e4 R0 ⟨by decide, hD0⟩ rfl (g := (own_B v0 v1 v2 v3 v4 nU nD n u1 d1 u2 d2 u3 d3 x1 x2 x3 m 371 (.val (.ref aU)) (.val (.ref aD)) (.val (.ref aQ)) (.val (.ref o)) (.val (.ref g)) (.val (.double w00)) .second .unset .unset [(.int 0), (.ref q0)])) rfl rfl (hb hby at_371) _ ?_
  refine XS.dload X4.here hx rfl (hb hby at_372) rfl ?_
  show Steps _ _ _ (T4.setTop (own_B v0 v1 v2 v3 v4 nU nD n u1 d1 u2 d2 u3 d3 x1 x2 x3 m 374 (.val (.ref aU)) (.val (.ref aD)) (.val (.ref aQ)) (.val (.ref o)) (.val (.ref g)) (.val (.double w00)) .second .unset .unset [(.double w00), (.double w00)])) _
  refine XS.dcmpS X4.here hx rfl (hb hby at_374) rfl (dcmpV_self nn00 .l) ?_
  show Steps _ _ _ (T4.setTop (own_B v0 v1 v2 v3 v4 nU nD n u1 d1 u2 d2 u3 d3 x1 x2 x3 m 375 (.val (.ref aU)) (.val (.ref aD)) (.val (.ref aQ)) (.val (.ref o)) (.val (.ref g)) (.val (.double w00)) .second .unset .unset [(.int 0)])) _
  refine XS.ifNo X4.here hx rfl (hb hby at_375) rfl (by decide) ?_
  refine XT.iconstV X4.here hx rfl 1 (hb hby at_378) rfl ?_
  show Steps _ _ _ (T4.setTop (own_B v0 v1 v2 v3 v4 nU nD n u1 d1 u2 d2 u3 d3 x1 x2 x3 m 379 (.val (.ref aU)) (.val (.ref aD)) (.val (.ref aQ)) (.val (.ref o)) (.val (.ref g)) (.val (.double w00)) .second .unset .unset [(.int 1)])) _
  refine XS.goto X4.here hx rfl rfl (hb hby at_379) (show (0 : Int) ≤ ((379 : Nat) : Int) + (4) by decide) (show (((379 : Nat) : Int) + (4)).toNat = 383 by decide) ?_
  show Steps _ _ _ (T4.setTop (own_B v0 v1 v2 v3 v4 nU nD n u1 d1 u2 d2 u3 d3 x1 x2 x3 m 383 (.val (.ref aU)) (.val (.ref aD)) (.val (.ref aQ)) (.val (.ref o)) (.val (.ref g)) (.val (.double w00)) .second .unset .unset [(.int 1)])) _
  refine XS.istore X4.here hx rfl (hb hby at_383) rfl rfl ?_
  show Steps _ _ _ (T4.setTop (own_B v0 v1 v2 v3 v4 nU nD n u1 d1 u2 d2 u3 d3 x1 x2 x3 m 385 (.val (.ref aU)) (.val (.ref aD)) (.val (.ref aQ)) (.val (.ref o)) (.val (.ref g)) (.val (.double w00)) .second (.val (.int 1)) .unset [])) _
  exact k'
theorem own_a2 (X : Stand p l e room_1 s m args below meth c T locs 34 148) (hx : p.tables.exec = Jvm.exec) (hZ : Z.Warmed39 s.vm) (hw : ∀ d ∈ tables_1, d.before a0 Z = true) {D IC EL EE EM MO b0 b1 : Addr} {cD cI cE : Cell} (G : own_G Z D IC EL EE EM MO b0 b1 cD cI cE) (hby : c.code = code) (hml : c.maxLocals = 29) (hown : s.vm.findClass "com/example/overweave/overweave/InstanceTrafficPinLaw" = some m.cls) (eT : T.heap = h) (N0 : Fr n0 locs) (Z0 : n0 ≤ h.size) (O : Old Z n0 h) {v0 v1 v2 v3 v4 nU nD n u1 d1 u2 d2 u3 d3 : Int32} {x1 x2 x3 : UInt64} {aU aD aQ o ru rd rq : Addr} {us ds : List Addr} {ps : List (Addr × Int32 × Int32 × UInt64)} {w00 w01 w10 w11 : UInt64} (hl : ps.length ≤ 3) (hn1 : (nU = 1 ∧ us.length = 1) ∨ (nU = 2 ∧ us.length = 2)) (hn2 : (nD = 1 ∧ ds.length = 1) ∨ (nD = 2 ∧ ds.length = 2)) (hU0 : 0 < nU) (hD0 : 0 < nD) (I : own_In Z h o ru rd rq) (IU : own_IL Z EL EM h ru us) (ID : own_IL Z EL EM h rd ds) (IQ : own_IL Z EL EM h rq (ps.map (·.1))) (Ds : own_Ds Z h nU nD ps) (hval : ∀ a b, own_val a b ps = own_ex a b n u1 d1 x1 u2 d2 x2 u3 d3 x3) (M1 : Mag64 1056 x1) (M2 : Mag64 1056 x2) (M3 : Mag64 1056 x3) (hE00 : own_ex 0 0 n u1 d1 x1 u2 d2 x2 u3 d3 x3 = w00) (hE01 : own_ex 0 1 n u1 d1 x1 u2 d2 x2 u3 d3 x3 = w01) (hE10 : own_ex 1 0 n u1 d1 x1 u2 d2 x2 u3 d3 x3 = w10) (hE11 : own_ex 1 1 n u1 d1 x1 u2 d2 x2 u3 d3 x3 = w11) (hU1 : 1 < nU) (hU2 : nU = 2) :
    ∃ T' h' L' g, Stand p l e room_1 s m args below meth c T' L' 38 158 ∧ T'.heap = h' ∧ Fr n0 L' ∧ Keep h h' [] ∧ h.size ≤ g ∧ own_Gr Z h.size h' g nU nD w00 w01 w10 w11 ∧ ∀ target, Steps p.tables e below (T'.setTop (own_B v0 v1 v2 v3 v4 nU nD n u1 d1 u2 d2 u3 d3 x1 x2 x3 m 385 (.val (.ref aU)) (.val (.ref aD)) (.val (.ref aQ)) (.val (.ref o)) (.val (.ref g)) (.val (.double w00)) .second (.val (.int 1)) .unset [])) target → Steps p.tables e below (T.setTop (own_B v0 v1 v2 v3 v4 nU nD n u1 d1 u2 d2 u3 d3 x1 x2 x3 m 292 (.val (.ref aU)) (.val (.ref aD)) (.val (.ref aQ)) (.val (.ref o)) .unset .unset .unset .unset .unset [])) target := by
  obtain ⟨cq1, kq1, q1a, q1b, q1c⟩ := isOf hZ eT I.1
  obtain ⟨_, _, ⟨T1, L1, k1, n1⟩, -, X1, ⟨Lc1, hQ1, l1, y1, z1⟩, st1⟩ := X.virtualBack hx (y := (⟨"com/example/overweave/overweave/Instance", "traffic", "()[[D"⟩ : MethodName)) (z := (⟨"com/example/overweave/overweave/Instance", "traffic", "()[[D"⟩ : MethodName)) hown (mvT hZ (ow hw 185 rfl)) (mvT hZ (ow hw 186 rfl)) (notFace_of_selects (args := #[]) (mvT hZ (ow hw 188 rfl))) (mvT hZ (ow hw 188 rfl)) (mvT hZ (ow hw 187 rfl)) (by decide) (backOf (W := 0) (own_tr l Z a0 hw [] G o ru rd rq us ds ps nU nD hl hn1 hn2 h n0 Z0 I IU ID IQ Ds O) hZ (ow hw 189 rfl) (ow hw 70 rfl) (by decide) (by decide)) q1a q1c (g := (own_B v0 v1 v2 v3 v4 nU nD n u1 d1 u2 d2 u3 d3 x1 x2 x3 m 294 (.val (.ref aU)) (.val (.ref aD)) (.val (.ref aQ)) (.val (.ref o)) .unset .unset .unset .unset .unset [(.ref o)])) rfl (by rw [hml]; rfl) (Steps.refl _) (argsL := []) (rest := []) (lenOf own_pd25 rfl) rfl (by show 2 * 0 + _ ≤ _; exact Nat.le_of_eq rfl) (hb hby at_294) (fun _ _ => ⟨rfl, eT, (by decide : 34 + 4 ≤ _), (by decide : 148 + 10 ≤ _)⟩)
  dsimp only [Pt.U, Pt.locs, Pt.cells, Pt.slots] at X1 l1 y1 z1 st1 hQ1
  subst l1 y1 z1
  obtain ⟨h1, e1⟩ : ∃ z, T1.heap = z := ⟨_, rfl⟩
  rw [e1] at hQ1
  obtain ⟨g, rfl, N1, K1, g1, Gr1⟩ := hQ1
  have N2_ := Fr.app N0 N1
  have K3_ := (Keep.refl h []).trans K1 all0
  rw [hval, hval, hval, hval, hE00, hE01, hE10, hE11] at Gr1
  obtain ⟨q0, q1, k0, k1, Bg_, GA, R0, R1⟩ := id Gr1
  have nn00 := own_ex_nn M1 M2 M3 hE00
  have Z5_ := (Nat.le_trans Z0 K3_.1)
  obtain ⟨_, _, ⟨T4, L4, k4, n4⟩, -, X4, ⟨Lc4, hQ4, l4, y4, z4⟩, st4⟩ := Jvm.LawKit.callS X1 hx (y := (⟨"com/example/overweave/overweave/InstanceTrafficPinLaw", "exp", "(IIIIIDIIDIID)D"⟩ : MethodName)) hown (mvT hZ (ow hw 245 rfl)) (mvT hZ (ow hw 246 rfl)) (mvT hZ (ow hw 247 rfl)) (mvT hZ (ow hw 248 rfl)) (by decide) (backOf (W := 0) (own_exp l Z a0 hw [] 0 0 n u1 d1 x1 u2 d2 x2 u3 d3 x3 w00 M1 M2 M3 hE00 h1 n0 Z5_) hZ (ow hw 248 rfl) (ow hw 247 rfl) (by decide) (by decide)) (g := (own_B v0 v1 v2 v3 v4 nU nD n u1 d1 u2 d2 u3 d3 x1 x2 x3 m 361 (.val (.ref aU)) (.val (.ref aD)) (.val (.ref aQ)) (.val (.ref o)) (.val (.ref g)) .unset .unset .unset .unset [(.double x3), (.int d3), (.int u3), (.double x2), (.int d2), (.int u2), (.double x1), (.int d1), (.int u1), (.int n), (.int 0), (.int 0)])) rfl (by rw [hml]; rfl) (argsL := [(.int 0), (.int 0), (.int n), (.int u1), (.int d1), (.double x1), (.int u2), (.int d2), (.double x2), (.int u3), (.int d3), (.double x3)]) (rest := []) (lenOf own_pd26 rfl) rfl (by show 2 * 0 + _ ≤ _; exact Nat.le_of_eq rfl) (hb hby at_361) (fun _ _ => ⟨rfl, e1, (by decide : 38 + 0 ≤ _), (by decide : 158 + 0 ≤ _)⟩)
  dsimp only [Pt.U, Pt.locs, Pt.cells, Pt.slots] at X4 l4 y4 z4 st4 hQ4
  subst l4 y4 z4
  obtain ⟨rfl, N4, e4⟩ := hQ4
  have N6_ := Fr.app N2_ N4
  refine ⟨T4, h1, _, g, X4, e4, N6_, K3_, g1, Gr1, fun target k' => ?_⟩
  show Steps _ _ _ (T.setTop (own_B v0 v1 v2 v3 v4 nU nD n u1 d1 u2 d2 u3 d3 x1 x2 x3 m 292 (.val (.ref aU)) (.val (.ref aD)) (.val (.ref aQ)) (.val (.ref o)) .unset .unset .unset .unset .unset [])) _
  refine XS.aload X.here hx rfl (hb hby at_292) rfl rfl ?_
  show Steps _ _ _ (T.setTop (own_B v0 v1 v2 v3 v4 nU nD n u1 d1 u2 d2 u3 d3 x1 x2 x3 m 294 (.val (.ref aU)) (.val (.ref aD)) (.val (.ref aQ)) (.val (.ref o)) .unset .unset .unset .unset .unset [(.ref o)])) _
  refine st1.trans ?_
  show Steps _ _ _ (T1.setTop (own_B v0 v1 v2 v3 v4 nU nD n u1 d1 u2 d2 u3 d3 x1 x2 x3 m 297 (.val (.ref aU)) (.val (.ref aD)) (.val (.ref aQ)) (.val (.ref o)) .unset .unset .unset .unset .unset [(.ref g)])) _
  refine XS.astore X1.here hx rfl (hb hby at_297) rfl rfl rfl ?_
  refine XS.aload X1.here hx rfl (hb hby at_299) rfl rfl ?_
  show Steps _ _ _ (T1.setTop (own_B v0 v1 v2 v3 v4 nU nD n u1 d1 u2 d2 u3 d3 x1 x2 x3 m 301 (.val (.ref aU)) (.val (.ref aD)) (.val (.ref aQ)) (.val (.ref o)) (.val (.ref g)) .unset .unset .unset .unset [(.ref g)])) _
  refine own_len X1 hx hZ e1 GA (g := (own_B v0 v1 v2 v3 v4 nU nD n u1 d1 u2 d2 u3 d3 x1 x2 x3 m 301 (.val (.ref aU)) (.val (.ref aD)) (.val (.ref aQ)) (.val (.ref o)) (.val (.ref g)) .unset .unset .unset .unset [(.ref g)])) rfl rfl (hb hby at_301) _ ?_
  refine XS.iload X1.here hx rfl (hb hby at_302) rfl ?_
  show Steps _ _ _ (T1.setTop (own_B v0 v1 v2 v3 v4 nU nD n u1 d1 u2 d2 u3 d3 x1 x2 x3 m 304 (.val (.ref aU)) (.val (.ref aD)) (.val (.ref aQ)) (.val (.ref o)) (.val (.ref g)) .unset .unset .unset .unset [(.int nU), (.int nU)])) _
  refine XS.icmpYes X1.here hx rfl rfl (hb hby at_304) rfl (XT.ii_eq_t rfl) (show (0 : Int) ≤ ((304 : Nat) : Int) + (5) by decide) (show (((304 : Nat) : Int) + (5)).toNat = 309 by decide) ?_
  refine XS.aload X1.here hx rfl (hb hby at_309) rfl rfl ?_
  refine XT.iconstV X1.here hx rfl 0 (hb hby at_311) rfl ?_
  show Steps _ _ _ (T1.setTop (own_B v0 v1 v2 v3 v4 nU nD n u1 d1 u2 d2 u3 d3 x1 x2 x3 m 312 (.val (.ref aU)) (.val (.ref aD)) (.val (.ref aQ)) (.val (.ref o)) (.val (.ref g)) .unset .unset .unset .unset [(.int 0), (.ref g)])) _
  refine own_aald X1 hx hZ e1 GA rfl ⟨by decide, hU0⟩ rfl (g := (own_B v0 v1 v2 v3 v4 nU nD n u1 d1 u2 d2 u3 d3 x1 x2 x3 m 312 (.val (.ref aU)) (.val (.ref aD)) (.val (.ref aQ)) (.val (.ref o)) (.val (.ref g)) .unset .unset .unset .unset [(.int 0), (.ref g)])) rfl rfl (hb hby at_312) _ ?_
  show Steps _ _ _ (T1.setTop (own_B v0 v1 v2 v3 v4 nU nD n u1 d1 u2 d2 u3 d3 x1 x2 x3 m 313 (.val (.ref aU)) (.val (.ref aD)) (.val (.ref aQ)) (.val (.ref o)) (.val (.ref g)) .unset .unset .unset .unset [(.ref q0)])) _
  refine own_len X1 hx hZ e1 R0 (g := (own_B v0 v1 v2 v3 v4 nU nD n u1 d1 u2 d2 u3 d3 x1 x2 x3 m 313 (.val (.ref aU)) (.val (.ref aD)) (.val (.ref aQ)) (.val (.ref o)) (.val (.ref g)) .unset .unset .unset .unset [(.ref q0)])) rfl rfl (hb hby at_313) _ ?_
  refine XS.iload X1.here hx rfl (hb hby at_314) rfl ?_
  show Steps _ _ _ (T1.setTop (own_B v0 v1 v2 v3 v4 nU nD n u1 d1 u2 d2 u3 d3 x1 x2 x3 m 316 (.val (.ref aU)) (.val (.ref aD)) (.val (.ref aQ)) (.val (.ref o)) (.val (.ref g)) .unset .unset .unset .unset [(.int nD), (.int nD)])) _
  refine XS.icmpYes X1.here hx rfl rfl (hb hby at_316) rfl (XT.ii_eq_t rfl) (show (0 : Int) ≤ ((316 : Nat) : Int) + (5) by decide) (show (((316 : Nat) : Int) + (5)).toNat = 321 by decide) ?_
  refine XS.iload X1.here hx rfl (hb hby at_321) rfl ?_
  refine XT.iconstV X1.here hx rfl 1 (hb hby at_323) rfl ?_
  show Steps _ _ _ (T1.setTop (own_B v0 v1 v2 v3 v4 nU nD n u1 d1 u2 d2 u3 d3 x1 x2 x3 m 324 (.val (.ref aU)) (.val (.ref aD)) (.val (.ref aQ)) (.val (.ref o)) (.val (.ref g)) .unset .unset .unset .unset [(.int 1), (.int nU)])) _
  refine XS.icmpNo X1.here hx rfl (hb hby at_324) rfl (XT.ii_le_f hU1) ?_
  refine XS.aload X1.here hx rfl (hb hby at_327) rfl rfl ?_
  refine XT.iconstV X1.here hx rfl 1 (hb hby at_329) rfl ?_
  show Steps _ _ _ (T1.setTop (own_B v0 v1 v2 v3 v4 nU nD n u1 d1 u2 d2 u3 d3 x1 x2 x3 m 330 (.val (.ref aU)) (.val (.ref aD)) (.val (.ref aQ)) (.val (.ref o)) (.val (.ref g)) .unset .unset .unset .unset [(.int 1), (.ref g)])) _
  refine own_aald X1 hx hZ e1 GA rfl ⟨by decide, hU1⟩ rfl (g := (own_B v0 v1 v2 v3 v4 nU nD n u1 d1 u2 d2 u3 d3 x1 x2 x3 m 330 (.val (.ref aU)) (.val (.ref aD)) (.val (.ref aQ)) (.val (.ref o)) (.val (.ref g)) .unset .unset .unset .unset [(.int 1), (.ref g)])) rfl rfl (hb hby at_330) _ ?_
  show Steps _ _ _ (T1.setTop (own_B v0 v1 v2 v3 v4 nU nD n u1 d1 u2 d2 u3 d3 x1 x2 x3 m 331 (.val (.ref aU)) (.val (.ref aD)) (.val (.ref aQ)) (.val (.ref o)) (.val (.ref g)) .unset .unset .unset .unset [(.ref q1)])) _
  refine own_len X1 hx hZ e1 (R1 hU2) (g := (own_B v0 v1 v2 v3 v4 nU nD n u1 d1 u2 d2 u3 d3 x1 x2 x3 m 331 (.val (.ref aU)) (.val (.ref aD)) (.val (.ref aQ)) (.val (.ref o)) (.val (.ref g)) .unset .unset .unset .unset [(.ref q1)])) rfl rfl (hb hby at_331) _ ?_
  refine XS.iload X1.here hx rfl (hb hby at_332) rfl ?_
  show Steps _ _ _ (T1.setTop (own_B v0 v1 v2 v3 v4 nU nD n u1 d1 u2 d2 u3 d3 x1 x2 x3 m 334 (.val (.ref aU)) (.val (.ref aD)) (.val (.ref aQ)) (.val (.ref o)) (.val (.ref g)) .unset .unset .unset .unset [(.int nD), (.int nD)])) _
  refine XS.icmpYes X1.here hx rfl rfl (hb hby at_334) rfl (XT.ii_eq_t rfl) (show (0 : Int) ≤ ((334 : Nat) : Int) + (5) by decide) (show (((334 : Nat) : Int) + (5)).toNat = 339 by decide) ?_
  refine XT.iconstV X1.here hx rfl 0 (hb hby at_339) rfl ?_
  refine XT.iconstV X1.here hx rfl 0 (hb hby at_340) rfl ?_
  refine XS.iload X1.here hx rfl (hb hby at_341) rfl ?_
  refine XS.iload X1.here hx rfl (hb hby at_343) rfl ?_
  refine XS.iload X1.here hx rfl (hb hby at_345) rfl ?_
  refine XS.dload X1.here hx rfl (hb hby at_347) rfl ?_
  refine XS.iload X1.here hx rfl (hb hby at_349) rfl ?_
  refine XS.iload X1.here hx rfl (hb hby at_351) rfl ?_
  refine XS.dload X1.here hx rfl (hb hby at_353) rfl ?_
  refine XS.iload X1.here hx rfl (hb hby at_355) rfl ?_
  refine XS.iload X1.here hx rfl (hb hby at_357) rfl ?_
  refine XS.dload X1.here hx rfl (hb hby at_359) rfl ?_
  show Steps _ _ _ (T1.setTop (own_B v0 v1 v2 v3 v4 nU nD n u1 d1 u2 d2 u3 d3 x1 x2 x3 m 361 (.val (.ref aU)) (.val (.ref aD)) (.val (.ref aQ)) (.val (.ref o)) (.val (.ref g)) .unset .unset .unset .unset [(.double x3), (.int d3), (.int u3), (.double x2), (.int d2), (.int u2), (.double x1), (.int d1), (.int u1), (.int n), (.int 0), (.int 0)])) _
  refine st4 _ ?_
  show Steps _ _ _ (T4.setTop (own_B v0 v1 v2 v3 v4 nU nD n u1 d1 u2 d2 u3 d3 x1 x2 x3 m 364 (.val (.ref aU)) (.val (.ref aD)) (.val (.ref aQ)) (.val (.ref o)) (.val (.ref g)) .unset .unset .unset .unset [(.double w00)])) _
  refine XS.dstore X4.here hx rfl (hb hby at_364) rfl rfl ?_
  refine XS.aload X4.here hx rfl (hb hby at_366) rfl rfl ?_
  refine XT.iconstV X4.here hx rfl 0 (hb hby at_368) rfl ?_
  show Steps _ _ _ (T4.setTop (own_B v0 v1 v2 v3 v4 nU nD n u1 d1 u2 d2 u3 d3 x1 x2 x3 m 369 (.val (.ref aU)) (.val (.ref aD)) (.val (.ref aQ)) (.val (.ref o)) (.val (.ref g)) (.val (.double w00)) .second .unset .unset [(.int 0), (.ref g)])) _
  refine own_aald X4 hx hZ e4 GA rfl ⟨by decide, hU0⟩ rfl (g := (own_B v0 v1 v2 v3 v4 nU nD n u1 d1 u2 d2 u3 d3 x1 x2 x3 m 369 (.val (.ref aU)) (.val (.ref aD)) (.val (.ref aQ)) (.val (.ref o)) (.val (.ref g)) (.val (.double w00)) .second .unset .unset [(.int 0), (.ref g)])) rfl rfl (hb hby at_369) _ ?_
  refine XT.iconstV X4.here hx rfl 0 (hb hby at_370) rfl ?_
  show Steps _ _ _ (T4.setTop (own_B v0 v1 v2 v3 v4 nU nD n u1 d1 u2 d2 u3 d3 x1 x2 x3 m 371 (.val (.ref aU)) (.val (.ref aD)) (.val (.ref aQ)) (.val (.ref o)) (.val (.ref g)) (.val (.double w00)) .second .unset .unset [(.int 0), (.ref q0)])) _
  refine own_dald X4 hx hZ e4 R0 ⟨by decide, hD0⟩ rfl (g := (own_B v0 v1 v2 v3 v4 nU nD n u1 d1 u2 d2 u3 d3 x1 x2 x3 m 371 (.val (.ref aU)) (.val (.ref aD)) (.val (.ref aQ)) (.val (.ref o)) (.val (.ref g)) (.val (.double w00)) .second .unset .unset [(.int 0), (.ref q0)])) rfl rfl (hb hby at_371) _ ?_
  refine XS.dload X4.here hx rfl (hb hby at_372) rfl ?_
  show Steps _ _ _ (T4.setTop (own_B v0 v1 v2 v3 v4 nU nD n u1 d1 u2 d2 u3 d3 x1 x2 x3 m 374 (.val (.ref aU)) (.val (.ref aD)) (.val (.ref aQ)) (.val (.ref o)) (.val (.ref g)) (.val (.double w00)) .second .unset .unset [(.double w00), (.double w00)])) _
  refine XS.dcmpS X4.here hx rfl (hb hby at_374) rfl (dcmpV_self nn00 .l) ?_
  show Steps _ _ _ (T4.setTop (own_B v0 v1 v2 v3 v4 nU nD n u1 d1 u2 d2 u3 d3 x1 x2 x3 m 375 (.val (.ref aU)) (.val (.ref aD)) (.val (.ref aQ)) (.val (.ref o)) (.val (.ref g)) (.val (.double w00)) .second .unset .unset [(.int 0)])) _
  refine XS.ifNo X4.here hx rfl (hb hby at_375) rfl (by decide) ?_
  refine XT.iconstV X4.here hx rfl 1 (hb hby at_378) rfl ?_
  show Steps _ _ _ (T4.setTop (own_B v0 v1 v2 v3 v4 nU nD n u1 d1 u2 d2 u3 d3 x1 x2 x3 m 379 (.val (.ref aU)) (.val (.ref aD)) (.val (.ref aQ)) (.val (.ref o)) (.val (.ref g)) (.val (.double w00)) .second .unset .unset [(.int 1)])) _
  refine XS.goto X4.here hx rfl rfl (hb hby at_379) (show (0 : Int) ≤ ((379 : Nat) : Int) + (4) by decide) (show (((379 : Nat) : Int) + (4)).toNat = 383 by decide) ?_
  show Steps _ _ _ (T4.setTop (own_B v0 v1 v2 v3 v4 nU nD n u1 d1 u2 d2 u3 d3 x1 x2 x3 m 383 (.val (.ref aU)) (.val (.ref aD)) (.val (.ref aQ)) (.val (.ref o)) (.val (.ref g)) (.val (.double w00)) .second .unset .unset [(.int 1)])) _
  refine XS.istore X4.here hx rfl (hb hby at_383) rfl rfl ?_
  show Steps _ _ _ (T4.setTop (own_B v0 v1 v2 v3 v4 nU nD n u1 d1 u2 d2 u3 d3 x1 x2 x3 m 385 (.val (.ref aU)) (.val (.ref aD)) (.val (.ref aQ)) (.val (.ref o)) (.val (.ref g)) (.val (.double w00)) .second (.val (.int 1)) .unset [])) _
  exact k'
theorem own_b0 (X : Stand p l e room_1 s m args below meth c T locs 38 158) (hx : p.tables.exec = Jvm.exec) (hZ : Z.Warmed39 s.vm) (hw : ∀ d ∈ tables_1, d.before a0 Z = true) {D IC EL EE EM MO b0 b1 : Addr} {cD cI cE : Cell} (G : own_G Z D IC EL EE EM MO b0 b1 cD cI cE) (hby : c.code = code) (hml : c.maxLocals = 29) (hown : s.vm.findClass "com/example/overweave/overweave/InstanceTrafficPinLaw" = some m.cls) (eT : T.heap = h) (N0 : Fr n0 locs) (Z0 : n0 ≤ h.size) (O : Old Z n0 h) {v0 v1 v2 v3 v4 nU nD n u1 d1 u2 d2 u3 d3 : Int32} {x1 x2 x3 : UInt64} {aU aD aQ o g : Addr} {bb : Nat} {w00 w01 w10 w11 : UInt64} (Gr : own_Gr Z bb h g nU nD w00 w01 w10 w11) (hU0 : 0 < nU) (hD0 : 0 < nD) (M1 : Mag64 1056 x1) (M2 : Mag64 1056 x2) (M3 : Mag64 1056 x3)  (hD1 : ¬ 1 < nD) :
    ∃ T' h' L', Stand p l e room_1 s m args below meth c T' L' 38 158 ∧ T'.heap = h' ∧ Fr n0 L' ∧ h' = h ∧ ∀ target, Steps p.tables e below (T'.setTop (own_B v0 v1 v2 v3 v4 nU nD n u1 d1 u2 d2 u3 d3 x1 x2 x3 m 438 (.val (.ref aU)) (.val (.ref aD)) (.val (.ref aQ)) (.val (.ref o)) (.val (.ref g)) (.val (.double w00)) .second (.val (.int 1)) .unset [])) target → Steps p.tables e below (T.setTop (own_B v0 v1 v2 v3 v4 nU nD n u1 d1 u2 d2 u3 d3 x1 x2 x3 m 385 (.val (.ref aU)) (.val (.ref aD)) (.val (.ref aQ)) (.val (.ref o)) (.val (.ref g)) (.val (.double w00)) .second (.val (.int 1)) .unset [])) target := by
  obtain ⟨q0, q1, k0, k1, Bg_, GA, R0, R1⟩ := id Gr
  refine ⟨T, h, _, X, eT, N0, rfl, fun target k' => ?_⟩
  show Steps _ _ _ (T.setTop (own_B v0 v1 v2 v3 v4 nU nD n u1 d1 u2 d2 u3 d3 x1 x2 x3 m 385 (.val (.ref aU)) (.val (.ref aD)) (.val (.ref aQ)) (.val (.ref o)) (.val (.ref g)) (.val (.double w00)) .second (.val (.int 1)) .unset [])) _
  refine XS.iload X.here hx rfl (hb hby at_385) rfl ?_
  refine XT.iconstV X.here hx rfl 1 (hb hby at_387) rfl ?_
  show Steps _ _ _ (T.setTop (own_B v0 v1 v2 v3 v4 nU nD n u1 d1 u2 d2 u3 d3 x1 x2 x3 m 388 (.val (.ref aU)) (.val (.ref aD)) (.val (.ref aQ)) (.val (.ref o)) (.val (.ref g)) (.val (.double w00)) .second (.val (.int 1)) .unset [(.int 1), (.int nD)])) _
  refine XS.icmpYes X.here hx rfl rfl (hb hby at_388) rfl (XT.ii_le_t hD1) (show (0 : Int) ≤ ((388 : Nat) : Int) + (50) by decide) (show (((388 : Nat) : Int) + (50)).toNat = 438 by decide) ?_
  show Steps _ _ _ (T.setTop (own_B v0 v1 v2 v3 v4 nU nD n u1 d1 u2 d2 u3 d3 x1 x2 x3 m 438 (.val (.ref aU)) (.val (.ref aD)) (.val (.ref aQ)) (.val (.ref o)) (.val (.ref g)) (.val (.double w00)) .second (.val (.int 1)) .unset [])) _
  exact k'
theorem own_b1 (X : Stand p l e room_1 s m args below meth c T locs 38 158) (hx : p.tables.exec = Jvm.exec) (hZ : Z.Warmed39 s.vm) (hw : ∀ d ∈ tables_1, d.before a0 Z = true) {D IC EL EE EM MO b0 b1 : Addr} {cD cI cE : Cell} (G : own_G Z D IC EL EE EM MO b0 b1 cD cI cE) (hby : c.code = code) (hml : c.maxLocals = 29) (hown : s.vm.findClass "com/example/overweave/overweave/InstanceTrafficPinLaw" = some m.cls) (eT : T.heap = h) (N0 : Fr n0 locs) (Z0 : n0 ≤ h.size) (O : Old Z n0 h) {v0 v1 v2 v3 v4 nU nD n u1 d1 u2 d2 u3 d3 : Int32} {x1 x2 x3 : UInt64} {aU aD aQ o g : Addr} {bb : Nat} {w00 w01 w10 w11 : UInt64} (Gr : own_Gr Z bb h g nU nD w00 w01 w10 w11) (hU0 : 0 < nU) (hD0 : 0 < nD) (M1 : Mag64 1056 x1) (M2 : Mag64 1056 x2) (M3 : Mag64 1056 x3) (hE01 : own_ex 0 1 n u1 d1 x1 u2 d2 x2 u3 d3 x3 = w01) (hD1 : 1 < nD) :
    ∃ T' h' L', Stand p l e room_1 s m args below meth c T' L' 38 158 ∧ T'.heap = h' ∧ Fr n0 L' ∧ h' = h ∧ ∀ target, Steps p.tables e below (T'.setTop (own_B v0 v1 v2 v3 v4 nU nD n u1 d1 u2 d2 u3 d3 x1 x2 x3 m 438 (.val (.ref aU)) (.val (.ref aD)) (.val (.ref aQ)) (.val (.ref o)) (.val (.ref g)) (.val (.double w00)) .second (.val (.int 1)) .unset [])) target → Steps p.tables e below (T.setTop (own_B v0 v1 v2 v3 v4 nU nD n u1 d1 u2 d2 u3 d3 x1 x2 x3 m 385 (.val (.ref aU)) (.val (.ref aD)) (.val (.ref aQ)) (.val (.ref o)) (.val (.ref g)) (.val (.double w00)) .second (.val (.int 1)) .unset [])) target := by
  obtain ⟨q0, q1, k0, k1, Bg_, GA, R0, R1⟩ := id Gr
  have nn01 := own_ex_nn M1 M2 M3 hE01
  obtain ⟨_, _, ⟨T1, L1, k1, n1⟩, -, X1, ⟨Lc1, hQ1, l1, y1, z1⟩, st1⟩ := Jvm.LawKit.callS X hx (y := (⟨"com/example/overweave/overweave/InstanceTrafficPinLaw", "exp", "(IIIIIDIIDIID)D"⟩ : MethodName)) hown (mvT hZ (ow hw 245 rfl)) (mvT hZ (ow hw 246 rfl)) (mvT hZ (ow hw 247 rfl)) (mvT hZ (ow hw 248 rfl)) (by decide) (backOf (W := 2) (own_exp l Z a0 hw [] 0 1 n u1 d1 x1 u2 d2 x2 u3 d3 x3 w01 M1 M2 M3 hE01 h n0 Z0) hZ (ow hw 248 rfl) (ow hw 247 rfl) (by decide) (by decide)) (g := (own_B v0 v1 v2 v3 v4 nU nD n u1 d1 u2 d2 u3 d3 x1 x2 x3 m 424 (.val (.ref aU)) (.val (.ref aD)) (.val (.ref aQ)) (.val (.ref o)) (.val (.ref g)) (.val (.double w00)) .second (.val (.int 1)) .unset [(.double x3), (.int d3), (.int u3), (.double x2), (.int d2), (.int u2), (.double x1), (.int d1), (.int u1), (.int n), (.int 1), (.int 0), (.double w01)])) rfl (by rw [hml]; rfl) (argsL := [(.int 0), (.int 1), (.int n), (.int u1), (.int d1), (.double x1), (.int u2), (.int d2), (.double x2), (.int u3), (.int d3), (.double x3)]) (rest := [(.double w01)]) (lenOf own_pd26 rfl) rfl (by show 2 * 0 + _ ≤ _; exact Nat.le_of_eq rfl) (hb hby at_424) (fun _ _ => ⟨rfl, eT, (by decide : 38 + 0 ≤ _), (by decide : 158 + 0 ≤ _)⟩)
  dsimp only [Pt.U, Pt.locs, Pt.cells, Pt.slots] at X1 l1 y1 z1 st1 hQ1
  subst l1 y1 z1
  obtain ⟨rfl, N1, e1⟩ := hQ1
  have N2_ := Fr.app N0 N1
  refine ⟨T1, h, _, X1, e1, N2_, rfl, fun target k' => ?_⟩
  show Steps _ _ _ (T.setTop (own_B v0 v1 v2 v3 v4 nU nD n u1 d1 u2 d2 u3 d3 x1 x2 x3 m 385 (.val (.ref aU)) (.val (.ref aD)) (.val (.ref aQ)) (.val (.ref o)) (.val (.ref g)) (.val (.double w00)) .second (.val (.int 1)) .unset [])) _
  refine XS.iload X.here hx rfl (hb hby at_385) rfl ?_
  refine XT.iconstV X.here hx rfl 1 (hb hby at_387) rfl ?_
  show Steps _ _ _ (T.setTop (own_B v0 v1 v2 v3 v4 nU nD n u1 d1 u2 d2 u3 d3 x1 x2 x3 m 388 (.val (.ref aU)) (.val (.ref aD)) (.val (.ref aQ)) (.val (.ref o)) (.val (.ref g)) (.val (.double w00)) .second (.val (.int 1)) .unset [(.int 1), (.int nD)])) _
  refine XS.icmpNo X.here hx rfl (hb hby at_388) rfl (XT.ii_le_f hD1) ?_
  refine XS.iload X.here hx rfl (hb hby at_391) rfl ?_
  show Steps _ _ _ (T.setTop (own_B v0 v1 v2 v3 v4 nU nD n u1 d1 u2 d2 u3 d3 x1 x2 x3 m 393 (.val (.ref aU)) (.val (.ref aD)) (.val (.ref aQ)) (.val (.ref o)) (.val (.ref g)) (.val (.double w00)) .second (.val (.int 1)) .unset [(.int 1)])) _
  refine XS.ifNo X.here hx rfl (hb hby at_393) rfl (by decide) ?_
  refine XS.aload X.here hx rfl (hb hby at_396) rfl rfl ?_
  refine XT.iconstV X.here hx rfl 0 (hb hby at_398) rfl ?_
  show Steps _ _ _ (T.setTop (own_B v0 v1 v2 v3 v4 nU nD n u1 d1 u2 d2 u3 d3 x1 x2 x3 m 399 (.val (.ref aU)) (.val (.ref aD)) (.val (.ref aQ)) (.val (.ref o)) (.val (.ref g)) (.val (.double w00)) .second (.val (.int 1)) .unset [(.int 0), (.ref g)])) _
  refine own_aald X hx hZ eT GA rfl ⟨by decide, hU0⟩ rfl (g := (own_B v0 v1 v2 v3 v4 nU nD n u1 d1 u2 d2 u3 d3 x1 x2 x3 m 399 (.val (.ref aU)) (.val (.ref aD)) (.val (.ref aQ)) (.val (.ref o)) (.val (.ref g)) (.val (.double w00)) .second (.val (.int 1)) .unset [(.int 0), (.ref g)])) rfl rfl (hb hby at_399) _ ?_
  refine XT.iconstV X.here hx rfl 1 (hb hby at_400) rfl ?_
  show Steps _ _ _ (T.setTop (own_B v0 v1 v2 v3 v4 nU nD n u1 d1 u2 d2 u3 d3 x1 x2 x3 m 401 (.val (.ref aU)) (.val (.ref aD)) (.val (.ref aQ)) (.val (.ref o)) (.val (.ref g)) (.val (.double w00)) .second (.val (.int 1)) .unset [(.int 1), (.ref q0)])) _
  refine own_dald X hx hZ eT R0 ⟨by decide, hD1⟩ rfl (g := (own_B v0 v1 v2 v3 v4 nU nD n u1 d1 u2 d2 u3 d3 x1 x2 x3 m 401 (.val (.ref aU)) (.val (.ref aD)) (.val (.ref aQ)) (.val (.ref o)) (.val (.ref g)) (.val (.double w00)) .second (.val (.int 1)) .unset [(.int 1), (.ref q0)])) rfl rfl (hb hby at_401) _ ?_
  refine XT.iconstV X.here hx rfl 0 (hb hby at_402) rfl ?_
  refine XT.iconstV X.here hx rfl 1 (hb hby at_403) rfl ?_
  refine XS.iload X.here hx rfl (hb hby at_404) rfl ?_
  refine XS.iload X.here hx rfl (hb hby at_406) rfl ?_
  refine XS.iload X.here hx rfl (hb hby at_408) rfl ?_
  refine XS.dload X.here hx rfl (hb hby at_410) rfl ?_
  refine XS.iload X.here hx rfl (hb hby at_412) rfl ?_
  refine XS.iload X.here hx rfl (hb hby at_414) rfl ?_
  refine XS.dload X.here hx rfl (hb hby at_416) rfl ?_
  refine XS.iload X.here hx rfl (hb hby at_418) rfl ?_
  refine XS.iload X.here hx rfl (hb hby at_420) rfl ?_
  refine XS.dload X.here hx rfl (hb hby at_422) rfl ?_
  show Steps _ _ _ (T.setTop (own_B v0 v1 v2 v3 v4 nU nD n u1 d1 u2 d2 u3 d3 x1 x2 x3 m 424 (.val (.ref aU)) (.val (.ref aD)) (.val (.ref aQ)) (.val (.ref o)) (.val (.ref g)) (.val (.double w00)) .second (.val (.int 1)) .unset [(.double x3), (.int d3), (.int u3), (.double x2), (.int d2), (.int u2), (.double x1), (.int d1), (.int u1), (.int n), (.int 1), (.int 0), (.double w01)])) _
  refine st1 _ ?_
  show Steps _ _ _ (T1.setTop (own_B v0 v1 v2 v3 v4 nU nD n u1 d1 u2 d2 u3 d3 x1 x2 x3 m 427 (.val (.ref aU)) (.val (.ref aD)) (.val (.ref aQ)) (.val (.ref o)) (.val (.ref g)) (.val (.double w00)) .second (.val (.int 1)) .unset [(.double w01), (.double w01)])) _
  refine XS.dcmpS X1.here hx rfl (hb hby at_427) rfl (dcmpV_self nn01 .l) ?_
  show Steps _ _ _ (T1.setTop (own_B v0 v1 v2 v3 v4 nU nD n u1 d1 u2 d2 u3 d3 x1 x2 x3 m 428 (.val (.ref aU)) (.val (.ref aD)) (.val (.ref aQ)) (.val (.ref o)) (.val (.ref g)) (.val (.double w00)) .second (.val (.int 1)) .unset [(.int 0)])) _
  refine XS.ifNo X1.here hx rfl (hb hby at_428) rfl (by decide) ?_
  refine XT.iconstV X1.here hx rfl 1 (hb hby at_431) rfl ?_
  show Steps _ _ _ (T1.setTop (own_B v0 v1 v2 v3 v4 nU nD n u1 d1 u2 d2 u3 d3 x1 x2 x3 m 432 (.val (.ref aU)) (.val (.ref aD)) (.val (.ref aQ)) (.val (.ref o)) (.val (.ref g)) (.val (.double w00)) .second (.val (.int 1)) .unset [(.int 1)])) _
  refine XS.goto X1.here hx rfl rfl (hb hby at_432) (show (0 : Int) ≤ ((432 : Nat) : Int) + (4) by decide) (show (((432 : Nat) : Int) + (4)).toNat = 436 by decide) ?_
  show Steps _ _ _ (T1.setTop (own_B v0 v1 v2 v3 v4 nU nD n u1 d1 u2 d2 u3 d3 x1 x2 x3 m 436 (.val (.ref aU)) (.val (.ref aD)) (.val (.ref aQ)) (.val (.ref o)) (.val (.ref g)) (.val (.double w00)) .second (.val (.int 1)) .unset [(.int 1)])) _
  refine XS.istore X1.here hx rfl (hb hby at_436) rfl rfl ?_
  show Steps _ _ _ (T1.setTop (own_B v0 v1 v2 v3 v4 nU nD n u1 d1 u2 d2 u3 d3 x1 x2 x3 m 438 (.val (.ref aU)) (.val (.ref aD)) (.val (.ref aQ)) (.val (.ref o)) (.val (.ref g)) (.val (.double w00)) .second (.val (.int 1)) .unset [])) _
  exact k'
theorem own_c0 (X : Stand p l e room_1 s m args below meth c T locs 38 158) (hx : p.tables.exec = Jvm.exec) (hZ : Z.Warmed39 s.vm) (hw : ∀ d ∈ tables_1, d.before a0 Z = true) {D IC EL EE EM MO b0 b1 : Addr} {cD cI cE : Cell} (G : own_G Z D IC EL EE EM MO b0 b1 cD cI cE) (hby : c.code = code) (hml : c.maxLocals = 29) (hown : s.vm.findClass "com/example/overweave/overweave/InstanceTrafficPinLaw" = some m.cls) (eT : T.heap = h) (N0 : Fr n0 locs) (Z0 : n0 ≤ h.size) (O : Old Z n0 h) {v0 v1 v2 v3 v4 nU nD n u1 d1 u2 d2 u3 d3 : Int32} {x1 x2 x3 : UInt64} {aU aD aQ o g : Addr} {bb : Nat} {w00 w01 w10 w11 : UInt64} (Gr : own_Gr Z bb h g nU nD w00 w01 w10 w11) (hU0 : 0 < nU) (hD0 : 0 < nD) (M1 : Mag64 1056 x1) (M2 : Mag64 1056 x2) (M3 : Mag64 1056 x3)  (hU1 : ¬ 1 < nU) :
    ∃ T' h' L', Stand p l e room_1 s m args below meth c T' L' 38 158 ∧ T'.heap = h' ∧ Fr n0 L' ∧ h' = h ∧ ∀ target, Steps p.tables e below (T'.setTop (own_B v0 v1 v2 v3 v4 nU nD n u1 d1 u2 d2 u3 d3 x1 x2 x3 m 491 (.val (.ref aU)) (.val (.ref aD)) (.val (.ref aQ)) (.val (.ref o)) (.val (.ref g)) (.val (.double w00)) .second (.val (.int 1)) .unset [])) target → Steps p.tables e below (T.setTop (own_B v0 v1 v2 v3 v4 nU nD n u1 d1 u2 d2 u3 d3 x1 x2 x3 m 438 (.val (.ref aU)) (.val (.ref aD)) (.val (.ref aQ)) (.val (.ref o)) (.val (.ref g)) (.val (.double w00)) .second (.val (.int 1)) .unset [])) target := by
  obtain ⟨q0, q1, k0, k1, Bg_, GA, R0, R1⟩ := id Gr
  refine ⟨T, h, _, X, eT, N0, rfl, fun target k' => ?_⟩
  show Steps _ _ _ (T.setTop (own_B v0 v1 v2 v3 v4 nU nD n u1 d1 u2 d2 u3 d3 x1 x2 x3 m 438 (.val (.ref aU)) (.val (.ref aD)) (.val (.ref aQ)) (.val (.ref o)) (.val (.ref g)) (.val (.double w00)) .second (.val (.int 1)) .unset [])) _
  refine XS.iload X.here hx rfl (hb hby at_438) rfl ?_
  refine XT.iconstV X.here hx rfl 1 (hb hby at_440) rfl ?_
  show Steps _ _ _ (T.setTop (own_B v0 v1 v2 v3 v4 nU nD n u1 d1 u2 d2 u3 d3 x1 x2 x3 m 441 (.val (.ref aU)) (.val (.ref aD)) (.val (.ref aQ)) (.val (.ref o)) (.val (.ref g)) (.val (.double w00)) .second (.val (.int 1)) .unset [(.int 1), (.int nU)])) _
  refine XS.icmpYes X.here hx rfl rfl (hb hby at_441) rfl (XT.ii_le_t hU1) (show (0 : Int) ≤ ((441 : Nat) : Int) + (50) by decide) (show (((441 : Nat) : Int) + (50)).toNat = 491 by decide) ?_
  show Steps _ _ _ (T.setTop (own_B v0 v1 v2 v3 v4 nU nD n u1 d1 u2 d2 u3 d3 x1 x2 x3 m 491 (.val (.ref aU)) (.val (.ref aD)) (.val (.ref aQ)) (.val (.ref o)) (.val (.ref g)) (.val (.double w00)) .second (.val (.int 1)) .unset [])) _
  exact k'
theorem own_c1 (X : Stand p l e room_1 s m args below meth c T locs 38 158) (hx : p.tables.exec = Jvm.exec) (hZ : Z.Warmed39 s.vm) (hw : ∀ d ∈ tables_1, d.before a0 Z = true) {D IC EL EE EM MO b0 b1 : Addr} {cD cI cE : Cell} (G : own_G Z D IC EL EE EM MO b0 b1 cD cI cE) (hby : c.code = code) (hml : c.maxLocals = 29) (hown : s.vm.findClass "com/example/overweave/overweave/InstanceTrafficPinLaw" = some m.cls) (eT : T.heap = h) (N0 : Fr n0 locs) (Z0 : n0 ≤ h.size) (O : Old Z n0 h) {v0 v1 v2 v3 v4 nU nD n u1 d1 u2 d2 u3 d3 : Int32} {x1 x2 x3 : UInt64} {aU aD aQ o g : Addr} {bb : Nat} {w00 w01 w10 w11 : UInt64} (Gr : own_Gr Z bb h g nU nD w00 w01 w10 w11) (hU0 : 0 < nU) (hD0 : 0 < nD) (M1 : Mag64 1056 x1) (M2 : Mag64 1056 x2) (M3 : Mag64 1056 x3) (hE10 : own_ex 1 0 n u1 d1 x1 u2 d2 x2 u3 d3 x3 = w10) (hU1 : 1 < nU) (hU2 : nU = 2) :
    ∃ T' h' L', Stand p l e room_1 s m args below meth c T' L' 38 158 ∧ T'.heap = h' ∧ Fr n0 L' ∧ h' = h ∧ ∀ target, Steps p.tables e below (T'.setTop (own_B v0 v1 v2 v3 v4 nU nD n u1 d1 u2 d2 u3 d3 x1 x2 x3 m 491 (.val (.ref aU)) (.val (.ref aD)) (.val (.ref aQ)) (.val (.ref o)) (.val (.ref g)) (.val (.double w00)) .second (.val (.int 1)) .unset [])) target → Steps p.tables e below (T.setTop (own_B v0 v1 v2 v3 v4 nU nD n u1 d1 u2 d2 u3 d3 x1 x2 x3 m 438 (.val (.ref aU)) (.val (.ref aD)) (.val (.ref aQ)) (.val (.ref o)) (.val (.ref g)) (.val (.double w00)) .second (.val (.int 1)) .unset [])) target := by
  obtain ⟨q0, q1, k0, k1, Bg_, GA, R0, R1⟩ := id Gr
  have nn10 := own_ex_nn M1 M2 M3 hE10
  obtain ⟨_, _, ⟨T1, L1, k1, n1⟩, -, X1, ⟨Lc1, hQ1, l1, y1, z1⟩, st1⟩ := Jvm.LawKit.callS X hx (y := (⟨"com/example/overweave/overweave/InstanceTrafficPinLaw", "exp", "(IIIIIDIIDIID)D"⟩ : MethodName)) hown (mvT hZ (ow hw 245 rfl)) (mvT hZ (ow hw 246 rfl)) (mvT hZ (ow hw 247 rfl)) (mvT hZ (ow hw 248 rfl)) (by decide) (backOf (W := 2) (own_exp l Z a0 hw [] 1 0 n u1 d1 x1 u2 d2 x2 u3 d3 x3 w10 M1 M2 M3 hE10 h n0 Z0) hZ (ow hw 248 rfl) (ow hw 247 rfl) (by decide) (by decide)) (g := (own_B v0 v1 v2 v3 v4 nU nD n u1 d1 u2 d2 u3 d3 x1 x2 x3 m 477 (.val (.ref aU)) (.val (.ref aD)) (.val (.ref aQ)) (.val (.ref o)) (.val (.ref g)) (.val (.double w00)) .second (.val (.int 1)) .unset [(.double x3), (.int d3), (.int u3), (.double x2), (.int d2), (.int u2), (.double x1), (.int d1), (.int u1), (.int n), (.int 0), (.int 1), (.double w10)])) rfl (by rw [hml]; rfl) (argsL := [(.int 1), (.int 0), (.int n), (.int u1), (.int d1), (.double x1), (.int u2), (.int d2), (.double x2), (.int u3), (.int d3), (.double x3)]) (rest := [(.double w10)]) (lenOf own_pd26 rfl) rfl (by show 2 * 0 + _ ≤ _; exact Nat.le_of_eq rfl) (hb hby at_477) (fun _ _ => ⟨rfl, eT, (by decide : 38 + 0 ≤ _), (by decide : 158 + 0 ≤ _)⟩)
  dsimp only [Pt.U, Pt.locs, Pt.cells, Pt.slots] at X1 l1 y1 z1 st1 hQ1
  subst l1 y1 z1
  obtain ⟨rfl, N1, e1⟩ := hQ1
  have N2_ := Fr.app N0 N1
  refine ⟨T1, h, _, X1, e1, N2_, rfl, fun target k' => ?_⟩
  show Steps _ _ _ (T.setTop (own_B v0 v1 v2 v3 v4 nU nD n u1 d1 u2 d2 u3 d3 x1 x2 x3 m 438 (.val (.ref aU)) (.val (.ref aD)) (.val (.ref aQ)) (.val (.ref o)) (.val (.ref g)) (.val (.double w00)) .second (.val (.int 1)) .unset [])) _
  refine XS.iload X.here hx rfl (hb hby at_438) rfl ?_
  refine XT.iconstV X.here hx rfl 1 (hb hby at_440) rfl ?_
  show Steps _ _ _ (T.setTop (own_B v0 v1 v2 v3 v4 nU nD n u1 d1 u2 d2 u3 d3 x1 x2 x3 m 441 (.val (.ref aU)) (.val (.ref aD)) (.val (.ref aQ)) (.val (.ref o)) (.val (.ref g)) (.val (.double w00)) .second (.val (.int 1)) .unset [(.int 1), (.int nU)])) _
  refine XS.icmpNo X.here hx rfl (hb hby at_441) rfl (XT.ii_le_f hU1) ?_
  refine XS.iload X.here hx rfl (hb hby at_444) rfl ?_
  show Steps _ _ _ (T.setTop (own_B v0 v1 v2 v3 v4 nU nD n u1 d1 u2 d2 u3 d3 x1 x2 x3 m 446 (.val (.ref aU)) (.val (.ref aD)) (.val (.ref aQ)) (.val (.ref o)) (.val (.ref g)) (.val (.double w00)) .second (.val (.int 1)) .unset [(.int 1)])) _
  refine XS.ifNo X.here hx rfl (hb hby at_446) rfl (by decide) ?_
  refine XS.aload X.here hx rfl (hb hby at_449) rfl rfl ?_
  refine XT.iconstV X.here hx rfl 1 (hb hby at_451) rfl ?_
  show Steps _ _ _ (T.setTop (own_B v0 v1 v2 v3 v4 nU nD n u1 d1 u2 d2 u3 d3 x1 x2 x3 m 452 (.val (.ref aU)) (.val (.ref aD)) (.val (.ref aQ)) (.val (.ref o)) (.val (.ref g)) (.val (.double w00)) .second (.val (.int 1)) .unset [(.int 1), (.ref g)])) _
  refine own_aald X hx hZ eT GA rfl ⟨by decide, hU1⟩ rfl (g := (own_B v0 v1 v2 v3 v4 nU nD n u1 d1 u2 d2 u3 d3 x1 x2 x3 m 452 (.val (.ref aU)) (.val (.ref aD)) (.val (.ref aQ)) (.val (.ref o)) (.val (.ref g)) (.val (.double w00)) .second (.val (.int 1)) .unset [(.int 1), (.ref g)])) rfl rfl (hb hby at_452) _ ?_
  refine XT.iconstV X.here hx rfl 0 (hb hby at_453) rfl ?_
  show Steps _ _ _ (T.setTop (own_B v0 v1 v2 v3 v4 nU nD n u1 d1 u2 d2 u3 d3 x1 x2 x3 m 454 (.val (.ref aU)) (.val (.ref aD)) (.val (.ref aQ)) (.val (.ref o)) (.val (.ref g)) (.val (.double w00)) .second (.val (.int 1)) .unset [(.int 0), (.ref q1)])) _
  refine own_dald X hx hZ eT (R1 hU2) ⟨by decide, hD0⟩ rfl (g := (own_B v0 v1 v2 v3 v4 nU nD n u1 d1 u2 d2 u3 d3 x1 x2 x3 m 454 (.val (.ref aU)) (.val (.ref aD)) (.val (.ref aQ)) (.val (.ref o)) (.val (.ref g)) (.val (.double w00)) .second (.val (.int 1)) .unset [(.int 0), (.ref q1)])) rfl rfl (hb hby at_454) _ ?_
  refine XT.iconstV X.here hx rfl 1 (hb hby at_455) rfl ?_
  refine XT.iconstV X.here hx rfl 0 (hb hby at_456) rfl ?_
  refine XS.iload X.here hx rfl (hb hby at_457) rfl ?_
  refine XS.iload X.here hx rfl (hb hby at_459) rfl ?_
  refine XS.iload X.here hx rfl (hb hby at_461) rfl ?_
  refine XS.dload X.here hx rfl (hb hby at_463) rfl ?_
  refine XS.iload X.here hx rfl (hb hby at_465) rfl ?_
  refine XS.iload X.here hx rfl (hb hby at_467) rfl ?_
  refine XS.dload X.here hx rfl (hb hby at_469) rfl ?_
  refine XS.iload X.here hx rfl (hb hby at_471) rfl ?_
  refine XS.iload X.here hx rfl (hb hby at_473) rfl ?_
  refine XS.dload X.here hx rfl (hb hby at_475) rfl ?_
  show Steps _ _ _ (T.setTop (own_B v0 v1 v2 v3 v4 nU nD n u1 d1 u2 d2 u3 d3 x1 x2 x3 m 477 (.val (.ref aU)) (.val (.ref aD)) (.val (.ref aQ)) (.val (.ref o)) (.val (.ref g)) (.val (.double w00)) .second (.val (.int 1)) .unset [(.double x3), (.int d3), (.int u3), (.double x2), (.int d2), (.int u2), (.double x1), (.int d1), (.int u1), (.int n), (.int 0), (.int 1), (.double w10)])) _
  refine st1 _ ?_
  show Steps _ _ _ (T1.setTop (own_B v0 v1 v2 v3 v4 nU nD n u1 d1 u2 d2 u3 d3 x1 x2 x3 m 480 (.val (.ref aU)) (.val (.ref aD)) (.val (.ref aQ)) (.val (.ref o)) (.val (.ref g)) (.val (.double w00)) .second (.val (.int 1)) .unset [(.double w10), (.double w10)])) _
  refine XS.dcmpS X1.here hx rfl (hb hby at_480) rfl (dcmpV_self nn10 .l) ?_
  show Steps _ _ _ (T1.setTop (own_B v0 v1 v2 v3 v4 nU nD n u1 d1 u2 d2 u3 d3 x1 x2 x3 m 481 (.val (.ref aU)) (.val (.ref aD)) (.val (.ref aQ)) (.val (.ref o)) (.val (.ref g)) (.val (.double w00)) .second (.val (.int 1)) .unset [(.int 0)])) _
  refine XS.ifNo X1.here hx rfl (hb hby at_481) rfl (by decide) ?_
  refine XT.iconstV X1.here hx rfl 1 (hb hby at_484) rfl ?_
  show Steps _ _ _ (T1.setTop (own_B v0 v1 v2 v3 v4 nU nD n u1 d1 u2 d2 u3 d3 x1 x2 x3 m 485 (.val (.ref aU)) (.val (.ref aD)) (.val (.ref aQ)) (.val (.ref o)) (.val (.ref g)) (.val (.double w00)) .second (.val (.int 1)) .unset [(.int 1)])) _
  refine XS.goto X1.here hx rfl rfl (hb hby at_485) (show (0 : Int) ≤ ((485 : Nat) : Int) + (4) by decide) (show (((485 : Nat) : Int) + (4)).toNat = 489 by decide) ?_
  show Steps _ _ _ (T1.setTop (own_B v0 v1 v2 v3 v4 nU nD n u1 d1 u2 d2 u3 d3 x1 x2 x3 m 489 (.val (.ref aU)) (.val (.ref aD)) (.val (.ref aQ)) (.val (.ref o)) (.val (.ref g)) (.val (.double w00)) .second (.val (.int 1)) .unset [(.int 1)])) _
  refine XS.istore X1.here hx rfl (hb hby at_489) rfl rfl ?_
  show Steps _ _ _ (T1.setTop (own_B v0 v1 v2 v3 v4 nU nD n u1 d1 u2 d2 u3 d3 x1 x2 x3 m 491 (.val (.ref aU)) (.val (.ref aD)) (.val (.ref aQ)) (.val (.ref o)) (.val (.ref g)) (.val (.double w00)) .second (.val (.int 1)) .unset [])) _
  exact k'
theorem own_d0 (X : Stand p l e room_1 s m args below meth c T locs 38 158) (hx : p.tables.exec = Jvm.exec) (hZ : Z.Warmed39 s.vm) (hw : ∀ d ∈ tables_1, d.before a0 Z = true) {D IC EL EE EM MO b0 b1 : Addr} {cD cI cE : Cell} (G : own_G Z D IC EL EE EM MO b0 b1 cD cI cE) (hby : c.code = code) (hml : c.maxLocals = 29) (hown : s.vm.findClass "com/example/overweave/overweave/InstanceTrafficPinLaw" = some m.cls) (eT : T.heap = h) (N0 : Fr n0 locs) (Z0 : n0 ≤ h.size) (O : Old Z n0 h) {v0 v1 v2 v3 v4 nU nD n u1 d1 u2 d2 u3 d3 : Int32} {x1 x2 x3 : UInt64} {aU aD aQ o g : Addr} {bb : Nat} {w00 w01 w10 w11 : UInt64} (Gr : own_Gr Z bb h g nU nD w00 w01 w10 w11) (hU0 : 0 < nU) (hD0 : 0 < nD) (M1 : Mag64 1056 x1) (M2 : Mag64 1056 x2) (M3 : Mag64 1056 x3)  (hU1 : ¬ 1 < nU) :
    ∃ T' h' L', Stand p l e room_1 s m args below meth c T' L' 38 158 ∧ T'.heap = h' ∧ Fr n0 L' ∧ h' = h ∧ ∀ target, Steps p.tables e below (T'.setTop (own_B v0 v1 v2 v3 v4 nU nD n u1 d1 u2 d2 u3 d3 x1 x2 x3 m 550 (.val (.ref aU)) (.val (.ref aD)) (.val (.ref aQ)) (.val (.ref o)) (.val (.ref g)) (.val (.double w00)) .second (.val (.int 1)) .unset [])) target → Steps p.tables e below (T.setTop (own_B v0 v1 v2 v3 v4 nU nD n u1 d1 u2 d2 u3 d3 x1 x2 x3 m 491 (.val (.ref aU)) (.val (.ref aD)) (.val (.ref aQ)) (.val (.ref o)) (.val (.ref g)) (.val (.double w00)) .second (.val (.int 1)) .unset [])) target := by
  obtain ⟨q0, q1, k0, k1, Bg_, GA, R0, R1⟩ := id Gr
  refine ⟨T, h, _, X, eT, N0, rfl, fun target k' => ?_⟩
  show Steps _ _ _ (T.setTop (own_B v0 v1 v2 v3 v4 nU nD n u1 d1 u2 d2 u3 d3 x1 x2 x3 m 491 (.val (.ref aU)) (.val (.ref aD)) (.val (.ref aQ)) (.val (.ref o)) (.val (.ref g)) (.val (.double w00)) .second (.val (.int 1)) .unset [])) _
  refine XS.iload X.here hx rfl (hb hby at_491) rfl ?_
  refine XT.iconstV X.here hx rfl 1 (hb hby at_493) rfl ?_
  show Steps _ _ _ (T.setTop (own_B v0 v1 v2 v3 v4 nU nD n u1 d1 u2 d2 u3 d3 x1 x2 x3 m 494 (.val (.ref aU)) (.val (.ref aD)) (.val (.ref aQ)) (.val (.ref o)) (.val (.ref g)) (.val (.double w00)) .second (.val (.int 1)) .unset [(.int 1), (.int nU)])) _
  refine XS.icmpYes X.here hx rfl rfl (hb hby at_494) rfl (XT.ii_le_t hU1) (show (0 : Int) ≤ ((494 : Nat) : Int) + (56) by decide) (show (((494 : Nat) : Int) + (56)).toNat = 550 by decide) ?_
  show Steps _ _ _ (T.setTop (own_B v0 v1 v2 v3 v4 nU nD n u1 d1 u2 d2 u3 d3 x1 x2 x3 m 550 (.val (.ref aU)) (.val (.ref aD)) (.val (.ref aQ)) (.val (.ref o)) (.val (.ref g)) (.val (.double w00)) .second (.val (.int 1)) .unset [])) _
  exact k'
theorem own_d1_ (X : Stand p l e room_1 s m args below meth c T locs 38 158) (hx : p.tables.exec = Jvm.exec) (hZ : Z.Warmed39 s.vm) (hw : ∀ d ∈ tables_1, d.before a0 Z = true) {D IC EL EE EM MO b0 b1 : Addr} {cD cI cE : Cell} (G : own_G Z D IC EL EE EM MO b0 b1 cD cI cE) (hby : c.code = code) (hml : c.maxLocals = 29) (hown : s.vm.findClass "com/example/overweave/overweave/InstanceTrafficPinLaw" = some m.cls) (eT : T.heap = h) (N0 : Fr n0 locs) (Z0 : n0 ≤ h.size) (O : Old Z n0 h) {v0 v1 v2 v3 v4 nU nD n u1 d1 u2 d2 u3 d3 : Int32} {x1 x2 x3 : UInt64} {aU aD aQ o g : Addr} {bb : Nat} {w00 w01 w10 w11 : UInt64} (Gr : own_Gr Z bb h g nU nD w00 w01 w10 w11) (hU0 : 0 < nU) (hD0 : 0 < nD) (M1 : Mag64 1056 x1) (M2 : Mag64 1056 x2) (M3 : Mag64 1056 x3)  (hU1 : 1 < nU) (hD1 : ¬ 1 < nD) :
    ∃ T' h' L', Stand p l e room_1 s m args below meth c T' L' 38 158 ∧ T'.heap = h' ∧ Fr n0 L' ∧ h' = h ∧ ∀ target, Steps p.tables e below (T'.setTop (own_B v0 v1 v2 v3 v4 nU nD n u1 d1 u2 d2 u3 d3 x1 x2 x3 m 550 (.val (.ref aU)) (.val (.ref aD)) (.val (.ref aQ)) (.val (.ref o)) (.val (.ref g)) (.val (.double w00)) .second (.val (.int 1)) .unset [])) target → Steps p.tables e below (T.setTop (own_B v0 v1 v2 v3 v4 nU nD n u1 d1 u2 d2 u3 d3 x1 x2 x3 m 491 (.val (.ref aU)) (.val (.ref aD)) (.val (.ref aQ)) (.val (.ref o)) (.val (.ref g)) (.val (.double w00)) .second (.val (.int 1)) .unset [])) target := by
  obtain ⟨q0, q1, k0, k1, Bg_, GA, R0, R1⟩ := id Gr
  refine ⟨T, h, _, X, eT, N0, rfl, fun target k' => ?_⟩
  show Steps _ _ _ (T.setTop (own_B v0 v1 v2 v3 v4 nU nD n u1 d1 u2 d2 u3 d3 x1 x2 x3 m 491 (.val (.ref aU)) (.val (.ref aD)) (.val (.ref aQ)) (.val (.ref o)) (.val (.ref g)) (.val (.double w00)) .second (.val (.int 1)) .unset [])) _
  refine XS.iload X.here hx rfl (hb hby at_491) rfl ?_
  refine XT.iconstV X.here hx rfl 1 (hb hby at_493) rfl ?_
  show Steps _ _ _ (T.setTop (own_B v0 v1 v2 v3 v4 nU nD n u1 d1 u2 d2 u3 d3 x1 x2 x3 m 494 (.val (.ref aU)) (.val (.ref aD)) (.val (.ref aQ)) (.val (.ref o)) (.val (.ref g)) (.val (.double w00)) .second (.val (.int 1)) .unset [(.int 1), (.int nU)])) _
  refine XS.icmpNo X.here hx rfl (hb hby at_494) rfl (XT.ii_le_f hU1) ?_
  refine XS.iload X.here hx rfl (hb hby at_497) rfl ?_
  refine XT.iconstV X.here hx rfl 1 (hb hby at_499) rfl ?_
  show Steps _ _ _ (T.setTop (own_B v0 v1 v2 v3 v4 nU nD n u1 d1 u2 d2 u3 d3 x1 x2 x3 m 500 (.val (.ref aU)) (.val (.ref aD)) (.val (.ref aQ)) (.val (.ref o)) (.val (.ref g)) (.val (.double w00)) .second (.val (.int 1)) .unset [(.int 1), (.int nD)])) _
  refine XS.icmpYes X.here hx rfl rfl (hb hby at_500) rfl (XT.ii_le_t hD1) (show (0 : Int) ≤ ((500 : Nat) : Int) + (50) by decide) (show (((500 : Nat) : Int) + (50)).toNat = 550 by decide) ?_
  show Steps _ _ _ (T.setTop (own_B v0 v1 v2 v3 v4 nU nD n u1 d1 u2 d2 u3 d3 x1 x2 x3 m 550 (.val (.ref aU)) (.val (.ref aD)) (.val (.ref aQ)) (.val (.ref o)) (.val (.ref g)) (.val (.double w00)) .second (.val (.int 1)) .unset [])) _
  exact k'
theorem own_d2_ (X : Stand p l e room_1 s m args below meth c T locs 38 158) (hx : p.tables.exec = Jvm.exec) (hZ : Z.Warmed39 s.vm) (hw : ∀ d ∈ tables_1, d.before a0 Z = true) {D IC EL EE EM MO b0 b1 : Addr} {cD cI cE : Cell} (G : own_G Z D IC EL EE EM MO b0 b1 cD cI cE) (hby : c.code = code) (hml : c.maxLocals = 29) (hown : s.vm.findClass "com/example/overweave/overweave/InstanceTrafficPinLaw" = some m.cls) (eT : T.heap = h) (N0 : Fr n0 locs) (Z0 : n0 ≤ h.size) (O : Old Z n0 h) {v0 v1 v2 v3 v4 nU nD n u1 d1 u2 d2 u3 d3 : Int32} {x1 x2 x3 : UInt64} {aU aD aQ o g : Addr} {bb : Nat} {w00 w01 w10 w11 : UInt64} (Gr : own_Gr Z bb h g nU nD w00 w01 w10 w11) (hU0 : 0 < nU) (hD0 : 0 < nD) (M1 : Mag64 1056 x1) (M2 : Mag64 1056 x2) (M3 : Mag64 1056 x3) (hE11 : own_ex 1 1 n u1 d1 x1 u2 d2 x2 u3 d3 x3 = w11) (hU1 : 1 < nU) (hU2 : nU = 2) (hD1 : 1 < nD) :
    ∃ T' h' L', Stand p l e room_1 s m args below meth c T' L' 38 158 ∧ T'.heap = h' ∧ Fr n0 L' ∧ h' = h ∧ ∀ target, Steps p.tables e below (T'.setTop (own_B v0 v1 v2 v3 v4 nU nD n u1 d1 u2 d2 u3 d3 x1 x2 x3 m 550 (.val (.ref aU)) (.val (.ref aD)) (.val (.ref aQ)) (.val (.ref o)) (.val (.ref g)) (.val (.double w00)) .second (.val (.int 1)) .unset [])) target → Steps p.tables e below (T.setTop (own_B v0 v1 v2 v3 v4 nU nD n u1 d1 u2 d2 u3 d3 x1 x2 x3 m 491 (.val (.ref aU)) (.val (.ref aD)) (.val (.ref aQ)) (.val (.ref o)) (.val (.ref g)) (.val (.double w00)) .second (.val (.int 1)) .unset [])) target := by
  obtain ⟨q0, q1, k0, k1, Bg_, GA, R0, R1⟩ := id Gr
  have nn11 := own_ex_nn M1 M2 M3 hE11
  obtain ⟨_, _, ⟨T1, L1, k1, n1⟩, -, X1, ⟨Lc1, hQ1, l1, y1, z1⟩, st1⟩ := Jvm.LawKit.callS X hx (y := (⟨"com/example/overweave/overweave/InstanceTrafficPinLaw", "exp", "(IIIIIDIIDIID)D"⟩ : MethodName)) hown (mvT hZ (ow hw 245 rfl)) (mvT hZ (ow hw 246 rfl)) (mvT hZ (ow hw 247 rfl)) (mvT hZ (ow hw 248 rfl)) (by decide) (backOf (W := 2) (own_exp l Z a0 hw [] 1 1 n u1 d1 x1 u2 d2 x2 u3 d3 x3 w11 M1 M2 M3 hE11 h n0 Z0) hZ (ow hw 248 rfl) (ow hw 247 rfl) (by decide) (by decide)) (g := (own_B v0 v1 v2 v3 v4 nU nD n u1 d1 u2 d2 u3 d3 x1 x2 x3 m 536 (.val (.ref aU)) (.val (.ref aD)) (.val (.ref aQ)) (.val (.ref o)) (.val (.ref g)) (.val (.double w00)) .second (.val (.int 1)) .unset [(.double x3), (.int d3), (.int u3), (.double x2), (.int d2), (.int u2), (.double x1), (.int d1), (.int u1), (.int n), (.int 1), (.int 1), (.double w11)])) rfl (by rw [hml]; rfl) (argsL := [(.int 1), (.int 1), (.int n), (.int u1), (.int d1), (.double x1), (.int u2), (.int d2), (.double x2), (.int u3), (.int d3), (.double x3)]) (rest := [(.double w11)]) (lenOf own_pd26 rfl) rfl (by show 2 * 0 + _ ≤ _; exact Nat.le_of_eq rfl) (hb hby at_536) (fun _ _ => ⟨rfl, eT, (by decide : 38 + 0 ≤ _), (by decide : 158 + 0 ≤ _)⟩)
  dsimp only [Pt.U, Pt.locs, Pt.cells, Pt.slots] at X1 l1 y1 z1 st1 hQ1
  subst l1 y1 z1
  obtain ⟨rfl, N1, e1⟩ := hQ1
  have N2_ := Fr.app N0 N1
  refine ⟨T1, h, _, X1, e1, N2_, rfl, fun target k' => ?_⟩
  show Steps _ _ _ (T.setTop (own_B v0 v1 v2 v3 v4 nU nD n u1 d1 u2 d2 u3 d3 x1 x2 x3 m 491 (.val (.ref aU)) (.val (.ref aD)) (.val (.ref aQ)) (.val (.ref o)) (.val (.ref g)) (.val (.double w00)) .second (.val (.int 1)) .unset [])) _
  refine XS.iload X.here hx rfl (hb hby at_491) rfl ?_
  refine XT.iconstV X.here hx rfl 1 (hb hby at_493) rfl ?_
  show Steps _ _ _ (T.setTop (own_B v0 v1 v2 v3 v4 nU nD n u1 d1 u2 d2 u3 d3 x1 x2 x3 m 494 (.val (.ref aU)) (.val (.ref aD)) (.val (.ref aQ)) (.val (.ref o)) (.val (.ref g)) (.val (.double w00)) .second (.val (.int 1)) .unset [(.int 1), (.int nU)])) _
  refine XS.icmpNo X.here hx rfl (hb hby at_494) rfl (XT.ii_le_f hU1) ?_
  refine XS.iload X.here hx rfl (hb hby at_497) rfl ?_
  refine XT.iconstV X.here hx rfl 1 (hb hby at_499) rfl ?_
  show Steps _ _ _ (T.setTop (own_B v0 v1 v2 v3 v4 nU nD n u1 d1 u2 d2 u3 d3 x1 x2 x3 m 500 (.val (.ref aU)) (.val (.ref aD)) (.val (.ref aQ)) (.val (.ref o)) (.val (.ref g)) (.val (.double w00)) .second (.val (.int 1)) .unset [(.int 1), (.int nD)])) _
  refine XS.icmpNo X.here hx rfl (hb hby at_500) rfl (XT.ii_le_f hD1) ?_
  refine XS.iload X.here hx rfl (hb hby at_503) rfl ?_
  show Steps _ _ _ (T.setTop (own_B v0 v1 v2 v3 v4 nU nD n u1 d1 u2 d2 u3 d3 x1 x2 x3 m 505 (.val (.ref aU)) (.val (.ref aD)) (.val (.ref aQ)) (.val (.ref o)) (.val (.ref g)) (.val (.double w00)) .second (.val (.int 1)) .unset [(.int 1)])) _
  refine XS.ifNo X.here hx rfl (hb hby at_505) rfl (by decide) ?_
  refine XS.aload X.here hx rfl (hb hby at_508) rfl rfl ?_
  refine XT.iconstV X.here hx rfl 1 (hb hby at_510) rfl ?_
  show Steps _ _ _ (T.setTop (own_B v0 v1 v2 v3 v4 nU nD n u1 d1 u2 d2 u3 d3 x1 x2 x3 m 511 (.val (.ref aU)) (.val (.ref aD)) (.val (.ref aQ)) (.val (.ref o)) (.val (.ref g)) (.val (.double w00)) .second (.val (.int 1)) .unset [(.int 1), (.ref g)])) _
  refine own_aald X hx hZ eT GA rfl ⟨by decide, hU1⟩ rfl (g := (own_B v0 v1 v2 v3 v4 nU nD n u1 d1 u2 d2 u3 d3 x1 x2 x3 m 511 (.val (.ref aU)) (.val (.ref aD)) (.val (.ref aQ)) (.val (.ref o)) (.val (.ref g)) (.val (.double w00)) .second (.val (.int 1)) .unset [(.int 1), (.ref g)])) rfl rfl (hb hby at_511) _ ?_
  refine XT.iconstV X.here hx rfl 1 (hb hby at_512) rfl ?_
  show Steps _ _ _ (T.setTop (own_B v0 v1 v2 v3 v4 nU nD n u1 d1 u2 d2 u3 d3 x1 x2 x3 m 513 (.val (.ref aU)) (.val (.ref aD)) (.val (.ref aQ)) (.val (.ref o)) (.val (.ref g)) (.val (.double w00)) .second (.val (.int 1)) .unset [(.int 1), (.ref q1)])) _
  refine own_dald X hx hZ eT (R1 hU2) ⟨by decide, hD1⟩ rfl (g := (own_B v0 v1 v2 v3 v4 nU nD n u1 d1 u2 d2 u3 d3 x1 x2 x3 m 513 (.val (.ref aU)) (.val (.ref aD)) (.val (.ref aQ)) (.val (.ref o)) (.val (.ref g)) (.val (.double w00)) .second (.val (.int 1)) .unset [(.int 1), (.ref q1)])) rfl rfl (hb hby at_513) _ ?_
  refine XT.iconstV X.here hx rfl 1 (hb hby at_514) rfl ?_
  refine XT.iconstV X.here hx rfl 1 (hb hby at_515) rfl ?_
  refine XS.iload X.here hx rfl (hb hby at_516) rfl ?_
  refine XS.iload X.here hx rfl (hb hby at_518) rfl ?_
  refine XS.iload X.here hx rfl (hb hby at_520) rfl ?_
  refine XS.dload X.here hx rfl (hb hby at_522) rfl ?_
  refine XS.iload X.here hx rfl (hb hby at_524) rfl ?_
  refine XS.iload X.here hx rfl (hb hby at_526) rfl ?_
  refine XS.dload X.here hx rfl (hb hby at_528) rfl ?_
  refine XS.iload X.here hx rfl (hb hby at_530) rfl ?_
  refine XS.iload X.here hx rfl (hb hby at_532) rfl ?_
  refine XS.dload X.here hx rfl (hb hby at_534) rfl ?_
  show Steps _ _ _ (T.setTop (own_B v0 v1 v2 v3 v4 nU nD n u1 d1 u2 d2 u3 d3 x1 x2 x3 m 536 (.val (.ref aU)) (.val (.ref aD)) (.val (.ref aQ)) (.val (.ref o)) (.val (.ref g)) (.val (.double w00)) .second (.val (.int 1)) .unset [(.double x3), (.int d3), (.int u3), (.double x2), (.int d2), (.int u2), (.double x1), (.int d1), (.int u1), (.int n), (.int 1), (.int 1), (.double w11)])) _
  refine st1 _ ?_
  show Steps _ _ _ (T1.setTop (own_B v0 v1 v2 v3 v4 nU nD n u1 d1 u2 d2 u3 d3 x1 x2 x3 m 539 (.val (.ref aU)) (.val (.ref aD)) (.val (.ref aQ)) (.val (.ref o)) (.val (.ref g)) (.val (.double w00)) .second (.val (.int 1)) .unset [(.double w11), (.double w11)])) _
  refine XS.dcmpS X1.here hx rfl (hb hby at_539) rfl (dcmpV_self nn11 .l) ?_
  show Steps _ _ _ (T1.setTop (own_B v0 v1 v2 v3 v4 nU nD n u1 d1 u2 d2 u3 d3 x1 x2 x3 m 540 (.val (.ref aU)) (.val (.ref aD)) (.val (.ref aQ)) (.val (.ref o)) (.val (.ref g)) (.val (.double w00)) .second (.val (.int 1)) .unset [(.int 0)])) _
  refine XS.ifNo X1.here hx rfl (hb hby at_540) rfl (by decide) ?_
  refine XT.iconstV X1.here hx rfl 1 (hb hby at_543) rfl ?_
  show Steps _ _ _ (T1.setTop (own_B v0 v1 v2 v3 v4 nU nD n u1 d1 u2 d2 u3 d3 x1 x2 x3 m 544 (.val (.ref aU)) (.val (.ref aD)) (.val (.ref aQ)) (.val (.ref o)) (.val (.ref g)) (.val (.double w00)) .second (.val (.int 1)) .unset [(.int 1)])) _
  refine XS.goto X1.here hx rfl rfl (hb hby at_544) (show (0 : Int) ≤ ((544 : Nat) : Int) + (4) by decide) (show (((544 : Nat) : Int) + (4)).toNat = 548 by decide) ?_
  show Steps _ _ _ (T1.setTop (own_B v0 v1 v2 v3 v4 nU nD n u1 d1 u2 d2 u3 d3 x1 x2 x3 m 548 (.val (.ref aU)) (.val (.ref aD)) (.val (.ref aQ)) (.val (.ref o)) (.val (.ref g)) (.val (.double w00)) .second (.val (.int 1)) .unset [(.int 1)])) _
  refine XS.istore X1.here hx rfl (hb hby at_548) rfl rfl ?_
  show Steps _ _ _ (T1.setTop (own_B v0 v1 v2 v3 v4 nU nD n u1 d1 u2 d2 u3 d3 x1 x2 x3 m 550 (.val (.ref aU)) (.val (.ref aD)) (.val (.ref aQ)) (.val (.ref o)) (.val (.ref g)) (.val (.double w00)) .second (.val (.int 1)) .unset [])) _
  exact k'
theorem own_w (X : Stand p l e room_1 s m args below meth c T locs 38 158) (hx : p.tables.exec = Jvm.exec) (hZ : Z.Warmed39 s.vm) (hw : ∀ d ∈ tables_1, d.before a0 Z = true) {D IC EL EE EM MO b0 b1 : Addr} {cD cI cE : Cell} (G : own_G Z D IC EL EE EM MO b0 b1 cD cI cE) (hby : c.code = code) (hml : c.maxLocals = 29) (hown : s.vm.findClass "com/example/overweave/overweave/InstanceTrafficPinLaw" = some m.cls) (eT : T.heap = h) (N0 : Fr n0 locs) (Z0 : n0 ≤ h.size) (O : Old Z n0 h) {v0 v1 v2 v3 v4 nU nD n u1 d1 u2 d2 u3 d3 : Int32} {x1 x2 x3 : UInt64} {aU aD aQ o g : Addr} {bb : Nat} {w00 w01 w10 w11 : UInt64} (Gr : own_Gr Z bb h g nU nD w00 w01 w10 w11) (hU0 : 0 < nU) (hD0 : 0 < nD) (M1 : Mag64 1056 x1) (M2 : Mag64 1056 x2) (M3 : Mag64 1056 x3) (hE00 : own_ex 0 0 n u1 d1 x1 u2 d2 x2 u3 d3 x3 = w00) (hbb : n0 ≤ bb) :
    ∃ T' h' L' q, Stand p l e room_1 s m args below meth c T' L' 38 158 ∧ T'.heap = h' ∧ Fr n0 L' ∧ bb ≤ q ∧ Keep h h' [q] ∧ ∀ target, Steps p.tables e below (T'.setTop (own_B v0 v1 v2 v3 v4 nU nD n u1 d1 u2 d2 u3 d3 x1 x2 x3 m 564 (.val (.ref aU)) (.val (.ref aD)) (.val (.ref aQ)) (.val (.ref o)) (.val (.ref g)) (.val (.double w00)) .second (.val (.int 1)) .unset [])) target → Steps p.tables e below (T.setTop (own_B v0 v1 v2 v3 v4 nU nD n u1 d1 u2 d2 u3 d3 x1 x2 x3 m 550 (.val (.ref aU)) (.val (.ref aD)) (.val (.ref aQ)) (.val (.ref o)) (.val (.ref g)) (.val (.double w00)) .second (.val (.int 1)) .unset [])) target := by
  obtain ⟨q0, q1, k0, k1, ⟨Bg, B0, -⟩, GA, R0, R1⟩ := id Gr
  have mg : Mag64 1062 w00 := hE00 ▸ own_ex_mag M1 M2 M3
  have nn1 : NoNaN64 (FP.dadd w00 4607182418800017408) := ((dadd_mag mg (show Mag64 1062 4607182418800017408 by unfold Mag64; decide) (by decide)).fin (by decide)).noNaN
  obtain ⟨T1, h1, X1, e1, W1, Rr1, st1⟩ := own_dast X hx hZ eT R0 ⟨by decide, hD0⟩ (i := 0) (by decide) (by simp) (g := (own_B v0 v1 v2 v3 v4 nU nD n u1 d1 u2 d2 u3 d3 x1 x2 x3 m 563 (.val (.ref aU)) (.val (.ref aD)) (.val (.ref aQ)) (.val (.ref o)) (.val (.ref g)) (.val (.double w00)) .second (.val (.int 1)) .unset [(.double (FP.dadd w00 4607182418800017408)), (.int 0), (.ref q0)])) rfl rfl (hb hby at_563)
  have N1 := Fr.snoc X1 N0 (Nat.le_trans hbb B0)
  have K2_ := (Keep.refl h [q0]).wr W1 (Or.inl (List.mem_of_getElem? (i := 0) rfl))
  refine ⟨T1, h1, _, q0, X1, e1, N1, B0, K2_, fun target k' => ?_⟩
  show Steps _ _ _ (T.setTop (own_B v0 v1 v2 v3 v4 nU nD n u1 d1 u2 d2 u3 d3 x1 x2 x3 m 550 (.val (.ref aU)) (.val (.ref aD)) (.val (.ref aQ)) (.val (.ref o)) (.val (.ref g)) (.val (.double w00)) .second (.val (.int 1)) .unset [])) _
  refine XS.aload X.here hx rfl (hb hby at_550) rfl rfl ?_
  refine XT.iconstV X.here hx rfl 0 (hb hby at_552) rfl ?_
  show Steps _ _ _ (T.setTop (own_B v0 v1 v2 v3 v4 nU nD n u1 d1 u2 d2 u3 d3 x1 x2 x3 m 553 (.val (.ref aU)) (.val (.ref aD)) (.val (.ref aQ)) (.val (.ref o)) (.val (.ref g)) (.val (.double w00)) .second (.val (.int 1)) .unset [(.int 0), (.ref g)])) _
  refine own_aald X hx hZ eT GA rfl ⟨by decide, hU0⟩ rfl (g := (own_B v0 v1 v2 v3 v4 nU nD n u1 d1 u2 d2 u3 d3 x1 x2 x3 m 553 (.val (.ref aU)) (.val (.ref aD)) (.val (.ref aQ)) (.val (.ref o)) (.val (.ref g)) (.val (.double w00)) .second (.val (.int 1)) .unset [(.int 0), (.ref g)])) rfl rfl (hb hby at_553) _ ?_
  refine XT.iconstV X.here hx rfl 0 (hb hby at_554) rfl ?_
  refine XS.aload X.here hx rfl (hb hby at_555) rfl rfl ?_
  refine XT.iconstV X.here hx rfl 0 (hb hby at_557) rfl ?_
  show Steps _ _ _ (T.setTop (own_B v0 v1 v2 v3 v4 nU nD n u1 d1 u2 d2 u3 d3 x1 x2 x3 m 558 (.val (.ref aU)) (.val (.ref aD)) (.val (.ref aQ)) (.val (.ref o)) (.val (.ref g)) (.val (.double w00)) .second (.val (.int 1)) .unset [(.int 0), (.ref g), (.int 0), (.ref q0)])) _
  refine own_aald X hx hZ eT GA rfl ⟨by decide, hU0⟩ rfl (g := (own_B v0 v1 v2 v3 v4 nU nD n u1 d1 u2 d2 u3 d3 x1 x2 x3 m 558 (.val (.ref aU)) (.val (.ref aD)) (.val (.ref aQ)) (.val (.ref o)) (.val (.ref g)) (.val (.double w00)) .second (.val (.int 1)) .unset [(.int 0), (.ref g), (.int 0), (.ref q0)])) rfl rfl (hb hby at_558) _ ?_
  refine XT.iconstV X.here hx rfl 0 (hb hby at_559) rfl ?_
  show Steps _ _ _ (T.setTop (own_B v0 v1 v2 v3 v4 nU nD n u1 d1 u2 d2 u3 d3 x1 x2 x3 m 560 (.val (.ref aU)) (.val (.ref aD)) (.val (.ref aQ)) (.val (.ref o)) (.val (.ref g)) (.val (.double w00)) .second (.val (.int 1)) .unset [(.int 0), (.ref q0), (.int 0), (.ref q0)])) _
  refine own_dald X hx hZ eT R0 ⟨by decide, hD0⟩ rfl (g := (own_B v0 v1 v2 v3 v4 nU nD n u1 d1 u2 d2 u3 d3 x1 x2 x3 m 560 (.val (.ref aU)) (.val (.ref aD)) (.val (.ref aQ)) (.val (.ref o)) (.val (.ref g)) (.val (.double w00)) .second (.val (.int 1)) .unset [(.int 0), (.ref q0), (.int 0), (.ref q0)])) rfl rfl (hb hby at_560) _ ?_
  refine XS.dconst1 X.here hx rfl (hb hby at_561) rfl ?_
  show Steps _ _ _ (T.setTop (own_B v0 v1 v2 v3 v4 nU nD n u1 d1 u2 d2 u3 d3 x1 x2 x3 m 562 (.val (.ref aU)) (.val (.ref aD)) (.val (.ref aQ)) (.val (.ref o)) (.val (.ref g)) (.val (.double w00)) .second (.val (.int 1)) .unset [(.double 4607182418800017408), (.double w00), (.int 0), (.ref q0)])) _
  refine XS.daddS X.here hx rfl (hb hby at_562) rfl nn1 rfl ?_
  show Steps _ _ _ (T.setTop (own_B v0 v1 v2 v3 v4 nU nD n u1 d1 u2 d2 u3 d3 x1 x2 x3 m 563 (.val (.ref aU)) (.val (.ref aD)) (.val (.ref aQ)) (.val (.ref o)) (.val (.ref g)) (.val (.double w00)) .second (.val (.int 1)) .unset [(.double (FP.dadd w00 4607182418800017408)), (.int 0), (.ref q0)])) _
  refine st1 _ ?_
  show Steps _ _ _ (T1.setTop (own_B v0 v1 v2 v3 v4 nU nD n u1 d1 u2 d2 u3 d3 x1 x2 x3 m 564 (.val (.ref aU)) (.val (.ref aD)) (.val (.ref aQ)) (.val (.ref o)) (.val (.ref g)) (.val (.double w00)) .second (.val (.int 1)) .unset [])) _
  exact k'
theorem own_f (X : Stand p l e room_1 s m args below meth c T locs 38 158) (hx : p.tables.exec = Jvm.exec) (hZ : Z.Warmed39 s.vm) (hw : ∀ d ∈ tables_1, d.before a0 Z = true) {D IC EL EE EM MO b0 b1 : Addr} {cD cI cE : Cell} (G : own_G Z D IC EL EE EM MO b0 b1 cD cI cE) (hby : c.code = code) (hml : c.maxLocals = 29) (hown : s.vm.findClass "com/example/overweave/overweave/InstanceTrafficPinLaw" = some m.cls) (eT : T.heap = h) (N0 : Fr n0 locs) (Z0 : n0 ≤ h.size) (O : Old Z n0 h) {v0 v1 v2 v3 v4 nU nD n u1 d1 u2 d2 u3 d3 : Int32} {x1 x2 x3 : UInt64} {aU aD aQ o ru rd rq : Addr} {us ds : List Addr} {ps : List (Addr × Int32 × Int32 × UInt64)} {g : Addr} {w00 w01 w10 w11 : UInt64} (hl : ps.length ≤ 3) (hn1 : (nU = 1 ∧ us.length = 1) ∨ (nU = 2 ∧ us.length = 2)) (hn2 : (nD = 1 ∧ ds.length = 1) ∨ (nD = 2 ∧ ds.length = 2)) (hU0 : 0 < nU) (hD0 : 0 < nD) (I : own_In Z h o ru rd rq) (IU : own_IL Z EL EM h ru us) (ID : own_IL Z EL EM h rd ds) (IQ : own_IL Z EL EM h rq (ps.map (·.1))) (Ds : own_Ds Z h nU nD ps) (hval : ∀ a b, own_val a b ps = own_ex a b n u1 d1 x1 u2 d2 x2 u3 d3 x3) (M1 : Mag64 1056 x1) (M2 : Mag64 1056 x2) (M3 : Mag64 1056 x3) (hE00 : own_ex 0 0 n u1 d1 x1 u2 d2 x2 u3 d3 x3 = w00) (hE01 : own_ex 0 1 n u1 d1 x1 u2 d2 x2 u3 d3 x3 = w01) (hE10 : own_ex 1 0 n u1 d1 x1 u2 d2 x2 u3 d3 x3 = w10) (hE11 : own_ex 1 1 n u1 d1 x1 u2 d2 x2 u3 d3 x3 = w11) (glt : g < h.size) :
    ∃ T' h' L' g2, Stand p l e room_1 s m args below meth c T' L' 42 168 ∧ T'.heap = h' ∧ Fr n0 L' ∧ Keep h h' [] ∧ ∀ target, Steps p.tables e below (T'.setTop (own_B v0 v1 v2 v3 v4 nU nD n u1 d1 u2 d2 u3 d3 x1 x2 x3 m 624 (.val (.ref aU)) (.val (.ref aD)) (.val (.ref aQ)) (.val (.ref o)) (.val (.ref g)) (.val (.double w00)) .second (.val (.int 1)) (.val (.ref g2)) [(.int 1)])) target → Steps p.tables e below (T.setTop (own_B v0 v1 v2 v3 v4 nU nD n u1 d1 u2 d2 u3 d3 x1 x2 x3 m 564 (.val (.ref aU)) (.val (.ref aD)) (.val (.ref aQ)) (.val (.ref o)) (.val (.ref g)) (.val (.double w00)) .second (.val (.int 1)) .unset [])) target := by
  obtain ⟨cq1, kq1, q1a, q1b, q1c⟩ := isOf hZ eT I.1
  obtain ⟨_, _, ⟨T1, L1, k1, n1⟩, -, X1, ⟨Lc1, hQ1, l1, y1, z1⟩, st1⟩ := X.virtualBack hx (y := (⟨"com/example/overweave/overweave/Instance", "traffic", "()[[D"⟩ : MethodName)) (z := (⟨"com/example/overweave/overweave/Instance", "traffic", "()[[D"⟩ : MethodName)) hown (mvT hZ (ow hw 185 rfl)) (mvT hZ (ow hw 186 rfl)) (notFace_of_selects (args := #[]) (mvT hZ (ow hw 188 rfl))) (mvT hZ (ow hw 188 rfl)) (mvT hZ (ow hw 187 rfl)) (by decide) (backOf (W := 0) (own_tr l Z a0 hw [] G o ru rd rq us ds ps nU nD hl hn1 hn2 h n0 Z0 I IU ID IQ Ds O) hZ (ow hw 189 rfl) (ow hw 70 rfl) (by decide) (by decide)) q1a q1c (g := (own_B v0 v1 v2 v3 v4 nU nD n u1 d1 u2 d2 u3 d3 x1 x2 x3 m 566 (.val (.ref aU)) (.val (.ref aD)) (.val (.ref aQ)) (.val (.ref o)) (.val (.ref g)) (.val (.double w00)) .second (.val (.int 1)) .unset [(.ref o)])) rfl (by rw [hml]; rfl) (Steps.refl _) (argsL := []) (rest := []) (lenOf own_pd25 rfl) rfl (by show 2 * 0 + _ ≤ _; exact Nat.le_of_eq rfl) (hb hby at_566) (fun _ _ => ⟨rfl, eT, (by decide : 38 + 4 ≤ _), (by decide : 158 + 10 ≤ _)⟩)
  dsimp only [Pt.U, Pt.locs, Pt.cells, Pt.slots] at X1 l1 y1 z1 st1 hQ1
  subst l1 y1 z1
  obtain ⟨h1, e1⟩ : ∃ z, T1.heap = z := ⟨_, rfl⟩
  rw [e1] at hQ1
  obtain ⟨g2, rfl, N1, K1, g1, Gr1⟩ := hQ1
  have N2_ := Fr.app N0 N1
  have K3_ := (Keep.refl h []).trans K1 all0
  rw [hval, hval, hval, hval, hE00, hE01, hE10, hE11] at Gr1
  obtain ⟨q0, q1, k0, k1, Bg_, GA, R0, R1⟩ := id Gr1
  have nn00 := own_ex_nn M1 M2 M3 hE00
  have ngg : g2 ≠ g := Ne.symm (Nat.ne_of_lt (Nat.lt_of_lt_of_le glt g1))
  refine ⟨T1, h1, _, g2, X1, e1, N2_, K3_, fun target k' => ?_⟩
  show Steps _ _ _ (T.setTop (own_B v0 v1 v2 v3 v4 nU nD n u1 d1 u2 d2 u3 d3 x1 x2 x3 m 564 (.val (.ref aU)) (.val (.ref aD)) (.val (.ref aQ)) (.val (.ref o)) (.val (.ref g)) (.val (.double w00)) .second (.val (.int 1)) .unset [])) _
  refine XS.aload X.here hx rfl (hb hby at_564) rfl rfl ?_
  show Steps _ _ _ (T.setTop (own_B v0 v1 v2 v3 v4 nU nD n u1 d1 u2 d2 u3 d3 x1 x2 x3 m 566 (.val (.ref aU)) (.val (.ref aD)) (.val (.ref aQ)) (.val (.ref o)) (.val (.ref g)) (.val (.double w00)) .second (.val (.int 1)) .unset [(.ref o)])) _
  refine st1.trans ?_
  show Steps _ _ _ (T1.setTop (own_B v0 v1 v2 v3 v4 nU nD n u1 d1 u2 d2 u3 d3 x1 x2 x3 m 569 (.val (.ref aU)) (.val (.ref aD)) (.val (.ref aQ)) (.val (.ref o)) (.val (.ref g)) (.val (.double w00)) .second (.val (.int 1)) .unset [(.ref g2)])) _
  refine XS.astore X1.here hx rfl (hb hby at_569) rfl rfl rfl ?_
  refine XS.aload X1.here hx rfl (hb hby at_571) rfl rfl ?_
  show Steps _ _ _ (T1.setTop (own_B v0 v1 v2 v3 v4 nU nD n u1 d1 u2 d2 u3 d3 x1 x2 x3 m 573 (.val (.ref aU)) (.val (.ref aD)) (.val (.ref aQ)) (.val (.ref o)) (.val (.ref g)) (.val (.double w00)) .second (.val (.int 1)) (.val (.ref g2)) [(.ref g2)])) _
  refine own_len X1 hx hZ e1 GA (g := (own_B v0 v1 v2 v3 v4 nU nD n u1 d1 u2 d2 u3 d3 x1 x2 x3 m 573 (.val (.ref aU)) (.val (.ref aD)) (.val (.ref aQ)) (.val (.ref o)) (.val (.ref g)) (.val (.double w00)) .second (.val (.int 1)) (.val (.ref g2)) [(.ref g2)])) rfl rfl (hb hby at_573) _ ?_
  refine XS.iload X1.here hx rfl (hb hby at_574) rfl ?_
  show Steps _ _ _ (T1.setTop (own_B v0 v1 v2 v3 v4 nU nD n u1 d1 u2 d2 u3 d3 x1 x2 x3 m 576 (.val (.ref aU)) (.val (.ref aD)) (.val (.ref aQ)) (.val (.ref o)) (.val (.ref g)) (.val (.double w00)) .second (.val (.int 1)) (.val (.ref g2)) [(.int nU), (.int nU)])) _
  refine XS.icmpNo X1.here hx rfl (hb hby at_576) rfl (XT.ii_ne_f rfl) ?_
  refine XS.aload X1.here hx rfl (hb hby at_579) rfl rfl ?_
  refine XT.iconstV X1.here hx rfl 0 (hb hby at_581) rfl ?_
  show Steps _ _ _ (T1.setTop (own_B v0 v1 v2 v3 v4 nU nD n u1 d1 u2 d2 u3 d3 x1 x2 x3 m 582 (.val (.ref aU)) (.val (.ref aD)) (.val (.ref aQ)) (.val (.ref o)) (.val (.ref g)) (.val (.double w00)) .second (.val (.int 1)) (.val (.ref g2)) [(.int 0), (.ref g2)])) _
  refine own_aald X1 hx hZ e1 GA rfl ⟨by decide, hU0⟩ rfl (g := (own_B v0 v1 v2 v3 v4 nU nD n u1 d1 u2 d2 u3 d3 x1 x2 x3 m 582 (.val (.ref aU)) (.val (.ref aD)) (.val (.ref aQ)) (.val (.ref o)) (.val (.ref g)) (.val (.double w00)) .second (.val (.int 1)) (.val (.ref g2)) [(.int 0), (.ref g2)])) rfl rfl (hb hby at_582) _ ?_
  show Steps _ _ _ (T1.setTop (own_B v0 v1 v2 v3 v4 nU nD n u1 d1 u2 d2 u3 d3 x1 x2 x3 m 583 (.val (.ref aU)) (.val (.ref aD)) (.val (.ref aQ)) (.val (.ref o)) (.val (.ref g)) (.val (.double w00)) .second (.val (.int 1)) (.val (.ref g2)) [(.ref q0)])) _
  refine own_len X1 hx hZ e1 R0 (g := (own_B v0 v1 v2 v3 v4 nU nD n u1 d1 u2 d2 u3 d3 x1 x2 x3 m 583 (.val (.ref aU)) (.val (.ref aD)) (.val (.ref aQ)) (.val (.ref o)) (.val (.ref g)) (.val (.double w00)) .second (.val (.int 1)) (.val (.ref g2)) [(.ref q0)])) rfl rfl (hb hby at_583) _ ?_
  refine XS.iload X1.here hx rfl (hb hby at_584) rfl ?_
  show Steps _ _ _ (T1.setTop (own_B v0 v1 v2 v3 v4 nU nD n u1 d1 u2 d2 u3 d3 x1 x2 x3 m 586 (.val (.ref aU)) (.val (.ref aD)) (.val (.ref aQ)) (.val (.ref o)) (.val (.ref g)) (.val (.double w00)) .second (.val (.int 1)) (.val (.ref g2)) [(.int nD), (.int nD)])) _
  refine XS.icmpYes X1.here hx rfl rfl (hb hby at_586) rfl (XT.ii_eq_t rfl) (show (0 : Int) ≤ ((586 : Nat) : Int) + (5) by decide) (show (((586 : Nat) : Int) + (5)).toNat = 591 by decide) ?_
  refine XS.iload X1.here hx rfl (hb hby at_591) rfl ?_
  show Steps _ _ _ (T1.setTop (own_B v0 v1 v2 v3 v4 nU nD n u1 d1 u2 d2 u3 d3 x1 x2 x3 m 593 (.val (.ref aU)) (.val (.ref aD)) (.val (.ref aQ)) (.val (.ref o)) (.val (.ref g)) (.val (.double w00)) .second (.val (.int 1)) (.val (.ref g2)) [(.int 1)])) _
  refine XS.ifNo X1.here hx rfl (hb hby at_593) rfl (by decide) ?_
  refine XS.aload X1.here hx rfl (hb hby at_596) rfl rfl ?_
  refine XS.aload X1.here hx rfl (hb hby at_598) rfl rfl ?_
  show Steps _ _ _ (T1.setTop (own_B v0 v1 v2 v3 v4 nU nD n u1 d1 u2 d2 u3 d3 x1 x2 x3 m 600 (.val (.ref aU)) (.val (.ref aD)) (.val (.ref aQ)) (.val (.ref o)) (.val (.ref g)) (.val (.double w00)) .second (.val (.int 1)) (.val (.ref g2)) [(.ref g), (.ref g2)])) _
  refine Jvm.RoadKit.acmp (g := (own_B v0 v1 v2 v3 v4 nU nD n u1 d1 u2 d2 u3 d3 x1 x2 x3 m 600 (.val (.ref aU)) (.val (.ref aD)) (.val (.ref aQ)) (.val (.ref o)) (.val (.ref g)) (.val (.double w00)) .second (.val (.int 1)) (.val (.ref g2)) [(.ref g), (.ref g2)])) X1 hx rfl rfl rfl (pc0 := 600) (pc' := 603) (same := false) rfl (hb hby at_600) rfl (decide_eq_false fun q => ngg (Value.ref.inj q)) (by decide) (by decide) ?_
  refine XS.aload X1.here hx rfl (hb hby at_603) rfl rfl ?_
  refine XT.iconstV X1.here hx rfl 0 (hb hby at_605) rfl ?_
  show Steps _ _ _ (T1.setTop (own_B v0 v1 v2 v3 v4 nU nD n u1 d1 u2 d2 u3 d3 x1 x2 x3 m 606 (.val (.ref aU)) (.val (.ref aD)) (.val (.ref aQ)) (.val (.ref o)) (.val (.ref g)) (.val (.double w00)) .second (.val (.int 1)) (.val (.ref g2)) [(.int 0), (.ref g2)])) _
  refine own_aald X1 hx hZ e1 GA rfl ⟨by decide, hU0⟩ rfl (g := (own_B v0 v1 v2 v3 v4 nU nD n u1 d1 u2 d2 u3 d3 x1 x2 x3 m 606 (.val (.ref aU)) (.val (.ref aD)) (.val (.ref aQ)) (.val (.ref o)) (.val (.ref g)) (.val (.double w00)) .second (.val (.int 1)) (.val (.ref g2)) [(.int 0), (.ref g2)])) rfl rfl (hb hby at_606) _ ?_
  refine XT.iconstV X1.here hx rfl 0 (hb hby at_607) rfl ?_
  show Steps _ _ _ (T1.setTop (own_B v0 v1 v2 v3 v4 nU nD n u1 d1 u2 d2 u3 d3 x1 x2 x3 m 608 (.val (.ref aU)) (.val (.ref aD)) (.val (.ref aQ)) (.val (.ref o)) (.val (.ref g)) (.val (.double w00)) .second (.val (.int 1)) (.val (.ref g2)) [(.int 0), (.ref q0)])) _
  refine own_dald X1 hx hZ e1 R0 ⟨by decide, hD0⟩ rfl (g := (own_B v0 v1 v2 v3 v4 nU nD n u1 d1 u2 d2 u3 d3 x1 x2 x3 m 608 (.val (.ref aU)) (.val (.ref aD)) (.val (.ref aQ)) (.val (.ref o)) (.val (.ref g)) (.val (.double w00)) .second (.val (.int 1)) (.val (.ref g2)) [(.int 0), (.ref q0)])) rfl rfl (hb hby at_608) _ ?_
  refine XS.dload X1.here hx rfl (hb hby at_609) rfl ?_
  show Steps _ _ _ (T1.setTop (own_B v0 v1 v2 v3 v4 nU nD n u1 d1 u2 d2 u3 d3 x1 x2 x3 m 611 (.val (.ref aU)) (.val (.ref aD)) (.val (.ref aQ)) (.val (.ref o)) (.val (.ref g)) (.val (.double w00)) .second (.val (.int 1)) (.val (.ref g2)) [(.double w00), (.double w00)])) _
  refine XS.dcmpS X1.here hx rfl (hb hby at_611) rfl (dcmpV_self nn00 .l) ?_
  show Steps _ _ _ (T1.setTop (own_B v0 v1 v2 v3 v4 nU nD n u1 d1 u2 d2 u3 d3 x1 x2 x3 m 612 (.val (.ref aU)) (.val (.ref aD)) (.val (.ref aQ)) (.val (.ref o)) (.val (.ref g)) (.val (.double w00)) .second (.val (.int 1)) (.val (.ref g2)) [(.int 0)])) _
  refine XS.ifNo X1.here hx rfl (hb hby at_612) rfl (by decide) ?_
  refine XT.iconstV X1.here hx rfl 1 (hb hby at_615) rfl ?_
  show Steps _ _ _ (T1.setTop (own_B v0 v1 v2 v3 v4 nU nD n u1 d1 u2 d2 u3 d3 x1 x2 x3 m 616 (.val (.ref aU)) (.val (.ref aD)) (.val (.ref aQ)) (.val (.ref o)) (.val (.ref g)) (.val (.double w00)) .second (.val (.int 1)) (.val (.ref g2)) [(.int 1)])) _
  refine XS.goto X1.here hx rfl rfl (hb hby at_616) (show (0 : Int) ≤ ((616 : Nat) : Int) + (4) by decide) (show (((616 : Nat) : Int) + (4)).toNat = 620 by decide) ?_
  show Steps _ _ _ (T1.setTop (own_B v0 v1 v2 v3 v4 nU nD n u1 d1 u2 d2 u3 d3 x1 x2 x3 m 620 (.val (.ref aU)) (.val (.ref aD)) (.val (.ref aQ)) (.val (.ref o)) (.val (.ref g)) (.val (.double w00)) .second (.val (.int 1)) (.val (.ref g2)) [(.int 1)])) _
  refine XS.istore X1.here hx rfl (hb hby at_620) rfl rfl ?_
  refine XS.iload X1.here hx rfl (hb hby at_622) rfl ?_
  show Steps _ _ _ (T1.setTop (own_B v0 v1 v2 v3 v4 nU nD n u1 d1 u2 d2 u3 d3 x1 x2 x3 m 624 (.val (.ref aU)) (.val (.ref aD)) (.val (.ref aQ)) (.val (.ref o)) (.val (.ref g)) (.val (.double w00)) .second (.val (.int 1)) (.val (.ref g2)) [(.int 1)])) _
  exact k'
end OwnN
/-! ## The law, joined -/
section OwnJoin
open Jvm.Free.Fl
variable {p : Program} {l : Launch} {e : Env} {s : State} {m : MethodId} {args : Array Value} {below : List Frame} {meth : Method} {c : Code} {T : State} {locs : List Loc} {Z : State} {a0 : Array Value} {h : Heap} {n0 : Nat}
theorem own_szO (O : Old Z n0 h) : n0 ≤ h.size := by rw [← O.1]; exact O.2.1
theorem own_rem {a b : Int32} (ha : a = 0 ∨ a = 1) (hb : b = 1 ∨ b = 2) : a % b = 0 ∨ (a % b = 1 ∧ b = 2) := by rcases ha with rfl | rfl <;> rcases hb with rfl | rfl <;> decide
theorem own_lt2 {b : Int32} (hb : b = 1 ∨ b = 2) : 0 < b := by rcases hb with rfl | rfl <;> decide
theorem own_wS (hw : ∀ d ∈ tables_1, d.before a0 Z = true) : ∀ a ∈ Bundle.stringAtoms, a.before a0 Z = true := fun d hd => by
  simp only [Bundle.stringAtoms, List.mem_cons, List.not_mem_nil, or_false] at hd
  rcases hd with rfl | rfl | rfl | rfl | rfl | rfl | rfl
  · exact (ow hw 72 rfl)
  · exact (ow hw 73 rfl)
  · exact (ow hw 74 rfl)
  · exact (ow hw 75 rfl)
  · exact (ow hw 76 rfl)
  · exact (ow hw 77 rfl)
  · exact (ow hw 78 rfl)
theorem own_uA (X : Stand p l e room_1 s m args below meth c T locs 0 0) (hx : p.tables.exec = Jvm.exec) (hZ : Z.Warmed39 s.vm) (hw : ∀ d ∈ tables_1, d.before a0 Z = true) {D IC EL EE EM MO b0 b1 : Addr} {cD cI cE : Cell} (G : own_G Z D IC EL EE EM MO b0 b1 cD cI cE) (hby : c.code = code) (hml : c.maxLocals = 29) (hown : s.vm.findClass "com/example/overweave/overweave/InstanceTrafficPinLaw" = some m.cls) (eT : T.heap = h) (N0 : Fr n0 locs) (O : Old Z n0 h) {v0 v1 v2 v3 v4 nU nD n u1 d1 u2 d2 u3 d3 : Int32} {x1 x2 x3 : UInt64} (hn : nU = 1 ∨ nU = 2) :
    ∃ T' h' L' aU xs, Stand p l e room_1 s m args below meth c T' L' 2 13 ∧ T'.heap = h' ∧ Fr n0 L' ∧ Keep h h' [] ∧ own_CL Z D h' aU xs ∧ ((nU = 1 ∧ xs.length = 1) ∨ (nU = 2 ∧ xs.length = 2)) ∧ (∀ y ∈ xs, y ≠ EM) ∧ ∀ target, Steps p.tables e below (T'.setTop (own_B v0 v1 v2 v3 v4 nU nD n u1 d1 u2 d2 u3 d3 x1 x2 x3 m 133 (.val (.ref aU)) .unset .unset .unset .unset .unset .unset .unset .unset [])) target → Steps p.tables e below (T.setTop (own_B v0 v1 v2 v3 v4 nU nD n u1 d1 u2 d2 u3 d3 x1 x2 x3 m 94 .unset .unset .unset .unset .unset .unset .unset .unset .unset [])) target := by
  have ne0 := ne_exa G.2.2.1.1 G.2.2.2.2.1.2 (by decide)
  have ne1 := ne_exa G.2.2.1.2 G.2.2.2.2.1.2 (by decide)
  rcases hn with q | q
  · obtain ⟨T', h', L', a, X', e', N', K', C', st⟩ := own_u1 X hx hZ hw G hby hml hown eT N0 (own_szO O) O (show ¬ 1 < nU by rw [q]; decide)
    exact ⟨T', h', L', a, [b0], X', e', N', K', C', Or.inl ⟨q, rfl⟩, fun y hy => by cases List.mem_singleton.mp hy; exact ne0, st⟩
  · obtain ⟨T', h', L', a, X', e', N', K', C', st⟩ := own_u2 X hx hZ hw G hby hml hown eT N0 (own_szO O) O (show 1 < nU by rw [q]; decide)
    exact ⟨T', h', L', a, [b0, b1], X', e', N', K', C', Or.inr ⟨q, rfl⟩, fun y hy => by
      simp only [List.mem_cons, List.not_mem_nil, or_false] at hy
      rcases hy with rfl | rfl
      · exact ne0
      · exact ne1, st⟩
theorem own_dA (X : Stand p l e room_1 s m args below meth c T locs 2 13) (hx : p.tables.exec = Jvm.exec) (hZ : Z.Warmed39 s.vm) (hw : ∀ d ∈ tables_1, d.before a0 Z = true) {D IC EL EE EM MO b0 b1 : Addr} {cD cI cE : Cell} (G : own_G Z D IC EL EE EM MO b0 b1 cD cI cE) (hby : c.code = code) (hml : c.maxLocals = 29) (hown : s.vm.findClass "com/example/overweave/overweave/InstanceTrafficPinLaw" = some m.cls) (eT : T.heap = h) (N0 : Fr n0 locs) (O : Old Z n0 h) {v0 v1 v2 v3 v4 nU nD n u1 d1 u2 d2 u3 d3 : Int32} {x1 x2 x3 : UInt64} {aU : Addr} (hn : nD = 1 ∨ nD = 2) :
    ∃ T' h' L' aD xs, Stand p l e room_1 s m args below meth c T' L' 4 26 ∧ T'.heap = h' ∧ Fr n0 L' ∧ Keep h h' [] ∧ own_CL Z D h' aD xs ∧ ((nD = 1 ∧ xs.length = 1) ∨ (nD = 2 ∧ xs.length = 2)) ∧ (∀ y ∈ xs, y ≠ EM) ∧ ∀ target, Steps p.tables e below (T'.setTop (own_B v0 v1 v2 v3 v4 nU nD n u1 d1 u2 d2 u3 d3 x1 x2 x3 m 172 (.val (.ref aU)) (.val (.ref aD)) .unset .unset .unset .unset .unset .unset .unset [])) target → Steps p.tables e below (T.setTop (own_B v0 v1 v2 v3 v4 nU nD n u1 d1 u2 d2 u3 d3 x1 x2 x3 m 133 (.val (.ref aU)) .unset .unset .unset .unset .unset .unset .unset .unset [])) target := by
  have ne0 := ne_exa G.2.2.1.1 G.2.2.2.2.1.2 (by decide)
  have ne1 := ne_exa G.2.2.1.2 G.2.2.2.2.1.2 (by decide)
  rcases hn with q | q
  · obtain ⟨T', h', L', a, X', e', N', K', C', st⟩ := own_d1 X hx hZ hw G hby hml hown eT N0 (own_szO O) O (show ¬ 1 < nD by rw [q]; decide)
    exact ⟨T', h', L', a, [b0], X', e', N', K', C', Or.inl ⟨q, rfl⟩, fun y hy => by cases List.mem_singleton.mp hy; exact ne0, st⟩
  · obtain ⟨T', h', L', a, X', e', N', K', C', st⟩ := own_d2 X hx hZ hw G hby hml hown eT N0 (own_szO O) O (show 1 < nD by rw [q]; decide)
    exact ⟨T', h', L', a, [b0, b1], X', e', N', K', C', Or.inr ⟨q, rfl⟩, fun y hy => by
      simp only [List.mem_cons, List.not_mem_nil, or_false] at hy
      rcases hy with rfl | rfl
      · exact ne0
      · exact ne1, st⟩
theorem own_qA (X : Stand p l e room_1 s m args below meth c T locs 4 26) (hx : p.tables.exec = Jvm.exec) (hZ : Z.Warmed39 s.vm) (hw : ∀ d ∈ tables_1, d.before a0 Z = true) {D IC EL EE EM MO b0 b1 : Addr} {cD cI cE : Cell} (G : own_G Z D IC EL EE EM MO b0 b1 cD cI cE) (hby : c.code = code) (hml : c.maxLocals = 29) (hown : s.vm.findClass "com/example/overweave/overweave/InstanceTrafficPinLaw" = some m.cls) (eT : T.heap = h) (N0 : Fr n0 locs) (O : Old Z n0 h) {v0 v1 v2 v3 v4 nU nD n u1 d1 u2 d2 u3 d3 : Int32} {x1 x2 x3 : UInt64} {aU aD : Addr} (r1 : u1 = 0 ∨ (u1 = 1 ∧ nU = 2)) (t1 : d1 = 0 ∨ (d1 = 1 ∧ nD = 2)) (M1 : Mag64 1056 x1) (r2 : u2 = 0 ∨ (u2 = 1 ∧ nU = 2)) (t2 : d2 = 0 ∨ (d2 = 1 ∧ nD = 2)) (M2 : Mag64 1056 x2) (r3 : u3 = 0 ∨ (u3 = 1 ∧ nU = 2)) (t3 : d3 = 0 ∨ (d3 = 1 ∧ nD = 2)) (M3 : Mag64 1056 x3) :
    ∃ T' h' L' aQ ps, Stand p l e room_1 s m args below meth c T' L' 9 48 ∧ T'.heap = h' ∧ Fr n0 L' ∧ Keep h h' [] ∧ own_CL Z D h' aQ (ps.map (·.1)) ∧ ps.length ≤ 3 ∧ own_Ds Z h' nU nD ps ∧ (∀ a b, own_val a b ps = own_ex a b n u1 d1 x1 u2 d2 x2 u3 d3 x3) ∧ ∀ target, Steps p.tables e below (T'.setTop (own_B v0 v1 v2 v3 v4 nU nD n u1 d1 u2 d2 u3 d3 x1 x2 x3 m 261 (.val (.ref aU)) (.val (.ref aD)) (.val (.ref aQ)) .unset .unset .unset .unset .unset .unset [])) target → Steps p.tables e below (T.setTop (own_B v0 v1 v2 v3 v4 nU nD n u1 d1 u2 d2 u3 d3 x1 x2 x3 m 172 (.val (.ref aU)) (.val (.ref aD)) .unset .unset .unset .unset .unset .unset .unset [])) target := by
  by_cases H3 : 2 < n
  · exact own_q3 X hx hZ hw G hby hml hown eT N0 (own_szO O) O r1 t1 M1 r2 t2 M2 r3 t3 M3 (Int32.lt_trans (by decide : (0 : Int32) < 2) H3) (Int32.lt_trans (by decide : (1 : Int32) < 2) H3) H3
  · by_cases H2 : 1 < n
    · exact own_q2 X hx hZ hw G hby hml hown eT N0 (own_szO O) O r1 t1 M1 r2 t2 M2 r3 t3 M3 (Int32.lt_trans (by decide : (0 : Int32) < 1) H2) H2 H3
    · by_cases H1 : 0 < n
      · exact own_q1 X hx hZ hw G hby hml hown eT N0 (own_szO O) O r1 t1 M1 r2 t2 M2 r3 t3 M3 H1 H2 H3
      · exact own_q0 X hx hZ hw G hby hml hown eT N0 (own_szO O) O r1 t1 M1 r2 t2 M2 r3 t3 M3 H1 H2 H3
theorem own_Ds.keep {h' : Heap} {n1 n2 : Int32} {ps : List (Addr × Int32 × Int32 × UInt64)} (F : own_Ds Z h n1 n2 ps) (K : Keep h h' []) : own_Ds Z h' n1 n2 ps := fun q hq => ⟨(F q hq).1.keep K nin0, (F q hq).2⟩
theorem own_Gr.glt {b : Nat} {g : Addr} {n1 n2 : Int32} {f00 f01 f10 f11 : UInt64} (F : own_Gr Z b h g n1 n2 f00 f01 f10 f11) : g < h.size := by obtain ⟨x0, x1, k0, k1, B, A, -⟩ := F; exact A.lt
theorem own_tail (X : Stand p l e room_1 s m args below meth c T locs 34 148) (hx : p.tables.exec = Jvm.exec) (hZ : Z.Warmed39 s.vm) (hw : ∀ d ∈ tables_1, d.before a0 Z = true) {D IC EL EE EM MO b0 b1 : Addr} {cD cI cE : Cell} (G : own_G Z D IC EL EE EM MO b0 b1 cD cI cE) (hby : c.code = code) (hml : c.maxLocals = 29) (hown : s.vm.findClass "com/example/overweave/overweave/InstanceTrafficPinLaw" = some m.cls) (eT : T.heap = h) (N0 : Fr n0 locs) (O : Old Z n0 h) {v0 v1 v2 v3 v4 nU nD n u1 d1 u2 d2 u3 d3 : Int32} {x1 x2 x3 : UInt64} {aU aD aQ o ru rd rq : Addr} {us ds : List Addr} {ps : List (Addr × Int32 × Int32 × UInt64)} {w00 w01 w10 w11 : UInt64} (hl : ps.length ≤ 3) (hn1 : (nU = 1 ∧ us.length = 1) ∨ (nU = 2 ∧ us.length = 2)) (hn2 : (nD = 1 ∧ ds.length = 1) ∨ (nD = 2 ∧ ds.length = 2)) (I : own_In Z h o ru rd rq) (IU : own_IL Z EL EM h ru us) (ID : own_IL Z EL EM h rd ds) (IQ : own_IL Z EL EM h rq (ps.map (·.1))) (Ds : own_Ds Z h nU nD ps) (hval : ∀ a b, own_val a b ps = own_ex a b n u1 d1 x1 u2 d2 x2 u3 d3 x3) (M1 : Mag64 1056 x1) (M2 : Mag64 1056 x2) (M3 : Mag64 1056 x3) (hE00 : own_ex 0 0 n u1 d1 x1 u2 d2 x2 u3 d3 x3 = w00) (hE01 : own_ex 0 1 n u1 d1 x1 u2 d2 x2 u3 d3 x3 = w01) (hE10 : own_ex 1 0 n u1 d1 x1 u2 d2 x2 u3 d3 x3 = w10) (hE11 : own_ex 1 1 n u1 d1 x1 u2 d2 x2 u3 d3 x3 = w11) :
    ∃ T' h' L' Ls', Stand p l e room_1 s m args below meth c T' L' 42 168 ∧ T'.heap = h' ∧ Fr n0 L' ∧ h.size ≤ h'.size ∧ ∀ target, Steps p.tables e below (T'.setTop (mkF m 624 Ls' [(.int 1)])) target → Steps p.tables e below (T.setTop (own_B v0 v1 v2 v3 v4 nU nD n u1 d1 u2 d2 u3 d3 x1 x2 x3 m 292 (.val (.ref aU)) (.val (.ref aD)) (.val (.ref aQ)) (.val (.ref o)) .unset .unset .unset .unset .unset [])) target := by
  have hnU := hn1.imp And.left And.left
  have hnD := hn2.imp And.left And.left
  have hU0 := own_lt2 hnU
  have hD0 := own_lt2 hnD
  obtain ⟨T1, h1, L1, g, X1, e1, N1, K1, gg, Gr, st1⟩ : ∃ T' h' L' g, Stand p l e room_1 s m args below meth c T' L' 38 158 ∧ T'.heap = h' ∧ Fr n0 L' ∧ Keep h h' [] ∧ h.size ≤ g ∧ own_Gr Z h.size h' g nU nD w00 w01 w10 w11 ∧ ∀ target, Steps p.tables e below (T'.setTop (own_B v0 v1 v2 v3 v4 nU nD n u1 d1 u2 d2 u3 d3 x1 x2 x3 m 385 (.val (.ref aU)) (.val (.ref aD)) (.val (.ref aQ)) (.val (.ref o)) (.val (.ref g)) (.val (.double w00)) .second (.val (.int 1)) .unset [])) target → Steps p.tables e below (T.setTop (own_B v0 v1 v2 v3 v4 nU nD n u1 d1 u2 d2 u3 d3 x1 x2 x3 m 292 (.val (.ref aU)) (.val (.ref aD)) (.val (.ref aQ)) (.val (.ref o)) .unset .unset .unset .unset .unset [])) target := by
    rcases hnU with q | q
    · exact own_a1 X hx hZ hw G hby hml hown eT N0 (own_szO O) O hl hn1 hn2 hU0 hD0 I IU ID IQ Ds hval M1 M2 M3 hE00 hE01 hE10 hE11 (by rw [q]; decide)
    · exact own_a2 X hx hZ hw G hby hml hown eT N0 (own_szO O) O hl hn1 hn2 hU0 hD0 I IU ID IQ Ds hval M1 M2 M3 hE00 hE01 hE10 hE11 (by rw [q]; decide) q
  have O1 := O.keep K1 all0
  obtain ⟨T2, h2, L2, X2, e2, N2, rfl, st2⟩ : ∃ T' h' L', Stand p l e room_1 s m args below meth c T' L' 38 158 ∧ T'.heap = h' ∧ Fr n0 L' ∧ h' = h1 ∧ ∀ target, Steps p.tables e below (T'.setTop (own_B v0 v1 v2 v3 v4 nU nD n u1 d1 u2 d2 u3 d3 x1 x2 x3 m 438 (.val (.ref aU)) (.val (.ref aD)) (.val (.ref aQ)) (.val (.ref o)) (.val (.ref g)) (.val (.double w00)) .second (.val (.int 1)) .unset [])) target → Steps p.tables e below (T1.setTop (own_B v0 v1 v2 v3 v4 nU nD n u1 d1 u2 d2 u3 d3 x1 x2 x3 m 385 (.val (.ref aU)) (.val (.ref aD)) (.val (.ref aQ)) (.val (.ref o)) (.val (.ref g)) (.val (.double w00)) .second (.val (.int 1)) .unset [])) target := by
    rcases hnD with q | q
    · exact own_b0 X1 hx hZ hw G hby hml hown e1 N1 (own_szO O1) O1 Gr hU0 hD0 M1 M2 M3 (by rw [q]; decide)
    · exact own_b1 X1 hx hZ hw G hby hml hown e1 N1 (own_szO O1) O1 Gr hU0 hD0 M1 M2 M3 hE01 (by rw [q]; decide)
  obtain ⟨T3, h3, L3, X3, e3, N3, rfl, st3⟩ : ∃ T' h' L', Stand p l e room_1 s m args below meth c T' L' 38 158 ∧ T'.heap = h' ∧ Fr n0 L' ∧ h' = h2 ∧ ∀ target, Steps p.tables e below (T'.setTop (own_B v0 v1 v2 v3 v4 nU nD n u1 d1 u2 d2 u3 d3 x1 x2 x3 m 491 (.val (.ref aU)) (.val (.ref aD)) (.val (.ref aQ)) (.val (.ref o)) (.val (.ref g)) (.val (.double w00)) .second (.val (.int 1)) .unset [])) target → Steps p.tables e below (T2.setTop (own_B v0 v1 v2 v3 v4 nU nD n u1 d1 u2 d2 u3 d3 x1 x2 x3 m 438 (.val (.ref aU)) (.val (.ref aD)) (.val (.ref aQ)) (.val (.ref o)) (.val (.ref g)) (.val (.double w00)) .second (.val (.int 1)) .unset [])) target := by
    rcases hnU with q | q
    · exact own_c0 X2 hx hZ hw G hby hml hown e2 N2 (own_szO O1) O1 Gr hU0 hD0 M1 M2 M3 (by rw [q]; decide)
    · exact own_c1 X2 hx hZ hw G hby hml hown e2 N2 (own_szO O1) O1 Gr hU0 hD0 M1 M2 M3 hE10 (by rw [q]; decide) q
  obtain ⟨T4, h4, L4, X4, e4, N4, rfl, st4⟩ : ∃ T' h' L', Stand p l e room_1 s m args below meth c T' L' 38 158 ∧ T'.heap = h' ∧ Fr n0 L' ∧ h' = h3 ∧ ∀ target, Steps p.tables e below (T'.setTop (own_B v0 v1 v2 v3 v4 nU nD n u1 d1 u2 d2 u3 d3 x1 x2 x3 m 550 (.val (.ref aU)) (.val (.ref aD)) (.val (.ref aQ)) (.val (.ref o)) (.val (.ref g)) (.val (.double w00)) .second (.val (.int 1)) .unset [])) target → Steps p.tables e below (T3.setTop (own_B v0 v1 v2 v3 v4 nU nD n u1 d1 u2 d2 u3 d3 x1 x2 x3 m 491 (.val (.ref aU)) (.val (.ref aD)) (.val (.ref aQ)) (.val (.ref o)) (.val (.ref g)) (.val (.double w00)) .second (.val (.int 1)) .unset [])) target := by
    rcases hnU with q | q
    · exact own_d0 X3 hx hZ hw G hby hml hown e3 N3 (own_szO O1) O1 Gr hU0 hD0 M1 M2 M3 (by rw [q]; decide)
    · rcases hnD with r | r
      · exact own_d1_ X3 hx hZ hw G hby hml hown e3 N3 (own_szO O1) O1 Gr hU0 hD0 M1 M2 M3 (by rw [q]; decide) (by rw [r]; decide)
      · exact own_d2_ X3 hx hZ hw G hby hml hown e3 N3 (own_szO O1) O1 Gr hU0 hD0 M1 M2 M3 hE11 (by rw [q]; decide) q (by rw [r]; decide)
  obtain ⟨T5, h5, L5, q5, X5, e5, N5, B5, K5, st5⟩ := own_w X4 hx hZ hw G hby hml hown e4 N4 (own_szO O1) O1 Gr hU0 hD0 M1 M2 M3 hE00 (own_szO O)
  have K6 : Keep h h5 [] := K1.trans K5 (allS (Or.inr B5) all0)
  have O5 := O.keep K6 all0
  obtain ⟨T6, h6, L6, g2, X6, e6, N6, K7, st6⟩ := own_f X5 hx hZ hw G hby hml hown e5 N5 (own_szO O5) O5 hl hn1 hn2 hU0 hD0 (I.keep K6) (IU.keep K6) (ID.keep K6) (IQ.keep K6) (Ds.keep K6) hval M1 M2 M3 hE00 hE01 hE10 hE11 (Nat.lt_of_lt_of_le Gr.glt K5.1)
  exact ⟨T6, h6, L6, _, X6, e6, N6, Nat.le_trans K6.1 K7.1, fun target k' => st1 _ (st2 _ (st3 _ (st4 _ (st5 _ (st6 _ k')))))⟩
theorem own_mid (X : Stand p l e room_1 s m args below meth c T locs 0 0) (hx : p.tables.exec = Jvm.exec) (hZ : Z.Warmed39 s.vm) (hw : ∀ d ∈ tables_1, d.before a0 Z = true) {D IC EL EE EM MO b0 b1 : Addr} {cD cI cE : Cell} (G : own_G Z D IC EL EE EM MO b0 b1 cD cI cE) (hby : c.code = code) (hml : c.maxLocals = 29) (hown : s.vm.findClass "com/example/overweave/overweave/InstanceTrafficPinLaw" = some m.cls) (eT : T.heap = h) (N0 : Fr n0 locs) (O : Old Z n0 h) {v0 v1 v2 v3 v4 nU nD n u1 d1 u2 d2 u3 d3 : Int32} {x1 x2 x3 : UInt64} (hnU : nU = 1 ∨ nU = 2) (hnD : nD = 1 ∨ nD = 2) (r1 : u1 = 0 ∨ (u1 = 1 ∧ nU = 2)) (t1 : d1 = 0 ∨ (d1 = 1 ∧ nD = 2)) (M1 : Mag64 1056 x1) (r2 : u2 = 0 ∨ (u2 = 1 ∧ nU = 2)) (t2 : d2 = 0 ∨ (d2 = 1 ∧ nD = 2)) (M2 : Mag64 1056 x2) (r3 : u3 = 0 ∨ (u3 = 1 ∧ nU = 2)) (t3 : d3 = 0 ∨ (d3 = 1 ∧ nD = 2)) (M3 : Mag64 1056 x3) :
    ∃ (vm' : Vm) (k1 : Nat) (T' : State) (L' : List Loc) (Ls' : Array Slot), Stand p l e room_1 (s.setVm vm') m args below meth c T' L' 42 168 ∧ s.Since vm' k1 ∧ k1 ≤ T'.heap.size ∧ Fr n0 L' ∧ ∀ target, Steps p.tables e below (T'.setTop (mkF m 624 Ls' [(.int 1)])) target → Steps p.tables e below (T.setTop (own_B v0 v1 v2 v3 v4 nU nD n u1 d1 u2 d2 u3 d3 x1 x2 x3 m 94 .unset .unset .unset .unset .unset .unset .unset .unset .unset [])) target := by
  obtain ⟨T1, h1, L1, aU, us, X1, e1, N1, K1, C1, hn1, hE1, st1⟩ := own_uA X hx hZ hw G hby hml hown eT N0 O (n := n) (nU := nU) (nD := nD) hnU
  have O1 := O.keep K1 all0
  obtain ⟨T2, h2, L2, aD, ds, X2, e2, N2, K2, C2, hn2, hE2, st2⟩ := own_dA X1 hx hZ hw G hby hml hown e1 N1 O1 (aU := aU) (n := n) (nU := nU) (nD := nD) hnD
  have O2 := O1.keep K2 all0
  obtain ⟨T3, h3, L3, aQ, ps, X3, e3, N3, K3, C3, hl, Ds, hval, st3⟩ := own_qA X2 hx hZ hw G hby hml hown e2 N2 O2 (aU := aU) (aD := aD) (n := n) r1 t1 M1 r2 t2 M2 r3 t3 M3
  have O3 := O2.keep K3 all0
  have hE3 : ∀ y ∈ ps.map (·.1), y ≠ EM := fun y hy => by
    obtain ⟨q, hq, rfl⟩ := List.mem_map.mp hy
    exact ne_exa (Ds q hq).1.1 (G.2.2.2.2.1.2.ext O3.2) (by decide)
  obtain ⟨T4, h4, L4, o, X4, e4, N4, K4, go, I4, st4⟩ := own_n X3 hx hZ hw G hby hml hown e3 N3 (own_szO O3) O3 (aU := aU) (aD := aD) (aQ := aQ)
  have O4 := O3.keep K4 all0
  obtain ⟨sa, T5, h5, k5, X5, e5, E5, S5, hk5, hZ5, hown5, st5⟩ := ldcS (s := s) (vm0 := s.vm) (show Stand p l e room_1 (s.setVm s.vm) m args below meth c T4 L4 10 54 from X4) hx hZ hown (ow hw 71 rfl) (own_wS hw) e4 ((State.WarmedH.refl s).since h4.size) (Nat.le_refl _) (g := (own_B v0 v1 v2 v3 v4 nU nD n u1 d1 u2 d2 u3 d3 x1 x2 x3 m 265 (.val (.ref aU)) (.val (.ref aD)) (.val (.ref aQ)) .unset .unset .unset .unset .unset .unset [(.ref o), (.ref o)])) rfl (hb hby at_265) (n := 4) (by decide) (by decide) (by decide) (by decide)
  have K5 : Keep h4 h5 [] := (Keep.refl h4 []).ext E5
  have O5 := O4.keep K5 all0
  have K45 : Keep h3 h5 [] := K4.trans K5 all0
  have I5 : own_In0 Z h5 o := by obtain ⟨a1, a2, a3, a4, a5, a6, a7⟩ := I4; exact ⟨a1.ext E5, a2.ext E5, a3.ext E5, a4.ext E5, a5.ext E5, a6.ext E5, a7.ext E5⟩
  obtain ⟨T6, h6, L6, ru, rd, rq, X6, e6, N6, K6, I6, IU6, ID6, IQ6, st6⟩ := own_i (s := s.setVm T5.vm) X5 hx hZ5 hw G hby hml hown5 e5 N4 (own_szO O5) O5 (st := sa) hE1 hE2 hE3 I5 (Nat.le_trans (own_szO O3) go) (((C1.keep K2).keep K3).keep K45) ((C2.keep K3).keep K45) (C3.keep K45)
  have K36 : Keep h3 h6 [] := K45.trans K6 (allS (Or.inr go) all0)
  have O6 := O3.keep K36 all0
  obtain ⟨T7, h7, L7, Ls7, X7, e7, N7, sz7, st7⟩ := own_tail (s := s.setVm T5.vm) X6 hx hZ5 hw G hby hml hown5 e6 N6 O6 hl hn1 hn2 I6 IU6 ID6 IQ6 (Ds.keep K36) hval M1 M2 M3 rfl rfl rfl rfl
  exact ⟨T5.vm, k5, T7, L7, Ls7, X7, S5, by rw [e7]; exact Nat.le_trans hk5 (Nat.le_trans K6.1 sz7), N7, fun target k' => st1 _ (st2 _ (st3 _ (st4 _ (st5 _ (st6 _ (st7 _ k'))))))⟩
def own_Q0 (n0 : Nat) (v : Option Value) (h : Heap) (L : List Loc) : Prop := v = some (.int 1) ∧ Fr n0 L
theorem own_ef0 (m : MethodId) (v0 v1 v2 v3 v4 : Int32) : entryFrame m #[(.int v0), (.int v1), (.int v2), (.int v3), (.int v4)] maxLocals = mkF m 0 #[.val (.int v0), .val (.int v1), .val (.int v2), .val (.int v3), .val (.int v4), .unset, .unset, .unset, .unset, .unset, .unset, .unset, .unset, .unset, .unset, .unset, .unset, .unset, .unset, .unset, .unset, .unset, .unset, .unset, .unset, .unset, .unset, .unset, .unset] [] := by first | (simp [entryFrame, mkF, argsToLocals, Value.category, maxLocals]; done) | rfl
theorem own_rm0 (l : Launch) (Z : State) (a0 : Array Value) (hw : ∀ d ∈ tables_1, d.before a0 Z = true) (ws : List Jvm.Cond) {D IC EL EE EM MO b0 b1 : Addr} {cD cI cE : Cell} (G : own_G Z D IC EL EE EM MO b0 b1 cD cI cE) (v0 v1 v2 v3 v4 : Int32) (h0 : Heap) (n0 : Nat) (O : Old Z n0 h0) :
    MetFree l x (head1 (Jvm.Cond.code x code maxLocals ret :: ws) room_1) (fun av U => av = #[(.int v0), (.int v1), (.int v2), (.int v3), (.int v4)] ∧ Z.Warmed39 U.vm ∧ U.heap = h0) (fun _ _ _ _ _ => True) (fun _ U oc U' => ∃ v L, oc = .returned v ∧ own_Q0 n0 v U'.heap L ∧ ReturnedEndW U oc U' L 42 168) := by
  refine MetFree.of_bodySF (plainFor_of_name own_pn15) hisR ?_
  intro p e s m args below meth c s₁ Bd hml0 hP hK
  obtain ⟨rfl, hZ, hh⟩ := hP
  have hx := Bd.exec
  have hby := Bd.bytes
  have hml : c.maxLocals = 29 := hml0
  have hown : s.vm.findClass "com/example/overweave/overweave/InstanceTrafficPinLaw" = some m.cls := findClass_of_methodNamed Bd.named
  have X0 : Stand p l e room_1 s m #[(.int v0), (.int v1), (.int v2), (.int v3), (.int v4)] below meth c s₁ [] 0 0 := Stand.of_body Bd
  have e0 : s₁.heap = h0 := by rw [← hh, Bd.state]; rfl
  have N0 := Fr.nil n0
  have q1 : ∀ z : Int32, z = 0 ∨ z = 1 → 1 + z = 1 ∨ 1 + z = 2 := fun z hz => by rcases hz with rfl | rfl <;> decide
  have hU := q1 _ (and_one v0)
  have hD := q1 _ (and_one (XT.ushr v0 1))
  have nz : ∀ z : Int32, z = 1 ∨ z = 2 → z ≠ 0 := fun z hz => by rcases hz with rfl | rfl <;> decide
  obtain ⟨vm', k1, T', L', Ls', X', S', hk', N', st'⟩ := own_mid (v0 := v0) (v1 := v1) (v2 := v2) (v3 := v3) (v4 := v4) (n := XT.ushr v0 2 &&& 3) X0 hx hZ hw G hby hml hown e0 N0 O hU hD (own_rem (and_one v1) hU) (own_rem (and_one (XT.ushr v1 1)) hD) (i2d_mag v2) (own_rem (and_one (XT.ushr v1 2)) hU) (own_rem (and_one (XT.ushr v1 3)) hD) (i2d_mag v3) (own_rem (and_one (XT.ushr v1 4)) hU) (own_rem (and_one (XT.ushr v1 5)) hD) (i2d_mag v4)
  obtain ⟨fs, hr, hrun, hended, hE⟩ := X'.leaveW S' hk' (v := some (.int 1)) (fun h => by rw [Bd.returns] at h; cases h)
  refine ⟨_, _, castTop (own_ef0 m v0 v1 v2 v3 v4) (own_s0 X0 hx hby (nz _ hU) (nz _ hD) (st' _ ?_)), hrun, hended, _, _, rfl, ?_, hE⟩
  · exact retOut X' hx Bd.returns rfl (Or.inl ⟨rfl, Or.inr (Or.inl rfl), _, rfl⟩) (hb hby at_624) hr
  · exact ⟨rfl, N'⟩
end OwnJoin
/-! ## The claim -/
section OwnComes
theorem own_lenIs {args : Array Value} {Z : State} {t : Term} {a : Addr} {cl : Cell} {ty : FieldType} {k : Int32} (ev : t.eval args Z none [] Z = some (.ref a)) (A : Arr Z Z.heap a cl ty) (h : (Jvm.Cond.eq (Term.length t) (Term.int k)).value args Z none Z [] = some true) : (cl.slots.size : Int) = k.toInt := by
  have ha := A.fin (Vm.Alike.refl _)
  have e := eqv_i (Term.int_eval k) h
  by_cases q : cl.slots.size < 2 ^ 31
  · rw [len_f ev ha q] at e
    have e2 : cl.slots.size.toInt32 = k := by injection e with e; injection e
    rw [← e2, len_toInt q]
  · simp [Term.eval, ev, ha, q] at e
theorem own_box {args : Array Value} {Z : State} {C n d K dd : String} {F : Term} {a : Addr} {cl : Cell} (ev : (Term.static C n d).eval args Z none [] Z = some (.ref a)) (A : Arr Z Z.heap a cl (.object K)) (j : Int32) (hj : ¬ (j < 0 ∨ cl.slots.size ≤ j.toNatClampNeg))
    (h : (Jvm.Cond.all (Term.static C n d) (.and (.exactly (.elem (Term.static C n d) (.index 0)) K) (.eq (.field (.elem (Term.static C n d) (.index 0)) K "value" dd) F))).value args Z none Z [] = some true) : ∃ b : Addr, cl.slots[j.toNatClampNeg]? = some (.ref b) ∧ Exa Z Z.heap b K := by
  have nn : ¬ j < 0 := fun x => hj (Or.inl x)
  have et : ∀ idx, (Term.static C n d).eval args Z none idx Z = some (.ref a) := fun idx => ev
  obtain ⟨u1, u2⟩ := and_e (Cond.all_elim (et []) (A.fin (Vm.Alike.refl _)) h j.toNatClampNeg (Nat.lt_of_not_le fun x => hj (Or.inr x)))
  obtain ⟨box, eb⟩ := exa_v u1
  exact ⟨box, (elem_f (et _) (idx_at nn) (A.fin (Vm.Alike.refl _)) nn).symm.trans eb, exa_at eb u1⟩
theorem own_start {args : Array Value} {s : State} (hw : ∀ d ∈ tables_1, d.before args s = true) (hs : ∀ d ∈ jdkStatics_1, d.before args s = true) (M : ∃ mo, Mir s "[Ljava/lang/Object;" mo) : ∃ D IC EL EE EM MO b0 b1 cD cI cE, own_G s D IC EL EE EM MO b0 b1 cD cI cE := by
  have v := fun (i : Nat) {d : Jvm.Cond} (h : jdkStatics_1[i]? = some d) => Cond.before_iff.mp (hs d (List.mem_of_getElem? h))
  have w := fun (i : Nat) {d : Jvm.Cond} (h : jdkStatics_1[i]? = some d) => hs d (List.mem_of_getElem? h)
  obtain ⟨MO, M⟩ := M
  obtain ⟨D, eD⟩ := arr_v (v 6 rfl)
  obtain ⟨cD, AD⟩ := Arr.start eD (v 6 rfl)
  have zD := own_lenIs eD AD (v 8 rfl)
  have eH := eqv_i (Term.int_eval 127) (v 12 rfl)
  obtain ⟨IC, eI⟩ := arr_v (v 13 rfl)
  obtain ⟨cI, AI⟩ := Arr.start eI (v 13 rfl)
  have zI := own_lenIs eI AI (v 15 rfl)
  have zI' : cI.slots.size = 256 := by
    have : (256 : Int32).toInt = 256 := by decide
    omega
  obtain ⟨b0, s0, x0⟩ := own_box eI AI 128 (by rw [zI']; decide) (v 16 rfl)
  obtain ⟨b1, s1, x1⟩ := own_box eI AI 129 (by rw [zI']; decide) (v 16 rfl)
  obtain ⟨EL, eE⟩ := exa_v (v 19 rfl)
  obtain ⟨EE, eF⟩ := arr_v (v 20 rfl)
  obtain ⟨cE, AE⟩ := Arr.start eF (v 20 rfl)
  have zE := own_lenIs eF AE (v 22 rfl)
  obtain ⟨EM, eM⟩ := exa_v (v 26 rfl)
  have z0 : (0 : Int32).toInt = 0 := by decide
  exact ⟨D, IC, EL, EE, EM, MO, b0, b1, cD, cI, cE, ⟨Sta.start eD (Or.inr ⟨ow hw 2 rfl, w 2 rfl⟩), AD, by omega⟩, ⟨Sta.start eH (Or.inl (w 10 rfl)), Sta.start eI (Or.inr ⟨ow hw 31 rfl, w 11 rfl⟩), AI, zI', s0, s1⟩, ⟨x0, x1⟩, ⟨Sta.start eE (Or.inl (w 18 rfl)), Exa.start eE (v 19 rfl), Fld.start ((fld_at eE).symm.trans eF), AE, by omega⟩, ⟨Sta.start eM (Or.inl (w 25 rfl)), Exa.start eM (v 26 rfl)⟩, M⟩
theorem own_comes {Post : Tables → Env → Array Value → State → Outcome → State → Prop} (hpost : ∀ tb e args s v u, (limb_1_1.after args s (.returned v) u = true ∧ limb_1_2.after args s (.returned v) u = true ∧ True) → ReturnedEndW s (.returned v) u (Jvm.fieldLocs frame_1_writes args s ++ Jvm.arrayLocs frame_1_arrays args s ++ Jvm.staticLocs frame_1_statics s) 64 1344 → Post tb e args s (.returned v) u) :
    ArmFor flags0 classFile x code maxLocals ret World_1 tables_1 room_1 Calls_1 rest_1 Pre_1 Post := by
  intro l hfl _ _ p e ha hc hk s m args below hf hA hF happ hP
  obtain ⟨hcalls, hrest, hpre⟩ := hP
  obtain ⟨-, -, -, hnamed, -, -, -, hat⟩ := (Spec.applies_iff hf).mp happ
  obtain ⟨hg, hn⟩ := and_e (Cond.before_iff.mp (show (Jvm.Cond.and given_1 narrow_1).before args s = true from hpre))
  obtain ⟨h1, h2⟩ := and_e hg
  obtain ⟨h3, h4⟩ := and_e h2
  obtain ⟨h5, h6⟩ := and_e h4
  obtain ⟨h7, h8⟩ := and_e h6
  obtain ⟨h9, h10⟩ := and_e h8
  obtain ⟨w0, w1, w2, w3, w4, rfl⟩ : ∃ w0 w1 w2 w3 w4 : Value, args = #[w0, w1, w2, w3, w4] := by
    have hs : args.size = 5 := by simpa [Cond.value, given_1] using h1
    obtain ⟨L⟩ := args
    match L, hs with
    | [w0, w1, w2, w3, w4], _ => exact ⟨w0, w1, w2, w3, w4, rfl⟩
  have hw := fun d (hd : d ∈ tables_1) => atoms_spec (ws := Jvm.Cond.code x code maxLocals ret :: tables_1) hat d (List.mem_cons_of_mem _ hd)
  obtain ⟨hsets, hown0⟩ := atoms_of _ (rest_1_c_eq ▸ (show rest_1_c.before _ s = true from hrest))
  obtain ⟨i0, e0⟩ := is_v h3
  obtain rfl : w0 = (.int i0) := Option.some.inj e0
  obtain ⟨i1, e1⟩ := is_v h5
  obtain rfl : w1 = (.int i1) := Option.some.inj e1
  obtain ⟨i2, e2⟩ := is_v h7
  obtain rfl : w2 = (.int i2) := Option.some.inj e2
  obtain ⟨i3, e3⟩ := is_v h9
  obtain rfl : w3 = (.int i3) := Option.some.inj e3
  obtain ⟨i4, e4⟩ := is_v h10
  obtain rfl : w4 = (.int i4) := Option.some.inj e4
  have hM : ∃ mo, Mir s "[Ljava/lang/Object;" mo := by
    obtain ⟨c1, k1, mo, q1, q2, q3, cell, q4, q5⟩ := hcalls.1
    exact ⟨mo, c1, k1, q1, q2, q3, cell, q4, q5⟩
  obtain ⟨D, IC, EL, EE, EM, MO, b0, b1, cD, cI, cE, G⟩ := own_start hw hsets hM
  obtain ⟨n, o, g1, g2, g3, _, L, rfl, ⟨rfl, N⟩, hq⟩ := own_rm0 l s _ hw tables_1 G i0 i1 i2 i3 i4 s.heap s.heap.size (Old.start s) p e ha hc hk s m _ below hf ((Spec.applies_iff_loose hf).mp happ).1 ⟨rfl, State.Warmed39.refl s, rfl⟩ trivial
  refine ⟨n, _, g1, g2, g3, hpost _ _ _ _ _ _ ⟨Cond.after_iff.mpr rfl, Cond.after_iff.mpr (eq_i res_at (Term.int_eval (1)) rfl), trivial⟩ ⟨hq.1, hq.2.1, hq.2.2.1, (hq.2.2.2.sift fun y hy => Or.inr (N y hy)).mono (by decide) (by decide)⟩⟩
end OwnComes
theorem main_1_1 : Claimed_1_1 := own_comes fun _ _ _ _ _ _ h hF => ⟨h.1, hF⟩
theorem main_1_2 : Claimed_1_2 := own_comes fun _ _ _ _ _ _ h hF => ⟨h.2.1, hF⟩
end Jvm.Pilot.@@N@@
namespace Jvm.Pilot.@@N@@
open Jvm Jvm.ClassFile Sem Op Lib Jvm.Free Jvm.Stand Jvm.Pilot.@@N@@.Jvm.D
/-! MADE BY PROGRAM (witnessworld.py) out of the Statement's table words and the real class files: 44 classes; the members and pool entries that the words name. The judged class is class 1, her method 2. -/
namespace start1
open Jvm.ClassFile
def u (s : String) : CpInfo := .utf8 (stringToUtf16 s)
/-- a pool by its gaps: so many unusable entries, then the entry; so many at the end -/
def gap : Nat → List CpInfo → List CpInfo
  | 0, r => r
  | n + 1, r => .unusable :: gap n r
def poolList (es : List (Nat × CpInfo)) (last : Nat) : List CpInfo := es.foldr (fun e r => gap e.1 (e.2 :: r)) (gap last [])
def pool (es : List (Nat × CpInfo)) (last : Nat) : Array CpInfo := ⟨poolList es last⟩
def fileOf (pool : Array CpInfo) (this : Nat) (attrs : Array Attribute := #[]) (ms : Array MethodInfo := #[]) (fl : Nat := 33) (sup : Nat := 0) (ifs : Array Nat := #[]) (fds : Array FieldInfo := #[]) : ClassFile where
  minorVersion := 0
  majorVersion := 65
  constantPool := pool
  accessFlags := fl
  thisClass := this
  superClass := sup
  interfaces := ifs
  fields := fds
  methods := ms
  attributes := attrs
def plain (name : String) (sup : Option ClassId) : Class where
  name := name
  kind := .ordinary
  loader := none
  accessFlags := 33
  super := sup
  interfaces := #[]
  cf := none
  fields := #[]
  methods := #[]
  instanceTypes := #[]
  staticTypes := #[]
  resolved := #[]
  callSites := []
  init := .initialized
  statics := none
  mirror := none

def pool0 : Array CpInfo := pool [(5, u "<init>"), (0, u "()V"), (1, .class_ 10), (1, u "java/lang/Object"), (0, u "getClass"), (0, u "()Ljava/lang/Class;")] 111

def k0c0 : Code := { maxStack := 0, maxLocals := 1, code := object_method_1_code, exceptionTable := #[], attributes := #[] }
def k0m0 : Method := { name := "<init>", desc := "()V", sig := { parameters := [], returnType := none }, accessFlags := 1, code := some k0c0 }
def k0m1 : Method := { name := "getClass", desc := "()Ljava/lang/Class;", sig := { parameters := [], returnType := some (.object "java/lang/Class") }, accessFlags := 273, code := none }
/-- java/lang/Object -/
def k0 : Class := { plain "java/lang/Object" none with
  accessFlags := 33
  interfaces := #[]
  cf := some (fileOf pool0 8 #[] #[{ accessFlags := 1, nameIndex := 5, descriptorIndex := 6, attributes := #[] }, { accessFlags := 273, nameIndex := 11, descriptorIndex := 12, attributes := #[] }] 33 0 #[] #[])
  fields := #[]
  methods := #[k0m0, k0m1]
  instanceTypes := #[]
  staticTypes := #[]
  resolved := Array.replicate 124 none
  statics := none }

def pool1 : Array CpInfo := pool [(2, .class_ 4), (0, .nameAndType 5 6), (0, u "java/lang/Object"), (0, u "<init>"), (0, u "()V"), (0, .class_ 8), (0, u "java/util/ArrayList"), (0, .methodref 7 3), (0, .methodref 11 12), (0, .class_ 13), (0, .nameAndType 14 15), (0, u "java/lang/Integer"), (0, u "valueOf"), (0, u "(I)Ljava/lang/Integer;"), (0, .interfaceMethodref 17 18), (0, .class_ 19), (0, .nameAndType 20 21), (0, u "java/util/List"), (0, u "add"), (0, u "(Ljava/lang/Object;)Z"), (0, .class_ 23), (0, u "com/example/overweave/overweave/Instance$Demand"), (0, .methodref 22 25), (0, .nameAndType 5 26), (0, u "(IID)V"), (0, .class_ 28), (0, u "com/example/overweave/overweave/Instance"), (0, .string 30), (0, u "i"), (0, .methodref 27 32), (0, .nameAndType 5 33), (0, u "(Ljava/lang/String;Ljava/util/List;Ljava/util/List;Ljava/util/List;Ljava/util/List;Ljava/util/List;)V"), (0, .methodref 27 35), (0, .nameAndType 36 37), (0, u "traffic"), (0, u "()[[D"), (0, .methodref 39 40), (0, .class_ 41), (0, .nameAndType 42 43), (0, u "com/example/overweave/overweave/InstanceTrafficPinLaw"), (0, u "exp"), (0, u "(IIIIIDIIDIID)D"), (3, u "law"), (0, u "(IIIII)Z")] 6

def k1m0 : Method := { name := "<init>", desc := "()V", sig := { parameters := [], returnType := none }, accessFlags := 1, code := none }
def k1c1 : Code := { maxStack := 4, maxLocals := 17, code := method_2_code, exceptionTable := #[], attributes := #[] }
def k1m1 : Method := { name := "exp", desc := "(IIIIIDIIDIID)D", sig := { parameters := [.int, .int, .int, .int, .int, .double, .int, .int, .double, .int, .int, .double], returnType := some .double }, accessFlags := 10, code := some k1c1 }
def k1c2 : Code := { maxStack := 17, maxLocals := 29, code := code, exceptionTable := #[], attributes := #[] }
def k1m2 : Method := { name := "law", desc := "(IIIII)Z", sig := { parameters := [.int, .int, .int, .int, .int], returnType := some .boolean }, accessFlags := 9, code := some k1c2 }
/-- com/example/overweave/overweave/InstanceTrafficPinLaw -/
def k1 : Class := { plain "com/example/overweave/overweave/InstanceTrafficPinLaw" (some 0) with
  accessFlags := 49
  interfaces := #[]
  cf := some (fileOf pool1 39 #[] #[{ accessFlags := 1, nameIndex := 5, descriptorIndex := 6, attributes := #[] }, { accessFlags := 10, nameIndex := 42, descriptorIndex := 43, attributes := #[] }, { accessFlags := 9, nameIndex := 47, descriptorIndex := 48, attributes := #[] }] 49 2 #[] #[])
  fields := #[]
  methods := #[k1m0, k1m1, k1m2]
  instanceTypes := #[]
  staticTypes := #[]
  resolved := Array.replicate 55 none
  statics := none }

def pool2 : Array CpInfo := pool [(8, .class_ 10), (1, u "java/lang/Iterable"), (24, .class_ 36), (0, u "java/lang/Object")] 25

/-- java/lang/Iterable -/
def k2 : Class := { plain "java/lang/Iterable" (some 0) with
  accessFlags := 1537
  interfaces := #[]
  cf := some (fileOf pool2 8 #[] #[] 1537 35 #[] #[])
  fields := #[]
  methods := #[]
  instanceTypes := #[]
  staticTypes := #[]
  resolved := Array.replicate 62 none
  statics := none }

def pool3 : Array CpInfo := pool [(10, .class_ 12), (1, u "java/util/Collection"), (0, u "toArray"), (16, u "()Z"), (29, .class_ 61), (0, u "java/lang/Object"), (0, .class_ 63), (0, u "java/lang/Iterable"), (2, u "isEmpty"), (3, u "()[Ljava/lang/Object;")] 44

def k3m0 : Method := { name := "isEmpty", desc := "()Z", sig := { parameters := [], returnType := some .boolean }, accessFlags := 1025, code := none }
def k3m1 : Method := { name := "toArray", desc := "()[Ljava/lang/Object;", sig := { parameters := [], returnType := some (.array (.object "java/lang/Object")) }, accessFlags := 1025, code := none }
/-- java/util/Collection -/
def k3 : Class := { plain "java/util/Collection" (some 0) with
  accessFlags := 1537
  interfaces := #[2]
  cf := some (fileOf pool3 10 #[] #[{ accessFlags := 1025, nameIndex := 66, descriptorIndex := 30, attributes := #[] }, { accessFlags := 1025, nameIndex := 13, descriptorIndex := 70, attributes := #[] }] 1537 60 #[62] #[])
  fields := #[]
  methods := #[k3m0, k3m1]
  instanceTypes := #[]
  staticTypes := #[]
  resolved := Array.replicate 115 none
  statics := none }

def pool4 : Array CpInfo := pool [(1, .methodref 2 3), (0, .class_ 4), (0, .nameAndType 5 6), (0, u "java/lang/Object"), (0, u "<init>"), (0, u "()V"), (1, .class_ 10), (1, u "java/util/AbstractCollection"), (0, u "size"), (0, u "()I"), (64, .class_ 78), (0, u "java/util/Collection")] 81

def k4c0 : Code := { maxStack := 1, maxLocals := 1, code := jdk_22_method_1_code, exceptionTable := #[], attributes := #[] }
def k4m0 : Method := { name := "<init>", desc := "()V", sig := { parameters := [], returnType := none }, accessFlags := 4, code := some k4c0 }
def k4m1 : Method := { name := "size", desc := "()I", sig := { parameters := [], returnType := some .int }, accessFlags := 1025, code := none }
/-- java/util/AbstractCollection -/
def k4 : Class := { plain "java/util/AbstractCollection" (some 0) with
  accessFlags := 1057
  interfaces := #[3]
  cf := some (fileOf pool4 8 #[] #[{ accessFlags := 4, nameIndex := 5, descriptorIndex := 6, attributes := #[] }, { accessFlags := 1025, nameIndex := 11, descriptorIndex := 12, attributes := #[] }] 1057 2 #[77] #[])
  fields := #[]
  methods := #[k4m0, k4m1]
  instanceTypes := #[]
  staticTypes := #[]
  resolved := Array.replicate 160 none
  statics := none }

def pool5 : Array CpInfo := pool [(8, .class_ 10), (1, u "java/util/SequencedCollection"), (15, .class_ 27), (0, u "java/lang/Object"), (0, .class_ 29), (0, u "java/util/Collection")] 27

/-- java/util/SequencedCollection -/
def k5 : Class := { plain "java/util/SequencedCollection" (some 0) with
  accessFlags := 1537
  interfaces := #[3]
  cf := some (fileOf pool5 8 #[] #[] 1537 26 #[28] #[])
  fields := #[]
  methods := #[]
  instanceTypes := #[]
  staticTypes := #[]
  resolved := Array.replicate 57 none
  statics := none }

def pool6 : Array CpInfo := pool [(8, .class_ 10), (1, u "java/util/List"), (20, u "(Ljava/lang/Object;)V"), (16, u "<init>"), (11, u "add"), (3, u "(Ljava/lang/Object;)Z"), (10, u "get"), (0, u "(I)Ljava/lang/Object;"), (2, u "size"), (0, u "()I"), (7, u "of"), (1, .fieldref 91 92), (0, .class_ 93), (0, .nameAndType 94 95), (0, u "java/util/ImmutableCollections"), (0, u "EMPTY_LIST"), (0, u "Ljava/util/ImmutableCollections$ListN;"), (0, .class_ 97), (0, u "java/util/ImmutableCollections$List12"), (0, .methodref 96 99), (0, .nameAndType 48 31), (0, .methodref 96 101), (0, .nameAndType 48 102), (0, u "(Ljava/lang/Object;Ljava/lang/Object;)V"), (0, .class_ 104), (0, u "java/lang/Object"), (3, u "([Ljava/lang/Object;)Ljava/util/List;"), (0, .methodref 91 110), (0, .nameAndType 111 108), (0, u "listFromArray"), (0, .methodref 91 113), (0, .nameAndType 114 115), (0, u "listCopy"), (0, u "(Ljava/util/Collection;)Ljava/util/List;"), (3, u "()Ljava/util/List;"), (0, .class_ 121), (0, u "java/util/SequencedCollection"), (1, u "iterator"), (0, u "()Ljava/util/Iterator;"), (109, u "copyOf")] 16

def k6m0 : Method := { name := "size", desc := "()I", sig := { parameters := [], returnType := some .int }, accessFlags := 1025, code := none }
def k6m1 : Method := { name := "iterator", desc := "()Ljava/util/Iterator;", sig := { parameters := [], returnType := some (.object "java/util/Iterator") }, accessFlags := 1025, code := none }
def k6m2 : Method := { name := "add", desc := "(Ljava/lang/Object;)Z", sig := { parameters := [(.object "java/lang/Object")], returnType := some .boolean }, accessFlags := 1025, code := none }
def k6m3 : Method := { name := "get", desc := "(I)Ljava/lang/Object;", sig := { parameters := [.int], returnType := some (.object "java/lang/Object") }, accessFlags := 1025, code := none }
def k6c4 : Code := { maxStack := 1, maxLocals := 0, code := jdk_40_method_36_code, exceptionTable := #[], attributes := #[] }
def k6m4 : Method := { name := "of", desc := "()Ljava/util/List;", sig := { parameters := [], returnType := some (.object "java/util/List") }, accessFlags := 9, code := some k6c4 }
def k6c5 : Code := { maxStack := 5, maxLocals := 2, code := jdk_40_method_47_code, exceptionTable := #[], attributes := #[] }
def k6m5 : Method := { name := "of", desc := "([Ljava/lang/Object;)Ljava/util/List;", sig := { parameters := [(.array (.object "java/lang/Object"))], returnType := some (.object "java/util/List") }, accessFlags := 137, code := some k6c5 }
def k6c6 : Code := { maxStack := 1, maxLocals := 1, code := jdk_40_method_48_code, exceptionTable := #[], attributes := #[] }
def k6m6 : Method := { name := "copyOf", desc := "(Ljava/util/Collection;)Ljava/util/List;", sig := { parameters := [(.object "java/util/Collection")], returnType := some (.object "java/util/List") }, accessFlags := 9, code := some k6c6 }
/-- java/util/List -/
def k6 : Class := { plain "java/util/List" (some 0) with
  accessFlags := 1537
  interfaces := #[5]
  cf := some (fileOf pool6 8 #[] #[{ accessFlags := 1025, nameIndex := 79, descriptorIndex := 80, attributes := #[] }, { accessFlags := 1025, nameIndex := 123, descriptorIndex := 124, attributes := #[] }, { accessFlags := 1025, nameIndex := 60, descriptorIndex := 64, attributes := #[] }, { accessFlags := 1025, nameIndex := 75, descriptorIndex := 76, attributes := #[] }, { accessFlags := 9, nameIndex := 88, descriptorIndex := 119, attributes := #[] }, { accessFlags := 137, nameIndex := 88, descriptorIndex := 108, attributes := #[] }, { accessFlags := 9, nameIndex := 234, descriptorIndex := 115, attributes := #[] }] 1537 103 #[120] #[])
  fields := #[]
  methods := #[k6m0, k6m1, k6m2, k6m3, k6m4, k6m5, k6m6]
  instanceTypes := #[]
  staticTypes := #[]
  resolved := Array.replicate 251 none
  statics := none }

def pool7 : Array CpInfo := pool [(1, .methodref 2 3), (0, .class_ 4), (0, .nameAndType 5 6), (0, u "java/util/AbstractCollection"), (0, u "<init>"), (0, u "()V"), (0, .fieldref 8 9), (0, .class_ 10), (0, .nameAndType 11 12), (0, u "java/util/AbstractList"), (0, u "modCount"), (0, u "I"), (64, .class_ 78), (0, u "java/util/AbstractList$Itr"), (3, .class_ 83), (0, u "java/util/AbstractList$ListItr"), (9, .class_ 94), (0, u "java/util/AbstractList$RandomAccessSubList"), (3, .class_ 99), (0, u "java/util/AbstractList$SubList"), (33, .class_ 134), (0, u "java/util/List"), (73, .class_ 209), (0, u "java/util/AbstractList$SubList$1"), (0, .class_ 211), (0, u "java/util/AbstractList$RandomAccessSpliterator")] 6

def k7c0 : Code := { maxStack := 2, maxLocals := 1, code := jdk_39_method_1_code, exceptionTable := #[], attributes := #[] }
def k7m0 : Method := { name := "<init>", desc := "()V", sig := { parameters := [], returnType := none }, accessFlags := 4, code := some k7c0 }
/-- java/util/AbstractList -/
def k7 : Class := { plain "java/util/AbstractList" (some 4) with
  accessFlags := 1057
  interfaces := #[6]
  cf := some (fileOf pool7 8 #[.nestMembers #[93, 98, 208, 210, 82, 77]] #[{ accessFlags := 4, nameIndex := 5, descriptorIndex := 6, attributes := #[] }] 1057 2 #[133] #[{ accessFlags := 132, nameIndex := 11, descriptorIndex := 12, attributes := #[] }])
  fields := #[{ name := "modCount", type := .int, accessFlags := 132, slot := 0, constantValue := 0 }]
  methods := #[k7m0]
  instanceTypes := #[.int]
  staticTypes := #[]
  resolved := Array.replicate 218 none
  statics := none }

def pool8 : Array CpInfo := pool [(1, .class_ 2), (0, u "java/util/RandomAccess"), (0, .class_ 4), (0, u "java/lang/Object")] 2

/-- java/util/RandomAccess -/
def k8 : Class := { plain "java/util/RandomAccess" (some 0) with
  accessFlags := 1537
  interfaces := #[]
  cf := some (fileOf pool8 1 #[] #[] 1537 3 #[] #[])
  fields := #[]
  methods := #[]
  instanceTypes := #[]
  staticTypes := #[]
  resolved := Array.replicate 7 none
  statics := none }

def pool9 : Array CpInfo := pool [(1, .class_ 2), (0, u "java/lang/Cloneable"), (0, .class_ 4), (0, u "java/lang/Object")] 2

/-- java/lang/Cloneable -/
def k9 : Class := { plain "java/lang/Cloneable" (some 0) with
  accessFlags := 1537
  interfaces := #[]
  cf := some (fileOf pool9 1 #[] #[] 1537 3 #[] #[])
  fields := #[]
  methods := #[]
  instanceTypes := #[]
  staticTypes := #[]
  resolved := Array.replicate 7 none
  statics := none }

def pool10 : Array CpInfo := pool [(1, .class_ 2), (0, u "java/io/Serializable"), (0, .class_ 4), (0, u "java/lang/Object")] 2

/-- java/io/Serializable -/
def k10 : Class := { plain "java/io/Serializable" (some 0) with
  accessFlags := 1537
  interfaces := #[]
  cf := some (fileOf pool10 1 #[] #[] 1537 3 #[] #[])
  fields := #[]
  methods := #[]
  instanceTypes := #[]
  staticTypes := #[]
  resolved := Array.replicate 7 none
  statics := none }

def pool11 : Array CpInfo := pool [(1, .methodref 2 3), (0, .class_ 4), (0, .nameAndType 5 6), (0, u "java/util/AbstractList"), (0, u "<init>"), (0, u "()V"), (0, .class_ 8), (0, u "java/lang/Object"), (0, .fieldref 10 11), (0, .class_ 12), (0, .nameAndType 13 14), (0, u "java/util/ArrayList"), (0, u "elementData"), (0, u "[Ljava/lang/Object;"), (2, u "EMPTY_ELEMENTDATA"), (21, .fieldref 10 40), (0, .nameAndType 41 14), (0, u "DEFAULTCAPACITY_EMPTY_ELEMENTDATA"), (4, u "toArray"), (0, u "()[Ljava/lang/Object;"), (0, .fieldref 10 49), (0, .nameAndType 50 51), (0, u "size"), (0, u "I"), (6, .class_ 60), (1, u "java/util/Arrays"), (0, u "copyOf"), (1, .fieldref 10 64), (0, .nameAndType 65 51), (0, u "modCount"), (0, .methodref 58 67), (0, .nameAndType 61 68), (0, u "([Ljava/lang/Object;I)[Ljava/lang/Object;"), (0, .methodref 10 70), (0, .nameAndType 71 72), (0, u "grow"), (0, u "(I)[Ljava/lang/Object;"), (6, .methodref 80 81), (0, .class_ 82), (0, .nameAndType 83 84), (0, u "java/lang/Math"), (0, u "max"), (0, u "(II)I"), (11, u "(Ljava/lang/Object;)Z"), (32, .methodref 10 130), (0, .nameAndType 71 47), (0, .methodref 10 132), (0, .nameAndType 133 134), (0, u "add"), (0, u "(Ljava/lang/Object;[Ljava/lang/Object;I)V"), (13, .class_ 149), (0, u "java/util/List"), (23, u "()Z"), (88, .class_ 263), (0, u "java/util/ArrayList$ListItr"), (3, .class_ 268), (0, u "java/util/ArrayList$Itr"), (7, .class_ 277), (0, u "java/util/ArrayList$SubList"), (12, .class_ 291), (0, u "java/util/ArrayList$ArrayListSpliterator"), (37, .class_ 330), (0, u "java/util/RandomAccess"), (0, .class_ 332), (0, u "java/lang/Cloneable"), (0, .class_ 334), (0, u "java/io/Serializable"), (0, u "serialVersionUID"), (0, u "J"), (3, u "DEFAULT_CAPACITY"), (22, u "isEmpty"), (136, .class_ 501), (0, u "java/util/ArrayList$SubList$2"), (0, .class_ 503), (0, u "java/util/ArrayList$SubList$1")] 5

def k11c0 : Code := { maxStack := 2, maxLocals := 1, code := jdk_38_method_2_code, exceptionTable := #[], attributes := #[] }
def k11m0 : Method := { name := "<init>", desc := "()V", sig := { parameters := [], returnType := none }, accessFlags := 1, code := some k11c0 }
def k11c1 : Code := { maxStack := 4, maxLocals := 4, code := jdk_38_method_6_code, exceptionTable := #[], attributes := #[] }
def k11m1 : Method := { name := "grow", desc := "(I)[Ljava/lang/Object;", sig := { parameters := [.int], returnType := some (.array (.object "java/lang/Object")) }, accessFlags := 2, code := some k11c1 }
def k11c2 : Code := { maxStack := 3, maxLocals := 1, code := jdk_38_method_7_code, exceptionTable := #[], attributes := #[] }
def k11m2 : Method := { name := "grow", desc := "()[Ljava/lang/Object;", sig := { parameters := [], returnType := some (.array (.object "java/lang/Object")) }, accessFlags := 2, code := some k11c2 }
def k11c3 : Code := { maxStack := 1, maxLocals := 1, code := jdk_38_method_9_code, exceptionTable := #[], attributes := #[] }
def k11m3 : Method := { name := "isEmpty", desc := "()Z", sig := { parameters := [], returnType := some .boolean }, accessFlags := 1, code := some k11c3 }
def k11c4 : Code := { maxStack := 2, maxLocals := 1, code := jdk_38_method_16_code, exceptionTable := #[], attributes := #[] }
def k11m4 : Method := { name := "toArray", desc := "()[Ljava/lang/Object;", sig := { parameters := [], returnType := some (.array (.object "java/lang/Object")) }, accessFlags := 1, code := some k11c4 }
def k11c5 : Code := { maxStack := 3, maxLocals := 4, code := jdk_38_method_24_code, exceptionTable := #[], attributes := #[] }
def k11m5 : Method := { name := "add", desc := "(Ljava/lang/Object;[Ljava/lang/Object;I)V", sig := { parameters := [(.object "java/lang/Object"), (.array (.object "java/lang/Object")), .int], returnType := none }, accessFlags := 2, code := some k11c5 }
def k11c6 : Code := { maxStack := 4, maxLocals := 2, code := jdk_38_method_25_code, exceptionTable := #[], attributes := #[] }
def k11m6 : Method := { name := "add", desc := "(Ljava/lang/Object;)Z", sig := { parameters := [(.object "java/lang/Object")], returnType := some .boolean }, accessFlags := 1, code := some k11c6 }
/-- java/util/ArrayList -/
def k11 : Class := { plain "java/util/ArrayList" (some 7) with
  accessFlags := 33
  interfaces := #[6, 8, 9, 10]
  cf := some (fileOf pool11 10 #[.nestMembers #[290, 276, 500, 502, 262, 267]] #[{ accessFlags := 1, nameIndex := 5, descriptorIndex := 6, attributes := #[] }, { accessFlags := 2, nameIndex := 71, descriptorIndex := 72, attributes := #[] }, { accessFlags := 2, nameIndex := 71, descriptorIndex := 47, attributes := #[] }, { accessFlags := 1, nameIndex := 363, descriptorIndex := 173, attributes := #[] }, { accessFlags := 1, nameIndex := 46, descriptorIndex := 47, attributes := #[] }, { accessFlags := 2, nameIndex := 133, descriptorIndex := 134, attributes := #[] }, { accessFlags := 1, nameIndex := 133, descriptorIndex := 96, attributes := #[] }] 33 2 #[148, 329, 331, 333] #[{ accessFlags := 26, nameIndex := 335, descriptorIndex := 336, attributes := #[] }, { accessFlags := 26, nameIndex := 340, descriptorIndex := 51, attributes := #[] }, { accessFlags := 26, nameIndex := 17, descriptorIndex := 14, attributes := #[] }, { accessFlags := 26, nameIndex := 41, descriptorIndex := 14, attributes := #[] }, { accessFlags := 128, nameIndex := 13, descriptorIndex := 14, attributes := #[] }, { accessFlags := 2, nameIndex := 50, descriptorIndex := 51, attributes := #[] }])
  fields := #[{ name := "serialVersionUID", type := .long, accessFlags := 26, slot := 0, constantValue := 0 }, { name := "DEFAULT_CAPACITY", type := .int, accessFlags := 26, slot := 1, constantValue := 0 }, { name := "EMPTY_ELEMENTDATA", type := (.array (.object "java/lang/Object")), accessFlags := 26, slot := 2, constantValue := 0 }, { name := "DEFAULTCAPACITY_EMPTY_ELEMENTDATA", type := (.array (.object "java/lang/Object")), accessFlags := 26, slot := 3, constantValue := 0 }, { name := "elementData", type := (.array (.object "java/lang/Object")), accessFlags := 128, slot := 1, constantValue := 0 }, { name := "size", type := .int, accessFlags := 2, slot := 2, constantValue := 0 }]
  methods := #[k11m0, k11m1, k11m2, k11m3, k11m4, k11m5, k11m6]
  instanceTypes := #[.int, (.array (.object "java/lang/Object")), .int]
  staticTypes := #[.long, .int, (.array (.object "java/lang/Object")), (.array (.object "java/lang/Object"))]
  resolved := Array.replicate 509 none
  statics := some 0 }

def pool12 : Array CpInfo := pool [(2, .class_ 4), (1, u "java/lang/Object"), (0, u "<init>"), (0, u "()V"), (1, .class_ 10), (1, u "java/lang/Number"), (2, .class_ 14), (0, u "java/io/Serializable"), (0, u "serialVersionUID"), (0, u "J")] 20

def k12m0 : Method := { name := "<init>", desc := "()V", sig := { parameters := [], returnType := none }, accessFlags := 1, code := none }
/-- java/lang/Number -/
def k12 : Class := { plain "java/lang/Number" (some 0) with
  accessFlags := 1057
  interfaces := #[10]
  cf := some (fileOf pool12 8 #[] #[{ accessFlags := 1, nameIndex := 5, descriptorIndex := 6, attributes := #[] }] 1057 2 #[13] #[{ accessFlags := 26, nameIndex := 15, descriptorIndex := 16, attributes := #[] }])
  fields := #[{ name := "serialVersionUID", type := .long, accessFlags := 26, slot := 0, constantValue := 0 }]
  methods := #[k12m0]
  instanceTypes := #[]
  staticTypes := #[.long]
  resolved := Array.replicate 37 none
  statics := none }

def pool13 : Array CpInfo := pool [(1, .class_ 2), (0, u "java/lang/Comparable"), (0, .class_ 4), (0, u "java/lang/Object")] 7

/-- java/lang/Comparable -/
def k13 : Class := { plain "java/lang/Comparable" (some 0) with
  accessFlags := 1537
  interfaces := #[]
  cf := some (fileOf pool13 1 #[] #[] 1537 3 #[] #[])
  fields := #[]
  methods := #[]
  instanceTypes := #[]
  staticTypes := #[]
  resolved := Array.replicate 12 none
  statics := none }

def pool14 : Array CpInfo := pool [(1, .class_ 2), (0, u "java/lang/constant/Constable"), (0, .class_ 4), (0, u "java/lang/Object")] 6

/-- java/lang/constant/Constable -/
def k14 : Class := { plain "java/lang/constant/Constable" (some 0) with
  accessFlags := 1537
  interfaces := #[]
  cf := some (fileOf pool14 1 #[] #[] 1537 3 #[] #[])
  fields := #[]
  methods := #[]
  instanceTypes := #[]
  staticTypes := #[]
  resolved := Array.replicate 11 none
  statics := none }

def pool15 : Array CpInfo := pool [(1, .class_ 2), (0, u "java/lang/constant/ConstantDesc"), (0, .class_ 4), (0, u "java/lang/Object")] 32

/-- java/lang/constant/ConstantDesc -/
def k15 : Class := { plain "java/lang/constant/ConstantDesc" (some 0) with
  accessFlags := 1537
  interfaces := #[]
  cf := some (fileOf pool15 1 #[] #[] 1537 3 #[] #[])
  fields := #[]
  methods := #[]
  instanceTypes := #[]
  staticTypes := #[]
  resolved := Array.replicate 37 none
  statics := none }

def pool16 : Array CpInfo := pool [(1, .class_ 2), (0, u "java/lang/Integer"), (16, u "digits"), (0, u "[C"), (64, u "DigitOnes"), (0, u "[B"), (2, u "DigitTens"), (97, u "valueOf"), (0, u "(I)Ljava/lang/Integer;"), (0, .class_ 190), (0, u "java/lang/Integer$IntegerCache"), (0, .fieldref 189 192), (0, .nameAndType 193 194), (0, u "high"), (0, u "I"), (0, .fieldref 189 196), (0, .nameAndType 197 198), (0, u "cache"), (0, u "[Ljava/lang/Integer;"), (4, .class_ 204), (0, u "java/lang/Number"), (2, u "value"), (94, u "TYPE"), (0, u "Ljava/lang/Class;"), (0, .class_ 305), (0, u "java/lang/Comparable"), (0, .class_ 307), (0, u "java/lang/constant/Constable"), (0, .class_ 309), (0, u "java/lang/constant/ConstantDesc"), (0, u "MIN_VALUE"), (1, u "MAX_VALUE"), (3, u "SIZE"), (1, u "BYTES"), (1, u "serialVersionUID"), (0, u "J")] 131

def k16c0 : Code := { maxStack := 3, maxLocals := 1, code := jdk_33_method_22_code, exceptionTable := #[], attributes := #[] }
def k16m0 : Method := { name := "valueOf", desc := "(I)Ljava/lang/Integer;", sig := { parameters := [.int], returnType := some (.object "java/lang/Integer") }, accessFlags := 9, code := some k16c0 }
/-- java/lang/Integer -/
def k16 : Class := { plain "java/lang/Integer" (some 12) with
  accessFlags := 49
  interfaces := #[13, 14, 15]
  cf := some (fileOf pool16 1 #[.nestMembers #[189]] #[{ accessFlags := 9, nameIndex := 187, descriptorIndex := 188, attributes := #[] }] 49 203 #[304, 306, 308] #[{ accessFlags := 25, nameIndex := 310, descriptorIndex := 194, attributes := #[] }, { accessFlags := 25, nameIndex := 312, descriptorIndex := 194, attributes := #[] }, { accessFlags := 25, nameIndex := 302, descriptorIndex := 303, attributes := #[] }, { accessFlags := 24, nameIndex := 19, descriptorIndex := 20, attributes := #[] }, { accessFlags := 24, nameIndex := 89, descriptorIndex := 86, attributes := #[] }, { accessFlags := 24, nameIndex := 85, descriptorIndex := 86, attributes := #[] }, { accessFlags := 18, nameIndex := 207, descriptorIndex := 194, attributes := #[] }, { accessFlags := 25, nameIndex := 316, descriptorIndex := 194, attributes := #[] }, { accessFlags := 25, nameIndex := 318, descriptorIndex := 194, attributes := #[] }, { accessFlags := 26, nameIndex := 320, descriptorIndex := 321, attributes := #[] }])
  fields := #[{ name := "MIN_VALUE", type := .int, accessFlags := 25, slot := 0, constantValue := 0 }, { name := "MAX_VALUE", type := .int, accessFlags := 25, slot := 1, constantValue := 0 }, { name := "TYPE", type := (.object "java/lang/Class"), accessFlags := 25, slot := 2, constantValue := 0 }, { name := "digits", type := (.array .char), accessFlags := 24, slot := 3, constantValue := 0 }, { name := "DigitTens", type := (.array .byte), accessFlags := 24, slot := 4, constantValue := 0 }, { name := "DigitOnes", type := (.array .byte), accessFlags := 24, slot := 5, constantValue := 0 }, { name := "value", type := .int, accessFlags := 18, slot := 0, constantValue := 0 }, { name := "SIZE", type := .int, accessFlags := 25, slot := 6, constantValue := 0 }, { name := "BYTES", type := .int, accessFlags := 25, slot := 7, constantValue := 0 }, { name := "serialVersionUID", type := .long, accessFlags := 26, slot := 8, constantValue := 0 }]
  methods := #[k16m0]
  instanceTypes := #[.int]
  staticTypes := #[.int, .int, (.object "java/lang/Class"), (.array .char), (.array .byte), (.array .byte), .int, .int, .long]
  resolved := Array.replicate 453 none
  statics := none }

def pool17 : Array CpInfo := pool [(2, .class_ 4), (1, u "java/lang/Object"), (0, u "<init>"), (0, u "()V"), (0, .class_ 8), (0, u "java/lang/Integer"), (7, .class_ 18), (1, u "java/lang/Integer$IntegerCache"), (0, u "$assertionsDisabled"), (0, u "Z"), (26, u "high"), (0, u "I"), (8, u "archivedCache"), (0, u "[Ljava/lang/Integer;"), (12, u "cache"), (0, u "low")] 27

def k17m0 : Method := { name := "<init>", desc := "()V", sig := { parameters := [], returnType := none }, accessFlags := 2, code := none }
/-- java/lang/Integer$IntegerCache -/
def k17 : Class := { plain "java/lang/Integer$IntegerCache" (some 0) with
  accessFlags := 48
  interfaces := #[]
  cf := some (fileOf pool17 16 #[.nestHost 7] #[{ accessFlags := 2, nameIndex := 5, descriptorIndex := 6, attributes := #[] }] 48 2 #[] #[{ accessFlags := 24, nameIndex := 72, descriptorIndex := 48, attributes := #[] }, { accessFlags := 24, nameIndex := 47, descriptorIndex := 48, attributes := #[] }, { accessFlags := 24, nameIndex := 71, descriptorIndex := 58, attributes := #[] }, { accessFlags := 8, nameIndex := 57, descriptorIndex := 58, attributes := #[] }, { accessFlags := 4120, nameIndex := 19, descriptorIndex := 20, attributes := #[] }])
  fields := #[{ name := "low", type := .int, accessFlags := 24, slot := 0, constantValue := 0 }, { name := "high", type := .int, accessFlags := 24, slot := 1, constantValue := 0 }, { name := "cache", type := (.array (.object "java/lang/Integer")), accessFlags := 24, slot := 2, constantValue := 0 }, { name := "archivedCache", type := (.array (.object "java/lang/Integer")), accessFlags := 8, slot := 3, constantValue := 0 }, { name := "$assertionsDisabled", type := .boolean, accessFlags := 4120, slot := 4, constantValue := 0 }]
  methods := #[k17m0]
  instanceTypes := #[]
  staticTypes := #[.int, .int, (.array (.object "java/lang/Integer")), (.array (.object "java/lang/Integer")), .boolean]
  resolved := Array.replicate 100 none
  statics := some 1 }

def pool18 : Array CpInfo := pool [(1, .class_ 2), (0, u "java/lang/Math"), (1, .class_ 6), (1, u "java/lang/Object"), (0, u "<init>"), (0, u "()V"), (89, .class_ 100), (1, u "java/lang/Math$RandomNumberGeneratorHolder"), (71, u "negativeZeroFloatBits"), (0, u "J"), (2, u "negativeZeroDoubleBits"), (21, u "max"), (2, u "min"), (43, u "$assertionsDisabled"), (0, u "Z"), (88, u "(II)I"), (2, u "twoToTheDoubleScaleDown"), (0, u "D"), (4, u "twoToTheDoubleScaleUp"), (9, u "E"), (3, u "PI"), (2, u "TAU"), (2, u "DEGREES_TO_RADIANS"), (0, u "RADIANS_TO_DEGREES")] 94

def k18m0 : Method := { name := "<init>", desc := "()V", sig := { parameters := [], returnType := none }, accessFlags := 2, code := none }
def k18c1 : Code := { maxStack := 2, maxLocals := 2, code := jdk_29_method_65_code, exceptionTable := #[], attributes := #[] }
def k18m1 : Method := { name := "max", desc := "(II)I", sig := { parameters := [.int, .int], returnType := some .int }, accessFlags := 9, code := some k18c1 }
def k18c2 : Code := { maxStack := 2, maxLocals := 2, code := jdk_29_method_69_code, exceptionTable := #[], attributes := #[] }
def k18m2 : Method := { name := "min", desc := "(II)I", sig := { parameters := [.int, .int], returnType := some .int }, accessFlags := 9, code := some k18c2 }
/-- java/lang/Math -/
def k18 : Class := { plain "java/lang/Math" (some 0) with
  accessFlags := 49
  interfaces := #[]
  cf := some (fileOf pool18 1 #[.nestMembers #[98]] #[{ accessFlags := 2, nameIndex := 7, descriptorIndex := 8, attributes := #[] }, { accessFlags := 9, nameIndex := 198, descriptorIndex := 335, attributes := #[] }, { accessFlags := 9, nameIndex := 201, descriptorIndex := 335, attributes := #[] }] 49 4 #[] #[{ accessFlags := 25, nameIndex := 354, descriptorIndex := 339, attributes := #[] }, { accessFlags := 25, nameIndex := 358, descriptorIndex := 339, attributes := #[] }, { accessFlags := 25, nameIndex := 361, descriptorIndex := 339, attributes := #[] }, { accessFlags := 26, nameIndex := 364, descriptorIndex := 339, attributes := #[] }, { accessFlags := 26, nameIndex := 365, descriptorIndex := 339, attributes := #[] }, { accessFlags := 26, nameIndex := 172, descriptorIndex := 173, attributes := #[] }, { accessFlags := 26, nameIndex := 176, descriptorIndex := 173, attributes := #[] }, { accessFlags := 8, nameIndex := 344, descriptorIndex := 339, attributes := #[] }, { accessFlags := 8, nameIndex := 338, descriptorIndex := 339, attributes := #[] }, { accessFlags := 4120, nameIndex := 245, descriptorIndex := 246, attributes := #[] }])
  fields := #[{ name := "E", type := .double, accessFlags := 25, slot := 0, constantValue := 0 }, { name := "PI", type := .double, accessFlags := 25, slot := 1, constantValue := 0 }, { name := "TAU", type := .double, accessFlags := 25, slot := 2, constantValue := 0 }, { name := "DEGREES_TO_RADIANS", type := .double, accessFlags := 26, slot := 3, constantValue := 0 }, { name := "RADIANS_TO_DEGREES", type := .double, accessFlags := 26, slot := 4, constantValue := 0 }, { name := "negativeZeroFloatBits", type := .long, accessFlags := 26, slot := 5, constantValue := 0 }, { name := "negativeZeroDoubleBits", type := .long, accessFlags := 26, slot := 6, constantValue := 0 }, { name := "twoToTheDoubleScaleUp", type := .double, accessFlags := 8, slot := 7, constantValue := 0 }, { name := "twoToTheDoubleScaleDown", type := .double, accessFlags := 8, slot := 8, constantValue := 0 }, { name := "$assertionsDisabled", type := .boolean, accessFlags := 4120, slot := 9, constantValue := 0 }]
  methods := #[k18m0, k18m1, k18m2]
  instanceTypes := #[]
  staticTypes := #[.double, .double, .double, .double, .double, .long, .long, .double, .double, .boolean]
  resolved := Array.replicate 460 none
  statics := none }

def pool19 : Array CpInfo := pool [(1, .methodref 2 3), (0, .class_ 4), (0, .nameAndType 5 6), (0, u "java/lang/Object"), (0, u "<init>"), (0, u "()V"), (0, .fieldref 8 9), (0, .class_ 10), (0, .nameAndType 11 12), (0, u "com/example/overweave/overweave/Instance"), (0, u "name"), (0, u "Ljava/lang/String;"), (0, .interfaceMethodref 14 15), (0, .class_ 16), (0, .nameAndType 17 18), (0, u "java/util/List"), (0, u "copyOf"), (0, u "(Ljava/util/Collection;)Ljava/util/List;"), (0, .fieldref 8 20), (0, .nameAndType 21 22), (0, u "sites"), (0, u "Ljava/util/List;"), (0, .fieldref 8 24), (0, .nameAndType 25 22), (0, u "users"), (0, .fieldref 8 27), (0, .nameAndType 28 22), (0, u "destinations"), (0, .fieldref 8 30), (0, .nameAndType 31 22), (0, u "links"), (0, .fieldref 8 33), (0, .nameAndType 34 22), (0, u "demands"), (0, .interfaceMethodref 14 36), (0, .nameAndType 37 38), (0, u "size"), (0, u "()I"), (0, .class_ 40), (0, u "[[D"), (0, .interfaceMethodref 14 42), (0, .nameAndType 43 44), (0, u "iterator"), (0, u "()Ljava/util/Iterator;"), (0, .interfaceMethodref 46 47), (0, .class_ 48), (0, .nameAndType 49 50), (0, u "java/util/Iterator"), (0, u "hasNext"), (0, u "()Z"), (0, .interfaceMethodref 46 52), (0, .nameAndType 53 54), (0, u "next"), (0, u "()Ljava/lang/Object;"), (0, .class_ 56), (0, u "com/example/overweave/overweave/Instance$Demand"), (0, .methodref 55 58), (0, .nameAndType 59 38), (0, u "getUser"), (0, .methodref 55 61), (0, .nameAndType 62 38), (0, u "getDestination"), (0, .methodref 55 64), (0, .nameAndType 65 66), (0, u "getVolume"), (0, u "()D"), (2, u "traffic"), (0, u "()[[D"), (49, u "(Ljava/lang/String;Ljava/util/List;Ljava/util/List;Ljava/util/List;Ljava/util/List;Ljava/util/List;)V"), (28, .class_ 150), (0, u "com/example/overweave/overweave/Instance$Link"), (0, .class_ 152), (0, u "com/example/overweave/overweave/Instance$Position"), (0, .class_ 154), (0, u "com/example/overweave/overweave/Instance$Destination"), (0, .class_ 156), (0, u "com/example/overweave/overweave/Instance$User"), (0, .class_ 158), (0, u "com/example/overweave/overweave/Instance$Site")] 34

def k19c0 : Code := { maxStack := 2, maxLocals := 7, code := prog_6_method_1_code, exceptionTable := #[], attributes := #[] }
def k19m0 : Method := { name := "<init>", desc := "(Ljava/lang/String;Ljava/util/List;Ljava/util/List;Ljava/util/List;Ljava/util/List;Ljava/util/List;)V", sig := { parameters := [(.object "java/lang/String"), (.object "java/util/List"), (.object "java/util/List"), (.object "java/util/List"), (.object "java/util/List"), (.object "java/util/List")], returnType := none }, accessFlags := 0, code := some k19c0 }
def k19c1 : Code := { maxStack := 6, maxLocals := 4, code := prog_6_method_8_code, exceptionTable := #[], attributes := #[] }
def k19m1 : Method := { name := "traffic", desc := "()[[D", sig := { parameters := [], returnType := some (.array (.array .double)) }, accessFlags := 1, code := some k19c1 }
/-- com/example/overweave/overweave/Instance -/
def k19 : Class := { plain "com/example/overweave/overweave/Instance" (some 0) with
  accessFlags := 49
  interfaces := #[]
  cf := some (fileOf pool19 8 #[.nestMembers #[55, 149, 151, 153, 155, 157]] #[{ accessFlags := 0, nameIndex := 5, descriptorIndex := 120, attributes := #[] }, { accessFlags := 1, nameIndex := 69, descriptorIndex := 70, attributes := #[] }] 49 2 #[] #[{ accessFlags := 18, nameIndex := 11, descriptorIndex := 12, attributes := #[] }, { accessFlags := 18, nameIndex := 21, descriptorIndex := 22, attributes := #[] }, { accessFlags := 18, nameIndex := 25, descriptorIndex := 22, attributes := #[] }, { accessFlags := 18, nameIndex := 28, descriptorIndex := 22, attributes := #[] }, { accessFlags := 18, nameIndex := 31, descriptorIndex := 22, attributes := #[] }, { accessFlags := 18, nameIndex := 34, descriptorIndex := 22, attributes := #[] }])
  fields := #[{ name := "name", type := (.object "java/lang/String"), accessFlags := 18, slot := 0, constantValue := 0 }, { name := "sites", type := (.object "java/util/List"), accessFlags := 18, slot := 1, constantValue := 0 }, { name := "users", type := (.object "java/util/List"), accessFlags := 18, slot := 2, constantValue := 0 }, { name := "destinations", type := (.object "java/util/List"), accessFlags := 18, slot := 3, constantValue := 0 }, { name := "links", type := (.object "java/util/List"), accessFlags := 18, slot := 4, constantValue := 0 }, { name := "demands", type := (.object "java/util/List"), accessFlags := 18, slot := 5, constantValue := 0 }]
  methods := #[k19m0, k19m1]
  instanceTypes := #[(.object "java/lang/String"), (.object "java/util/List"), (.object "java/util/List"), (.object "java/util/List"), (.object "java/util/List"), (.object "java/util/List")]
  staticTypes := #[]
  resolved := Array.replicate 193 none
  statics := none }

def pool20 : Array CpInfo := pool [(2, .class_ 4), (1, u "java/lang/CharSequence"), (42, .class_ 48), (0, u "java/lang/CharSequence$1CodePointIterator"), (10, .class_ 60), (0, u "java/lang/CharSequence$1CharIterator"), (5, .class_ 67), (0, u "java/lang/Object")] 63

/-- java/lang/CharSequence -/
def k20 : Class := { plain "java/lang/CharSequence" (some 0) with
  accessFlags := 1537
  interfaces := #[]
  cf := some (fileOf pool20 2 #[.nestMembers #[47, 59]] #[] 1537 66 #[] #[])
  fields := #[]
  methods := #[]
  instanceTypes := #[]
  staticTypes := #[]
  resolved := Array.replicate 131 none
  statics := none }

def pool21 : Array CpInfo := pool [(2, .class_ 4), (1, u "java/lang/Object"), (0, u "<init>"), (0, u "()V"), (3, .class_ 12), (1, u "java/lang/String"), (0, u "value"), (0, u "[B"), (2, u "coder"), (0, u "B"), (2, u "hash"), (0, u "I"), (2, u "hashIsZero"), (0, u "Z"), (13, u "COMPACT_STRINGS"), (534, .class_ 576), (0, u "java/lang/CharSequence"), (22, u "CASE_INSENSITIVE_ORDER"), (0, u "Ljava/util/Comparator;"), (500, u "serialPersistentFields"), (0, u "[Ljava/io/ObjectStreamField;"), (0, .class_ 1104), (0, u "java/lang/String$CaseInsensitiveComparator"), (1, .class_ 1107), (0, u "java/io/Serializable"), (0, .class_ 1109), (0, u "java/lang/Comparable"), (0, .class_ 1111), (0, u "java/lang/constant/Constable"), (0, .class_ 1113), (0, u "java/lang/constant/ConstantDesc"), (2, u "serialVersionUID"), (0, u "J"), (3, u "REPL"), (0, u "C"), (2, u "LATIN1"), (1, u "UTF16")] 323

def k21m0 : Method := { name := "<init>", desc := "()V", sig := { parameters := [], returnType := none }, accessFlags := 1, code := none }
/-- java/lang/String -/
def k21 : Class := { plain "java/lang/String" (some 0) with
  accessFlags := 49
  interfaces := #[10, 13, 20, 14, 15]
  cf := some (fileOf pool21 10 #[.nestMembers #[1103]] #[{ accessFlags := 1, nameIndex := 5, descriptorIndex := 6, attributes := #[] }] 49 2 #[1106, 1108, 575, 1110, 1112] #[{ accessFlags := 18, nameIndex := 13, descriptorIndex := 14, attributes := #[] }, { accessFlags := 18, nameIndex := 17, descriptorIndex := 18, attributes := #[] }, { accessFlags := 2, nameIndex := 21, descriptorIndex := 22, attributes := #[] }, { accessFlags := 2, nameIndex := 25, descriptorIndex := 26, attributes := #[] }, { accessFlags := 26, nameIndex := 1116, descriptorIndex := 1117, attributes := #[] }, { accessFlags := 24, nameIndex := 40, descriptorIndex := 26, attributes := #[] }, { accessFlags := 26, nameIndex := 1101, descriptorIndex := 1102, attributes := #[] }, { accessFlags := 26, nameIndex := 1121, descriptorIndex := 1122, attributes := #[] }, { accessFlags := 25, nameIndex := 599, descriptorIndex := 600, attributes := #[] }, { accessFlags := 24, nameIndex := 1125, descriptorIndex := 18, attributes := #[] }, { accessFlags := 24, nameIndex := 1127, descriptorIndex := 18, attributes := #[] }])
  fields := #[{ name := "value", type := (.array .byte), accessFlags := 18, slot := 0, constantValue := 0 }, { name := "coder", type := .byte, accessFlags := 18, slot := 1, constantValue := 0 }, { name := "hash", type := .int, accessFlags := 2, slot := 2, constantValue := 0 }, { name := "hashIsZero", type := .boolean, accessFlags := 2, slot := 3, constantValue := 0 }, { name := "serialVersionUID", type := .long, accessFlags := 26, slot := 0, constantValue := 0 }, { name := "COMPACT_STRINGS", type := .boolean, accessFlags := 24, slot := 1, constantValue := 0 }, { name := "serialPersistentFields", type := (.array (.object "java/io/ObjectStreamField")), accessFlags := 26, slot := 2, constantValue := 0 }, { name := "REPL", type := .char, accessFlags := 26, slot := 3, constantValue := 0 }, { name := "CASE_INSENSITIVE_ORDER", type := (.object "java/util/Comparator"), accessFlags := 25, slot := 4, constantValue := 0 }, { name := "LATIN1", type := .byte, accessFlags := 24, slot := 5, constantValue := 0 }, { name := "UTF16", type := .byte, accessFlags := 24, slot := 6, constantValue := 0 }]
  methods := #[k21m0]
  instanceTypes := #[(.array .byte), .byte, .int, .boolean]
  staticTypes := #[.long, .boolean, (.array (.object "java/io/ObjectStreamField")), .char, (.object "java/util/Comparator"), .byte, .byte]
  resolved := Array.replicate 1451 none
  statics := none }

def pool22 : Array CpInfo := pool [(2, .class_ 4), (1, u "java/lang/Object"), (0, u "<init>"), (0, u "()V"), (3, .class_ 11), (0, u "java/util/ImmutableCollections$List12"), (0, .class_ 13), (0, u "java/util/ImmutableCollections$ListN"), (3, u "Z"), (0, .class_ 19), (0, u "java/util/List"), (0, .interfaceMethodref 21 22), (0, .class_ 23), (0, .nameAndType 24 25), (0, u "java/util/Collection"), (0, u "isEmpty"), (0, u "()Z"), (0, .interfaceMethodref 18 27), (0, .nameAndType 28 29), (0, u "of"), (0, u "()Ljava/util/List;"), (0, .interfaceMethodref 21 31), (0, .nameAndType 32 33), (0, u "toArray"), (0, u "()[Ljava/lang/Object;"), (0, .interfaceMethodref 18 35), (0, .nameAndType 28 36), (0, u "([Ljava/lang/Object;)Ljava/util/List;"), (0, .methodref 38 39), (0, .class_ 40), (0, .nameAndType 41 42), (0, u "java/util/Objects"), (0, u "requireNonNull"), (0, u "(Ljava/lang/Object;)Ljava/lang/Object;"), (0, .methodref 12 44), (0, .nameAndType 5 45), (0, u "([Ljava/lang/Object;Z)V"), (1, .class_ 49), (1, u "java/util/ImmutableCollections"), (0, u "$assertionsDisabled"), (5, u "[Ljava/lang/Object;"), (5, u "EMPTY_LIST"), (0, u "Ljava/util/ImmutableCollections$ListN;"), (8, u "EMPTY_LIST_NULLS"), (22, u "SALT32L"), (0, u "J"), (2, u "REVERSE"), (6, u "archivedObjects"), (2, u "EMPTY"), (0, u "Ljava/lang/Object;"), (0, .class_ 112), (0, u "java/util/ImmutableCollections$SetN"), (5, u "EMPTY_SET"), (0, u "Ljava/util/ImmutableCollections$SetN;"), (0, .class_ 121), (0, u "java/util/ImmutableCollections$MapN"), (3, u "EMPTY_MAP"), (0, u "Ljava/util/ImmutableCollections$MapN;"), (4, u "EXPAND_FACTOR"), (0, u "I"), (9, u "listCopy"), (0, u "(Ljava/util/Collection;)Ljava/util/List;"), (7, u "listFromArray"), (17, .class_ 170), (0, u "java/util/ImmutableCollections$MapN$MapNIterator"), (0, .class_ 172), (0, u "java/util/ImmutableCollections$MapN$1"), (0, .class_ 174), (0, u "java/util/ImmutableCollections$Map1"), (0, .class_ 176), (0, u "java/util/ImmutableCollections$AbstractImmutableMap"), (0, .class_ 178), (0, u "java/util/ImmutableCollections$SetN$SetNIterator"), (0, .class_ 180), (0, u "java/util/ImmutableCollections$Set12"), (0, .class_ 182), (0, u "java/util/ImmutableCollections$Set12$1"), (0, .class_ 184), (0, u "java/util/ImmutableCollections$AbstractImmutableSet"), (0, .class_ 186), (0, u "java/util/ImmutableCollections$SubList"), (0, .class_ 188), (0, u "java/util/ImmutableCollections$ListItr"), (0, .class_ 190), (0, u "java/util/ImmutableCollections$AbstractImmutableList"), (0, .class_ 192), (0, u "java/util/ImmutableCollections$AbstractImmutableCollection"), (0, .class_ 194), (0, u "java/util/ImmutableCollections$Access"), (0, .class_ 196), (0, u "java/util/ImmutableCollections$Access$1")] 16

def k22m0 : Method := { name := "<init>", desc := "()V", sig := { parameters := [], returnType := none }, accessFlags := 2, code := none }
def k22c1 : Code := { maxStack := 1, maxLocals := 2, code := jdk_56_method_3_code, exceptionTable := #[], attributes := #[] }
def k22m1 : Method := { name := "listCopy", desc := "(Ljava/util/Collection;)Ljava/util/List;", sig := { parameters := [(.object "java/util/Collection")], returnType := some (.object "java/util/List") }, accessFlags := 8, code := some k22c1 }
def k22c2 : Code := { maxStack := 4, maxLocals := 3, code := jdk_56_method_4_code, exceptionTable := #[], attributes := #[] }
def k22m2 : Method := { name := "listFromArray", desc := "([Ljava/lang/Object;)Ljava/util/List;", sig := { parameters := [(.array (.object "java/lang/Object"))], returnType := some (.object "java/util/List") }, accessFlags := 136, code := some k22c2 }
/-- java/util/ImmutableCollections -/
def k22 : Class := { plain "java/util/ImmutableCollections" (some 0) with
  accessFlags := 32
  interfaces := #[]
  cf := some (fileOf pool22 47 #[.nestMembers #[120, 169, 171, 173, 175, 111, 177, 179, 181, 183, 12, 10, 185, 187, 189, 191, 193, 195]] #[{ accessFlags := 2, nameIndex := 5, descriptorIndex := 6, attributes := #[] }, { accessFlags := 8, nameIndex := 142, descriptorIndex := 143, attributes := #[] }, { accessFlags := 136, nameIndex := 151, descriptorIndex := 36, attributes := #[] }] 32 2 #[] #[{ accessFlags := 26, nameIndex := 95, descriptorIndex := 96, attributes := #[] }, { accessFlags := 26, nameIndex := 99, descriptorIndex := 17, attributes := #[] }, { accessFlags := 10, nameIndex := 106, descriptorIndex := 56, attributes := #[] }, { accessFlags := 26, nameIndex := 109, descriptorIndex := 110, attributes := #[] }, { accessFlags := 24, nameIndex := 62, descriptorIndex := 63, attributes := #[] }, { accessFlags := 24, nameIndex := 72, descriptorIndex := 63, attributes := #[] }, { accessFlags := 24, nameIndex := 118, descriptorIndex := 119, attributes := #[] }, { accessFlags := 24, nameIndex := 125, descriptorIndex := 126, attributes := #[] }, { accessFlags := 24, nameIndex := 131, descriptorIndex := 132, attributes := #[] }, { accessFlags := 4120, nameIndex := 50, descriptorIndex := 17, attributes := #[] }])
  fields := #[{ name := "SALT32L", type := .long, accessFlags := 26, slot := 0, constantValue := 0 }, { name := "REVERSE", type := .boolean, accessFlags := 26, slot := 1, constantValue := 0 }, { name := "archivedObjects", type := (.array (.object "java/lang/Object")), accessFlags := 10, slot := 2, constantValue := 0 }, { name := "EMPTY", type := (.object "java/lang/Object"), accessFlags := 26, slot := 3, constantValue := 0 }, { name := "EMPTY_LIST", type := (.object "java/util/ImmutableCollections$ListN"), accessFlags := 24, slot := 4, constantValue := 0 }, { name := "EMPTY_LIST_NULLS", type := (.object "java/util/ImmutableCollections$ListN"), accessFlags := 24, slot := 5, constantValue := 0 }, { name := "EMPTY_SET", type := (.object "java/util/ImmutableCollections$SetN"), accessFlags := 24, slot := 6, constantValue := 0 }, { name := "EMPTY_MAP", type := (.object "java/util/ImmutableCollections$MapN"), accessFlags := 24, slot := 7, constantValue := 0 }, { name := "EXPAND_FACTOR", type := .int, accessFlags := 24, slot := 8, constantValue := 0 }, { name := "$assertionsDisabled", type := .boolean, accessFlags := 4120, slot := 9, constantValue := 0 }]
  methods := #[k22m0, k22m1, k22m2]
  instanceTypes := #[]
  staticTypes := #[.long, .boolean, (.array (.object "java/lang/Object")), (.object "java/lang/Object"), (.object "java/util/ImmutableCollections$ListN"), (.object "java/util/ImmutableCollections$ListN"), (.object "java/util/ImmutableCollections$SetN"), (.object "java/util/ImmutableCollections$MapN"), .int, .boolean]
  resolved := Array.replicate 213 none
  statics := some 2 }

def pool23 : Array CpInfo := pool [(1, .methodref 2 3), (0, .class_ 4), (0, .nameAndType 5 6), (0, u "java/util/AbstractCollection"), (0, u "<init>"), (0, u "()V"), (1, .class_ 10), (1, u "java/util/ImmutableCollections"), (2, .class_ 14), (0, u "java/util/ImmutableCollections$AbstractImmutableCollection")] 41

def k23c0 : Code := { maxStack := 1, maxLocals := 1, code := jdk_47_method_1_code, exceptionTable := #[], attributes := #[] }
def k23m0 : Method := { name := "<init>", desc := "()V", sig := { parameters := [], returnType := none }, accessFlags := 0, code := some k23c0 }
/-- java/util/ImmutableCollections$AbstractImmutableCollection -/
def k23 : Class := { plain "java/util/ImmutableCollections$AbstractImmutableCollection" (some 4) with
  accessFlags := 1056
  interfaces := #[]
  cf := some (fileOf pool23 13 #[.nestHost 8] #[{ accessFlags := 0, nameIndex := 5, descriptorIndex := 6, attributes := #[] }] 1056 2 #[] #[])
  fields := #[]
  methods := #[k23m0]
  instanceTypes := #[]
  staticTypes := #[]
  resolved := Array.replicate 56 none
  statics := none }

def pool24 : Array CpInfo := pool [(1, .methodref 2 3), (0, .class_ 4), (0, .nameAndType 5 6), (0, u "java/util/ImmutableCollections$AbstractImmutableCollection"), (0, u "<init>"), (0, u "()V"), (1, .class_ 10), (1, u "java/util/ImmutableCollections"), (2, .methodref 14 15), (0, .class_ 16), (0, .nameAndType 17 18), (0, u "java/util/ImmutableCollections$AbstractImmutableList"), (0, u "size"), (0, u "()I"), (42, .class_ 62), (0, u "java/util/ImmutableCollections$ListItr"), (0, .methodref 61 64), (0, .nameAndType 5 65), (0, u "(Ljava/util/List;I)V"), (11, .class_ 78), (0, u "java/util/List"), (2, u "iterator"), (0, u "()Ljava/util/Iterator;"), (41, .class_ 125), (0, u "java/util/RandomAccess")] 70

def k24c0 : Code := { maxStack := 1, maxLocals := 1, code := jdk_46_method_1_code, exceptionTable := #[], attributes := #[] }
def k24m0 : Method := { name := "<init>", desc := "()V", sig := { parameters := [], returnType := none }, accessFlags := 0, code := some k24c0 }
def k24c1 : Code := { maxStack := 4, maxLocals := 1, code := jdk_46_method_10_code, exceptionTable := #[], attributes := #[] }
def k24m1 : Method := { name := "iterator", desc := "()Ljava/util/Iterator;", sig := { parameters := [], returnType := some (.object "java/util/Iterator") }, accessFlags := 1, code := some k24c1 }
/-- java/util/ImmutableCollections$AbstractImmutableList -/
def k24 : Class := { plain "java/util/ImmutableCollections$AbstractImmutableList" (some 23) with
  accessFlags := 1056
  interfaces := #[6, 8]
  cf := some (fileOf pool24 14 #[.nestHost 8] #[{ accessFlags := 0, nameIndex := 5, descriptorIndex := 6, attributes := #[] }, { accessFlags := 1, nameIndex := 81, descriptorIndex := 82, attributes := #[] }] 1056 2 #[77, 124] #[])
  fields := #[]
  methods := #[k24m0, k24m1]
  instanceTypes := #[]
  staticTypes := #[]
  resolved := Array.replicate 196 none
  statics := none }

def pool25 : Array CpInfo := pool [(1, .methodref 2 3), (0, .class_ 4), (0, .nameAndType 5 6), (0, u "java/util/ImmutableCollections$AbstractImmutableList"), (0, u "<init>"), (0, u "()V"), (0, .methodref 8 9), (0, .class_ 10), (0, .nameAndType 11 12), (0, u "java/util/Objects"), (0, u "requireNonNull"), (0, u "(Ljava/lang/Object;)Ljava/lang/Object;"), (0, .fieldref 14 15), (0, .class_ 16), (0, .nameAndType 17 18), (0, u "java/util/ImmutableCollections$List12"), (0, u "e0"), (0, u "Ljava/lang/Object;"), (0, .fieldref 20 21), (0, .class_ 22), (0, .nameAndType 23 18), (0, u "java/util/ImmutableCollections"), (0, u "EMPTY"), (0, .fieldref 14 25), (0, .nameAndType 26 18), (0, u "e1"), (24, u "size"), (0, u "()I"), (17, .class_ 71), (0, u "java/io/Serializable"), (4, u "(Ljava/lang/Object;)V"), (8, u "(Ljava/lang/Object;Ljava/lang/Object;)V"), (4, u "get"), (0, u "(I)Ljava/lang/Object;")] 33

def k25c0 : Code := { maxStack := 2, maxLocals := 2, code := jdk_44_method_1_code, exceptionTable := #[], attributes := #[] }
def k25m0 : Method := { name := "<init>", desc := "(Ljava/lang/Object;)V", sig := { parameters := [(.object "java/lang/Object")], returnType := none }, accessFlags := 0, code := some k25c0 }
def k25c1 : Code := { maxStack := 2, maxLocals := 3, code := jdk_44_method_2_code, exceptionTable := #[], attributes := #[] }
def k25m1 : Method := { name := "<init>", desc := "(Ljava/lang/Object;Ljava/lang/Object;)V", sig := { parameters := [(.object "java/lang/Object"), (.object "java/lang/Object")], returnType := none }, accessFlags := 0, code := some k25c1 }
def k25c2 : Code := { maxStack := 2, maxLocals := 1, code := jdk_44_method_3_code, exceptionTable := #[], attributes := #[] }
def k25m2 : Method := { name := "size", desc := "()I", sig := { parameters := [], returnType := some .int }, accessFlags := 1, code := some k25c2 }
def k25c3 : Code := { maxStack := 2, maxLocals := 2, code := jdk_44_method_5_code, exceptionTable := #[], attributes := #[] }
def k25m3 : Method := { name := "get", desc := "(I)Ljava/lang/Object;", sig := { parameters := [.int], returnType := some (.object "java/lang/Object") }, accessFlags := 1, code := some k25c3 }
/-- java/util/ImmutableCollections$List12 -/
def k25 : Class := { plain "java/util/ImmutableCollections$List12" (some 24) with
  accessFlags := 48
  interfaces := #[10]
  cf := some (fileOf pool25 14 #[.nestHost 20] #[{ accessFlags := 0, nameIndex := 5, descriptorIndex := 76, attributes := #[] }, { accessFlags := 0, nameIndex := 5, descriptorIndex := 85, attributes := #[] }, { accessFlags := 1, nameIndex := 51, descriptorIndex := 52, attributes := #[] }, { accessFlags := 1, nameIndex := 90, descriptorIndex := 91, attributes := #[] }] 48 2 #[70] #[{ accessFlags := 18, nameIndex := 17, descriptorIndex := 18, attributes := #[] }, { accessFlags := 18, nameIndex := 26, descriptorIndex := 18, attributes := #[] }])
  fields := #[{ name := "e0", type := (.object "java/lang/Object"), accessFlags := 18, slot := 0, constantValue := 0 }, { name := "e1", type := (.object "java/lang/Object"), accessFlags := 18, slot := 1, constantValue := 0 }]
  methods := #[k25m0, k25m1, k25m2, k25m3]
  instanceTypes := #[(.object "java/lang/Object"), (.object "java/lang/Object")]
  staticTypes := #[]
  resolved := Array.replicate 125 none
  statics := none }

def pool26 : Array CpInfo := pool [(1, .methodref 2 3), (0, .class_ 4), (0, .nameAndType 5 6), (0, u "java/util/ImmutableCollections$AbstractImmutableList"), (0, u "<init>"), (0, u "()V"), (0, .fieldref 8 9), (0, .class_ 10), (0, .nameAndType 11 12), (0, u "java/util/ImmutableCollections$ListN"), (0, u "elements"), (0, u "[Ljava/lang/Object;"), (0, .fieldref 8 14), (0, .nameAndType 15 16), (0, u "allowNulls"), (0, u "Z"), (42, .class_ 60), (0, u "java/io/Serializable"), (4, u "([Ljava/lang/Object;Z)V"), (11, u "size"), (0, u "()I"), (0, u "get"), (0, u "(I)Ljava/lang/Object;"), (33, .class_ 115), (0, u "java/util/ImmutableCollections")] 3

def k26c0 : Code := { maxStack := 2, maxLocals := 3, code := jdk_45_method_1_code, exceptionTable := #[], attributes := #[] }
def k26m0 : Method := { name := "<init>", desc := "([Ljava/lang/Object;Z)V", sig := { parameters := [(.array (.object "java/lang/Object")), .boolean], returnType := none }, accessFlags := 2, code := some k26c0 }
def k26c1 : Code := { maxStack := 1, maxLocals := 1, code := jdk_45_method_3_code, exceptionTable := #[], attributes := #[] }
def k26m1 : Method := { name := "size", desc := "()I", sig := { parameters := [], returnType := some .int }, accessFlags := 1, code := some k26c1 }
def k26c2 : Code := { maxStack := 2, maxLocals := 2, code := jdk_45_method_4_code, exceptionTable := #[], attributes := #[] }
def k26m2 : Method := { name := "get", desc := "(I)Ljava/lang/Object;", sig := { parameters := [.int], returnType := some (.object "java/lang/Object") }, accessFlags := 1, code := some k26c2 }
/-- java/util/ImmutableCollections$ListN -/
def k26 : Class := { plain "java/util/ImmutableCollections$ListN" (some 24) with
  accessFlags := 48
  interfaces := #[10]
  cf := some (fileOf pool26 8 #[.nestHost 114] #[{ accessFlags := 2, nameIndex := 5, descriptorIndex := 65, attributes := #[] }, { accessFlags := 1, nameIndex := 77, descriptorIndex := 78, attributes := #[] }, { accessFlags := 1, nameIndex := 79, descriptorIndex := 80, attributes := #[] }] 48 2 #[59] #[{ accessFlags := 18, nameIndex := 11, descriptorIndex := 12, attributes := #[] }, { accessFlags := 18, nameIndex := 15, descriptorIndex := 16, attributes := #[] }])
  fields := #[{ name := "elements", type := (.array (.object "java/lang/Object")), accessFlags := 18, slot := 0, constantValue := 0 }, { name := "allowNulls", type := .boolean, accessFlags := 18, slot := 1, constantValue := 0 }]
  methods := #[k26m0, k26m1, k26m2]
  instanceTypes := #[(.array (.object "java/lang/Object")), .boolean]
  staticTypes := #[]
  resolved := Array.replicate 119 none
  statics := none }

def pool27 : Array CpInfo := pool [(2, .class_ 4), (1, u "java/lang/Object"), (0, u "<init>"), (0, u "()V"), (7, .class_ 16), (1, u "java/util/Arrays"), (57, .class_ 76), (1, u "java/util/Arrays$NaturalOrder"), (9, .methodref 2 87), (0, .nameAndType 88 89), (0, u "getClass"), (0, u "()Ljava/lang/Class;"), (20, .class_ 111), (0, u "[Ljava/lang/Object;"), (1, .class_ 115), (1, u "java/util/Arrays$LegacyMergeSort"), (1, u "Z"), (32, .methodref 151 152), (0, .class_ 153), (0, .nameAndType 154 155), (0, u "java/lang/System"), (0, u "arraycopy"), (0, u "(Ljava/lang/Object;ILjava/lang/Object;II)V"), (144, .methodref 14 301), (0, .nameAndType 302 303), (0, u "copyOf"), (0, u "([Ljava/lang/Object;ILjava/lang/Class;)[Ljava/lang/Object;"), (0, .methodref 305 306), (0, .class_ 307), (0, .nameAndType 308 309), (0, u "java/lang/Math"), (0, u "min"), (0, u "(II)I"), (65, .class_ 376), (0, u "java/util/Arrays$ArrayList"), (68, u "$assertionsDisabled"), (269, u "MIN_ARRAY_SORT_GRAN"), (0, u "I"), (2, u "INSERTIONSORT_THRESHOLD"), (140, u "([Ljava/lang/Object;I)[Ljava/lang/Object;"), (114, .class_ 976), (0, u "java/util/Arrays$ArrayItr")] 52

def k27m0 : Method := { name := "<init>", desc := "()V", sig := { parameters := [], returnType := none }, accessFlags := 2, code := none }
def k27c1 : Code := { maxStack := 3, maxLocals := 2, code := jdk_65_method_119_code, exceptionTable := #[], attributes := #[] }
def k27m1 : Method := { name := "copyOf", desc := "([Ljava/lang/Object;I)[Ljava/lang/Object;", sig := { parameters := [(.array (.object "java/lang/Object")), .int], returnType := some (.array (.object "java/lang/Object")) }, accessFlags := 9, code := some k27c1 }
def k27c2 : Code := { maxStack := 6, maxLocals := 4, code := jdk_65_method_120_code, exceptionTable := #[], attributes := #[] }
def k27m2 : Method := { name := "copyOf", desc := "([Ljava/lang/Object;ILjava/lang/Class;)[Ljava/lang/Object;", sig := { parameters := [(.array (.object "java/lang/Object")), .int, (.object "java/lang/Class")], returnType := some (.array (.object "java/lang/Object")) }, accessFlags := 9, code := some k27c2 }
/-- java/util/Arrays -/
def k27 : Class := { plain "java/util/Arrays" (some 0) with
  accessFlags := 49
  interfaces := #[]
  cf := some (fileOf pool27 14 #[.nestMembers #[975, 375, 113, 74]] #[{ accessFlags := 2, nameIndex := 5, descriptorIndex := 6, attributes := #[] }, { accessFlags := 9, nameIndex := 302, descriptorIndex := 860, attributes := #[] }, { accessFlags := 9, nameIndex := 302, descriptorIndex := 303, attributes := #[] }] 49 2 #[] #[{ accessFlags := 26, nameIndex := 715, descriptorIndex := 716, attributes := #[] }, { accessFlags := 26, nameIndex := 719, descriptorIndex := 716, attributes := #[] }, { accessFlags := 4120, nameIndex := 445, descriptorIndex := 117, attributes := #[] }])
  fields := #[{ name := "MIN_ARRAY_SORT_GRAN", type := .int, accessFlags := 26, slot := 0, constantValue := 0 }, { name := "INSERTIONSORT_THRESHOLD", type := .int, accessFlags := 26, slot := 1, constantValue := 0 }, { name := "$assertionsDisabled", type := .boolean, accessFlags := 4120, slot := 2, constantValue := 0 }]
  methods := #[k27m0, k27m1, k27m2]
  instanceTypes := #[]
  staticTypes := #[.int, .int, .boolean]
  resolved := Array.replicate 1029 none
  statics := none }

def pool28 : Array CpInfo := pool [(2, .class_ 4), (1, u "java/lang/Object"), (0, u "<init>"), (0, u "()V"), (1, .class_ 10), (1, u "java/lang/System"), (0, u "allowSecurityManager"), (0, u "I"), (16, u "cons"), (0, u "Ljava/io/Console;"), (77, .class_ 110), (1, u "java/lang/System$CallersHolder"), (43, u "initialErrStream"), (0, u "Ljava/io/PrintStream;"), (19, u "security"), (0, u "Ljava/lang/SecurityManager;"), (31, .class_ 209), (0, u "java/lang/System$1"), (7, u "props"), (0, u "Ljava/util/Properties;"), (2, u "lineSeparator"), (0, u "Ljava/lang/String;"), (96, .class_ 321), (1, u "java/lang/System$LoggerFinder"), (5, .class_ 328), (0, u "java/lang/System$Logger"), (67, u "err"), (2, u "out"), (91, u "notSupportedJnuEncoding"), (15, u "in"), (17, u "initialIn"), (0, u "Ljava/io/InputStream;"), (35, u "bootLayer"), (0, u "Ljava/lang/ModuleLayer;"), (99, .class_ 664), (0, u "java/lang/System$2"), (9, u "NEVER"), (2, u "MAYBE"), (49, u "arraycopy"), (0, u "(Ljava/lang/Object;ILjava/lang/Object;II)V"), (72, .class_ 802), (0, u "java/lang/System$Logger$Level")] 31

def k28m0 : Method := { name := "<init>", desc := "()V", sig := { parameters := [], returnType := none }, accessFlags := 2, code := none }
def k28m1 : Method := { name := "arraycopy", desc := "(Ljava/lang/Object;ILjava/lang/Object;II)V", sig := { parameters := [(.object "java/lang/Object"), .int, (.object "java/lang/Object"), .int, .int], returnType := none }, accessFlags := 265, code := none }
/-- java/lang/System -/
def k28 : Class := { plain "java/lang/System" (some 0) with
  accessFlags := 49
  interfaces := #[]
  cf := some (fileOf pool28 8 #[.nestMembers #[319, 327, 801, 108, 663, 208]] #[{ accessFlags := 2, nameIndex := 5, descriptorIndex := 6, attributes := #[] }, { accessFlags := 265, nameIndex := 727, descriptorIndex := 728, attributes := #[] }] 49 2 #[] #[{ accessFlags := 25, nameIndex := 507, descriptorIndex := 526, attributes := #[] }, { accessFlags := 25, nameIndex := 399, descriptorIndex := 155, attributes := #[] }, { accessFlags := 25, nameIndex := 396, descriptorIndex := 155, attributes := #[] }, { accessFlags := 10, nameIndex := 525, descriptorIndex := 526, attributes := #[] }, { accessFlags := 26, nameIndex := 674, descriptorIndex := 12, attributes := #[] }, { accessFlags := 26, nameIndex := 677, descriptorIndex := 12, attributes := #[] }, { accessFlags := 10, nameIndex := 11, descriptorIndex := 12, attributes := #[] }, { accessFlags := 74, nameIndex := 175, descriptorIndex := 176, attributes := #[] }, { accessFlags := 10, nameIndex := 491, descriptorIndex := 222, attributes := #[] }, { accessFlags := 74, nameIndex := 29, descriptorIndex := 30, attributes := #[] }, { accessFlags := 74, nameIndex := 154, descriptorIndex := 155, attributes := #[] }, { accessFlags := 10, nameIndex := 217, descriptorIndex := 218, attributes := #[] }, { accessFlags := 10, nameIndex := 221, descriptorIndex := 222, attributes := #[] }, { accessFlags := 8, nameIndex := 562, descriptorIndex := 563, attributes := #[] }])
  fields := #[{ name := "in", type := (.object "java/io/InputStream"), accessFlags := 25, slot := 0, constantValue := 0 }, { name := "out", type := (.object "java/io/PrintStream"), accessFlags := 25, slot := 1, constantValue := 0 }, { name := "err", type := (.object "java/io/PrintStream"), accessFlags := 25, slot := 2, constantValue := 0 }, { name := "initialIn", type := (.object "java/io/InputStream"), accessFlags := 10, slot := 3, constantValue := 0 }, { name := "NEVER", type := .int, accessFlags := 26, slot := 4, constantValue := 0 }, { name := "MAYBE", type := .int, accessFlags := 26, slot := 5, constantValue := 0 }, { name := "allowSecurityManager", type := .int, accessFlags := 10, slot := 6, constantValue := 0 }, { name := "security", type := (.object "java/lang/SecurityManager"), accessFlags := 74, slot := 7, constantValue := 0 }, { name := "notSupportedJnuEncoding", type := (.object "java/lang/String"), accessFlags := 10, slot := 8, constantValue := 0 }, { name := "cons", type := (.object "java/io/Console"), accessFlags := 74, slot := 9, constantValue := 0 }, { name := "initialErrStream", type := (.object "java/io/PrintStream"), accessFlags := 74, slot := 10, constantValue := 0 }, { name := "props", type := (.object "java/util/Properties"), accessFlags := 10, slot := 11, constantValue := 0 }, { name := "lineSeparator", type := (.object "java/lang/String"), accessFlags := 10, slot := 12, constantValue := 0 }, { name := "bootLayer", type := (.object "java/lang/ModuleLayer"), accessFlags := 8, slot := 13, constantValue := 0 }]
  methods := #[k28m0, k28m1]
  instanceTypes := #[]
  staticTypes := #[(.object "java/io/InputStream"), (.object "java/io/PrintStream"), (.object "java/io/PrintStream"), (.object "java/io/InputStream"), .int, .int, .int, (.object "java/lang/SecurityManager"), (.object "java/lang/String"), (.object "java/io/Console"), (.object "java/io/PrintStream"), (.object "java/util/Properties"), (.object "java/lang/String"), (.object "java/lang/ModuleLayer")]
  resolved := Array.replicate 834 none
  statics := none }

def pool29 : Array CpInfo := pool [(2, .class_ 4), (1, u "java/lang/Object"), (0, u "<init>"), (0, u "()V"), (35, .class_ 44), (1, u "java/util/Objects"), (0, u "requireNonNull"), (0, u "(Ljava/lang/Object;)Ljava/lang/Object;")] 137

def k29m0 : Method := { name := "<init>", desc := "()V", sig := { parameters := [], returnType := none }, accessFlags := 2, code := none }
def k29c1 : Code := { maxStack := 2, maxLocals := 1, code := jdk_31_method_10_code, exceptionTable := #[], attributes := #[] }
def k29m1 : Method := { name := "requireNonNull", desc := "(Ljava/lang/Object;)Ljava/lang/Object;", sig := { parameters := [(.object "java/lang/Object")], returnType := some (.object "java/lang/Object") }, accessFlags := 9, code := some k29c1 }
/-- java/util/Objects -/
def k29 : Class := { plain "java/util/Objects" (some 0) with
  accessFlags := 49
  interfaces := #[]
  cf := some (fileOf pool29 42 #[] #[{ accessFlags := 2, nameIndex := 5, descriptorIndex := 6, attributes := #[] }, { accessFlags := 9, nameIndex := 45, descriptorIndex := 46, attributes := #[] }] 49 2 #[] #[])
  fields := #[]
  methods := #[k29m0, k29m1]
  instanceTypes := #[]
  staticTypes := #[]
  resolved := Array.replicate 184 none
  statics := none }

def pool30 : Array CpInfo := pool [(16, .class_ 18), (1, u "java/util/Iterator"), (0, u "hasNext"), (0, u "()Z"), (2, u "next"), (0, u "()Ljava/lang/Object;"), (6, .class_ 32), (0, u "java/lang/Object")] 20

def k30m0 : Method := { name := "hasNext", desc := "()Z", sig := { parameters := [], returnType := some .boolean }, accessFlags := 1025, code := none }
def k30m1 : Method := { name := "next", desc := "()Ljava/lang/Object;", sig := { parameters := [], returnType := some (.object "java/lang/Object") }, accessFlags := 1025, code := none }
/-- java/util/Iterator -/
def k30 : Class := { plain "java/util/Iterator" (some 0) with
  accessFlags := 1537
  interfaces := #[]
  cf := some (fileOf pool30 16 #[] #[{ accessFlags := 1025, nameIndex := 19, descriptorIndex := 20, attributes := #[] }, { accessFlags := 1025, nameIndex := 23, descriptorIndex := 24, attributes := #[] }] 1537 31 #[] #[])
  fields := #[]
  methods := #[k30m0, k30m1]
  instanceTypes := #[]
  staticTypes := #[]
  resolved := Array.replicate 53 none
  statics := none }

def pool31 : Array CpInfo := pool [(1, .class_ 2), (0, u "java/util/ListIterator"), (0, .class_ 4), (0, u "java/lang/Object"), (0, .class_ 6), (0, u "java/util/Iterator")] 20

/-- java/util/ListIterator -/
def k31 : Class := { plain "java/util/ListIterator" (some 0) with
  accessFlags := 1537
  interfaces := #[30]
  cf := some (fileOf pool31 1 #[] #[] 1537 3 #[5] #[])
  fields := #[]
  methods := #[]
  instanceTypes := #[]
  staticTypes := #[]
  resolved := Array.replicate 27 none
  statics := none }

def pool32 : Array CpInfo := pool [(1, .methodref 2 3), (0, .class_ 4), (0, .nameAndType 5 6), (0, u "java/lang/Object"), (0, u "<init>"), (0, u "()V"), (0, .fieldref 8 9), (0, .class_ 10), (0, .nameAndType 11 12), (0, u "java/util/ImmutableCollections$ListItr"), (0, u "list"), (0, u "Ljava/util/List;"), (0, .fieldref 8 14), (0, .nameAndType 15 16), (0, u "size"), (0, u "I"), (0, .fieldref 8 18), (0, .nameAndType 19 16), (0, u "cursor"), (0, .fieldref 8 21), (0, .nameAndType 22 23), (0, u "isListIterator"), (0, u "Z"), (0, .interfaceMethodref 25 26), (0, .class_ 27), (0, .nameAndType 28 29), (0, u "java/util/List"), (0, u "get"), (0, u "(I)Ljava/lang/Object;"), (6, .class_ 38), (1, u "java/util/ImmutableCollections"), (2, .class_ 42), (0, u "java/util/ListIterator"), (4, u "(Ljava/util/List;I)V"), (11, u "hasNext"), (0, u "()Z"), (1, u "next"), (0, u "()Ljava/lang/Object;")] 22

def k32c0 : Code := { maxStack := 2, maxLocals := 3, code := jdk_53_method_1_code, exceptionTable := #[], attributes := #[] }
def k32m0 : Method := { name := "<init>", desc := "(Ljava/util/List;I)V", sig := { parameters := [(.object "java/util/List"), .int], returnType := none }, accessFlags := 0, code := some k32c0 }
def k32c1 : Code := { maxStack := 2, maxLocals := 1, code := jdk_53_method_3_code, exceptionTable := #[], attributes := #[] }
def k32m1 : Method := { name := "hasNext", desc := "()Z", sig := { parameters := [], returnType := some .boolean }, accessFlags := 1, code := some k32c1 }
def k32c2 : Code := { maxStack := 3, maxLocals := 3, code := jdk_53_method_4_code, exceptionTable := #[{ startPc := 0, endPc := 24, handlerPc := 25, catchType := 30 }], attributes := #[] }
def k32m2 : Method := { name := "next", desc := "()Ljava/lang/Object;", sig := { parameters := [], returnType := some (.object "java/lang/Object") }, accessFlags := 1, code := some k32c2 }
/-- java/util/ImmutableCollections$ListItr -/
def k32 : Class := { plain "java/util/ImmutableCollections$ListItr" (some 0) with
  accessFlags := 48
  interfaces := #[31]
  cf := some (fileOf pool32 8 #[.nestHost 36] #[{ accessFlags := 0, nameIndex := 5, descriptorIndex := 47, attributes := #[] }, { accessFlags := 1, nameIndex := 59, descriptorIndex := 60, attributes := #[] }, { accessFlags := 1, nameIndex := 62, descriptorIndex := 63, attributes := #[] }] 48 2 #[41] #[{ accessFlags := 18, nameIndex := 11, descriptorIndex := 12, attributes := #[] }, { accessFlags := 18, nameIndex := 15, descriptorIndex := 16, attributes := #[] }, { accessFlags := 18, nameIndex := 22, descriptorIndex := 23, attributes := #[] }, { accessFlags := 2, nameIndex := 19, descriptorIndex := 16, attributes := #[] }])
  fields := #[{ name := "list", type := (.object "java/util/List"), accessFlags := 18, slot := 0, constantValue := 0 }, { name := "size", type := .int, accessFlags := 18, slot := 1, constantValue := 0 }, { name := "isListIterator", type := .boolean, accessFlags := 18, slot := 2, constantValue := 0 }, { name := "cursor", type := .int, accessFlags := 2, slot := 3, constantValue := 0 }]
  methods := #[k32m0, k32m1, k32m2]
  instanceTypes := #[(.object "java/util/List"), .int, .boolean, .int]
  staticTypes := #[]
  resolved := Array.replicate 86 none
  statics := none }

def pool33 : Array CpInfo := pool [(1, .methodref 2 3), (0, .class_ 4), (0, .nameAndType 5 6), (0, u "java/lang/Object"), (0, u "<init>"), (0, u "()V"), (0, .fieldref 8 9), (0, .class_ 10), (0, .nameAndType 11 12), (0, u "com/example/overweave/overweave/Instance$Demand"), (0, u "user"), (0, u "I"), (0, .fieldref 8 14), (0, .nameAndType 15 12), (0, u "destination"), (0, .fieldref 8 17), (0, .nameAndType 18 19), (0, u "volume"), (0, u "D"), (0, u "(IID)V"), (2, u "getUser"), (0, u "()I"), (0, u "getDestination"), (0, u "getVolume"), (0, u "()D"), (3, .class_ 32), (0, u "com/example/overweave/overweave/Instance")] 2

def k33c0 : Code := { maxStack := 3, maxLocals := 5, code := prog_7_method_1_code, exceptionTable := #[], attributes := #[] }
def k33m0 : Method := { name := "<init>", desc := "(IID)V", sig := { parameters := [.int, .int, .double], returnType := none }, accessFlags := 0, code := some k33c0 }
def k33c1 : Code := { maxStack := 1, maxLocals := 1, code := prog_7_method_2_code, exceptionTable := #[], attributes := #[] }
def k33m1 : Method := { name := "getUser", desc := "()I", sig := { parameters := [], returnType := some .int }, accessFlags := 1, code := some k33c1 }
def k33c2 : Code := { maxStack := 1, maxLocals := 1, code := prog_7_method_3_code, exceptionTable := #[], attributes := #[] }
def k33m2 : Method := { name := "getDestination", desc := "()I", sig := { parameters := [], returnType := some .int }, accessFlags := 1, code := some k33c2 }
def k33c3 : Code := { maxStack := 2, maxLocals := 1, code := prog_7_method_4_code, exceptionTable := #[], attributes := #[] }
def k33m3 : Method := { name := "getVolume", desc := "()D", sig := { parameters := [], returnType := some .double }, accessFlags := 1, code := some k33c3 }
/-- com/example/overweave/overweave/Instance$Demand -/
def k33 : Class := { plain "com/example/overweave/overweave/Instance$Demand" (some 0) with
  accessFlags := 49
  interfaces := #[]
  cf := some (fileOf pool33 8 #[.nestHost 31] #[{ accessFlags := 0, nameIndex := 5, descriptorIndex := 20, attributes := #[] }, { accessFlags := 1, nameIndex := 23, descriptorIndex := 24, attributes := #[] }, { accessFlags := 1, nameIndex := 25, descriptorIndex := 24, attributes := #[] }, { accessFlags := 1, nameIndex := 26, descriptorIndex := 27, attributes := #[] }] 49 2 #[] #[{ accessFlags := 18, nameIndex := 11, descriptorIndex := 12, attributes := #[] }, { accessFlags := 18, nameIndex := 15, descriptorIndex := 12, attributes := #[] }, { accessFlags := 18, nameIndex := 18, descriptorIndex := 19, attributes := #[] }])
  fields := #[{ name := "user", type := .int, accessFlags := 18, slot := 0, constantValue := 0 }, { name := "destination", type := .int, accessFlags := 18, slot := 1, constantValue := 0 }, { name := "volume", type := .double, accessFlags := 18, slot := 2, constantValue := 0 }]
  methods := #[k33m0, k33m1, k33m2, k33m3]
  instanceTypes := #[.int, .int, .double]
  staticTypes := #[]
  resolved := Array.replicate 35 none
  statics := none }

def pool34 : Array CpInfo := pool [(1, u "java/lang/Class"), (0, .class_ 1), (0, u "java/lang/Object"), (0, .class_ 3)] 3

/-- java/lang/Class -/
def k34 : Class := { plain "java/lang/Class" (some 0) with
  accessFlags := 49
  interfaces := #[]
  cf := some (fileOf pool34 2 #[] #[] 49 4 #[] #[])
  fields := #[]
  methods := #[]
  instanceTypes := #[]
  staticTypes := #[]
  resolved := Array.replicate 8 none
  statics := none }

/-- the primitive byte -/
def k35 : Class := { plain "byte" none with kind := .primitive 'B', accessFlags := 0x411 }
/-- [B -/
def k36 : Class := { plain "[B" (some 0) with kind := .array 35 .byte, interfaces := #[9, 10], accessFlags := 1041 }

/-- the primitive double -/
def k37 : Class := { plain "double" none with kind := .primitive 'D', accessFlags := 0x411 }
/-- [D -/
def k38 : Class := { plain "[D" (some 0) with kind := .array 37 .double, interfaces := #[9, 10], accessFlags := 1041 }

/-- the primitive int -/
def k39 : Class := { plain "int" none with kind := .primitive 'I', accessFlags := 0x411 }
/-- [I -/
def k40 : Class := { plain "[I" (some 0) with kind := .array 39 .int, interfaces := #[9, 10], accessFlags := 1041 }

/-- [Ljava/lang/Integer; -/
def k41 : Class := { plain "[Ljava/lang/Integer;" (some 0) with kind := .array 16 (.object "java/lang/Integer"), interfaces := #[9, 10], accessFlags := 1041 }

/-- [Ljava/lang/Object; -/
def k42 : Class := { plain "[Ljava/lang/Object;" (some 0) with kind := .array 0 (.object "java/lang/Object"), interfaces := #[9, 10], accessFlags := 1041, mirror := some 3 }

/-- [[D -/
def k43 : Class := { plain "[[D" (some 0) with kind := .array 38 (.array .double), interfaces := #[9, 10], accessFlags := 1041 }

def heap : Heap := #[{ cls := 11, slots := #[.long 0, .int 0, .ref 263, .ref 264], vm := .statics 11 },
  { cls := 17, slots := #[.int 0, .int 127, .ref 4, .null, .int 0], vm := .statics 17 },
  { cls := 22, slots := #[.long 0, .int 0, .null, .ref 265, .ref 262, .null, .null, .null, .int 0, .int 1], vm := .statics 22 },
  { cls := 34, slots := #[], vm := .mirror 42 },
  { cls := 41, slots := #[.ref 6, .ref 7, .ref 8, .ref 9, .ref 10, .ref 11, .ref 12, .ref 13, .ref 14, .ref 15, .ref 16, .ref 17, .ref 18, .ref 19, .ref 20, .ref 21, .ref 22, .ref 23, .ref 24, .ref 25, .ref 26, .ref 27, .ref 28, .ref 29, .ref 30, .ref 31, .ref 32, .ref 33, .ref 34, .ref 35, .ref 36, .ref 37, .ref 38, .ref 39, .ref 40, .ref 41, .ref 42, .ref 43, .ref 44, .ref 45, .ref 46, .ref 47, .ref 48, .ref 49, .ref 50, .ref 51, .ref 52, .ref 53, .ref 54, .ref 55, .ref 56, .ref 57, .ref 58, .ref 59, .ref 60, .ref 61, .ref 62, .ref 63, .ref 64, .ref 65, .ref 66, .ref 67, .ref 68, .ref 69, .ref 70, .ref 71, .ref 72, .ref 73, .ref 74, .ref 75, .ref 76, .ref 77, .ref 78, .ref 79, .ref 80, .ref 81, .ref 82, .ref 83, .ref 84, .ref 85, .ref 86, .ref 87, .ref 88, .ref 89, .ref 90, .ref 91, .ref 92, .ref 93, .ref 94, .ref 95, .ref 96, .ref 97, .ref 98, .ref 99, .ref 100, .ref 101, .ref 102, .ref 103, .ref 104, .ref 105, .ref 106, .ref 107, .ref 108, .ref 109, .ref 110, .ref 111, .ref 112, .ref 113, .ref 114, .ref 115, .ref 116, .ref 117, .ref 118, .ref 119, .ref 120, .ref 121, .ref 122, .ref 123, .ref 124, .ref 125, .ref 126, .ref 127, .ref 128, .ref 129, .ref 130, .ref 131, .ref 132, .ref 133, .ref 134, .ref 135, .ref 136, .ref 137, .ref 138, .ref 139, .ref 140, .ref 141, .ref 142, .ref 143, .ref 144, .ref 145, .ref 146, .ref 147, .ref 148, .ref 149, .ref 150, .ref 151, .ref 152, .ref 153, .ref 154, .ref 155, .ref 156, .ref 157, .ref 158, .ref 159, .ref 160, .ref 161, .ref 162, .ref 163, .ref 164, .ref 165, .ref 166, .ref 167, .ref 168, .ref 169, .ref 170, .ref 171, .ref 172, .ref 173, .ref 174, .ref 175, .ref 176, .ref 177, .ref 178, .ref 179, .ref 180, .ref 181, .ref 182, .ref 183, .ref 184, .ref 185, .ref 186, .ref 187, .ref 188, .ref 189, .ref 190, .ref 191, .ref 192, .ref 193, .ref 194, .ref 195, .ref 196, .ref 197, .ref 198, .ref 199, .ref 200, .ref 201, .ref 202, .ref 203, .ref 204, .ref 205, .ref 206, .ref 207, .ref 208, .ref 209, .ref 210, .ref 211, .ref 212, .ref 213, .ref 214, .ref 215, .ref 216, .ref 217, .ref 218, .ref 219, .ref 220, .ref 221, .ref 222, .ref 223, .ref 224, .ref 225, .ref 226, .ref 227, .ref 228, .ref 229, .ref 230, .ref 231, .ref 232, .ref 233, .ref 234, .ref 235, .ref 236, .ref 237, .ref 238, .ref 239, .ref 240, .ref 241, .ref 242, .ref 243, .ref 244, .ref 245, .ref 246, .ref 247, .ref 248, .ref 249, .ref 250, .ref 251, .ref 252, .ref 253, .ref 254, .ref 255, .ref 256, .ref 257, .ref 258, .ref 259, .ref 260, .ref 261], vm := .none },
  { cls := 42, slots := #[], vm := .none },
  { cls := 16, slots := #[.int (-128)], vm := .none },
  { cls := 16, slots := #[.int (-127)], vm := .none },
  { cls := 16, slots := #[.int (-126)], vm := .none },
  { cls := 16, slots := #[.int (-125)], vm := .none },
  { cls := 16, slots := #[.int (-124)], vm := .none },
  { cls := 16, slots := #[.int (-123)], vm := .none },
  { cls := 16, slots := #[.int (-122)], vm := .none },
  { cls := 16, slots := #[.int (-121)], vm := .none },
  { cls := 16, slots := #[.int (-120)], vm := .none },
  { cls := 16, slots := #[.int (-119)], vm := .none },
  { cls := 16, slots := #[.int (-118)], vm := .none },
  { cls := 16, slots := #[.int (-117)], vm := .none },
  { cls := 16, slots := #[.int (-116)], vm := .none },
  { cls := 16, slots := #[.int (-115)], vm := .none },
  { cls := 16, slots := #[.int (-114)], vm := .none },
  { cls := 16, slots := #[.int (-113)], vm := .none },
  { cls := 16, slots := #[.int (-112)], vm := .none },
  { cls := 16, slots := #[.int (-111)], vm := .none },
  { cls := 16, slots := #[.int (-110)], vm := .none },
  { cls := 16, slots := #[.int (-109)], vm := .none },
  { cls := 16, slots := #[.int (-108)], vm := .none },
  { cls := 16, slots := #[.int (-107)], vm := .none },
  { cls := 16, slots := #[.int (-106)], vm := .none },
  { cls := 16, slots := #[.int (-105)], vm := .none },
  { cls := 16, slots := #[.int (-104)], vm := .none },
  { cls := 16, slots := #[.int (-103)], vm := .none },
  { cls := 16, slots := #[.int (-102)], vm := .none },
  { cls := 16, slots := #[.int (-101)], vm := .none },
  { cls := 16, slots := #[.int (-100)], vm := .none },
  { cls := 16, slots := #[.int (-99)], vm := .none },
  { cls := 16, slots := #[.int (-98)], vm := .none },
  { cls := 16, slots := #[.int (-97)], vm := .none },
  { cls := 16, slots := #[.int (-96)], vm := .none },
  { cls := 16, slots := #[.int (-95)], vm := .none },
  { cls := 16, slots := #[.int (-94)], vm := .none },
  { cls := 16, slots := #[.int (-93)], vm := .none },
  { cls := 16, slots := #[.int (-92)], vm := .none },
  { cls := 16, slots := #[.int (-91)], vm := .none },
  { cls := 16, slots := #[.int (-90)], vm := .none },
  { cls := 16, slots := #[.int (-89)], vm := .none },
  { cls := 16, slots := #[.int (-88)], vm := .none },
  { cls := 16, slots := #[.int (-87)], vm := .none },
  { cls := 16, slots := #[.int (-86)], vm := .none },
  { cls := 16, slots := #[.int (-85)], vm := .none },
  { cls := 16, slots := #[.int (-84)], vm := .none },
  { cls := 16, slots := #[.int (-83)], vm := .none },
  { cls := 16, slots := #[.int (-82)], vm := .none },
  { cls := 16, slots := #[.int (-81)], vm := .none },
  { cls := 16, slots := #[.int (-80)], vm := .none },
  { cls := 16, slots := #[.int (-79)], vm := .none },
  { cls := 16, slots := #[.int (-78)], vm := .none },
  { cls := 16, slots := #[.int (-77)], vm := .none },
  { cls := 16, slots := #[.int (-76)], vm := .none },
  { cls := 16, slots := #[.int (-75)], vm := .none },
  { cls := 16, slots := #[.int (-74)], vm := .none },
  { cls := 16, slots := #[.int (-73)], vm := .none },
  { cls := 16, slots := #[.int (-72)], vm := .none },
  { cls := 16, slots := #[.int (-71)], vm := .none },
  { cls := 16, slots := #[.int (-70)], vm := .none },
  { cls := 16, slots := #[.int (-69)], vm := .none },
  { cls := 16, slots := #[.int (-68)], vm := .none },
  { cls := 16, slots := #[.int (-67)], vm := .none },
  { cls := 16, slots := #[.int (-66)], vm := .none },
  { cls := 16, slots := #[.int (-65)], vm := .none },
  { cls := 16, slots := #[.int (-64)], vm := .none },
  { cls := 16, slots := #[.int (-63)], vm := .none },
  { cls := 16, slots := #[.int (-62)], vm := .none },
  { cls := 16, slots := #[.int (-61)], vm := .none },
  { cls := 16, slots := #[.int (-60)], vm := .none },
  { cls := 16, slots := #[.int (-59)], vm := .none },
  { cls := 16, slots := #[.int (-58)], vm := .none },
  { cls := 16, slots := #[.int (-57)], vm := .none },
  { cls := 16, slots := #[.int (-56)], vm := .none },
  { cls := 16, slots := #[.int (-55)], vm := .none },
  { cls := 16, slots := #[.int (-54)], vm := .none },
  { cls := 16, slots := #[.int (-53)], vm := .none },
  { cls := 16, slots := #[.int (-52)], vm := .none },
  { cls := 16, slots := #[.int (-51)], vm := .none },
  { cls := 16, slots := #[.int (-50)], vm := .none },
  { cls := 16, slots := #[.int (-49)], vm := .none },
  { cls := 16, slots := #[.int (-48)], vm := .none },
  { cls := 16, slots := #[.int (-47)], vm := .none },
  { cls := 16, slots := #[.int (-46)], vm := .none },
  { cls := 16, slots := #[.int (-45)], vm := .none },
  { cls := 16, slots := #[.int (-44)], vm := .none },
  { cls := 16, slots := #[.int (-43)], vm := .none },
  { cls := 16, slots := #[.int (-42)], vm := .none },
  { cls := 16, slots := #[.int (-41)], vm := .none },
  { cls := 16, slots := #[.int (-40)], vm := .none },
  { cls := 16, slots := #[.int (-39)], vm := .none },
  { cls := 16, slots := #[.int (-38)], vm := .none },
  { cls := 16, slots := #[.int (-37)], vm := .none },
  { cls := 16, slots := #[.int (-36)], vm := .none },
  { cls := 16, slots := #[.int (-35)], vm := .none },
  { cls := 16, slots := #[.int (-34)], vm := .none },
  { cls := 16, slots := #[.int (-33)], vm := .none },
  { cls := 16, slots := #[.int (-32)], vm := .none },
  { cls := 16, slots := #[.int (-31)], vm := .none },
  { cls := 16, slots := #[.int (-30)], vm := .none },
  { cls := 16, slots := #[.int (-29)], vm := .none },
  { cls := 16, slots := #[.int (-28)], vm := .none },
  { cls := 16, slots := #[.int (-27)], vm := .none },
  { cls := 16, slots := #[.int (-26)], vm := .none },
  { cls := 16, slots := #[.int (-25)], vm := .none },
  { cls := 16, slots := #[.int (-24)], vm := .none },
  { cls := 16, slots := #[.int (-23)], vm := .none },
  { cls := 16, slots := #[.int (-22)], vm := .none },
  { cls := 16, slots := #[.int (-21)], vm := .none },
  { cls := 16, slots := #[.int (-20)], vm := .none },
  { cls := 16, slots := #[.int (-19)], vm := .none },
  { cls := 16, slots := #[.int (-18)], vm := .none },
  { cls := 16, slots := #[.int (-17)], vm := .none },
  { cls := 16, slots := #[.int (-16)], vm := .none },
  { cls := 16, slots := #[.int (-15)], vm := .none },
  { cls := 16, slots := #[.int (-14)], vm := .none },
  { cls := 16, slots := #[.int (-13)], vm := .none },
  { cls := 16, slots := #[.int (-12)], vm := .none },
  { cls := 16, slots := #[.int (-11)], vm := .none },
  { cls := 16, slots := #[.int (-10)], vm := .none },
  { cls := 16, slots := #[.int (-9)], vm := .none },
  { cls := 16, slots := #[.int (-8)], vm := .none },
  { cls := 16, slots := #[.int (-7)], vm := .none },
  { cls := 16, slots := #[.int (-6)], vm := .none },
  { cls := 16, slots := #[.int (-5)], vm := .none },
  { cls := 16, slots := #[.int (-4)], vm := .none },
  { cls := 16, slots := #[.int (-3)], vm := .none },
  { cls := 16, slots := #[.int (-2)], vm := .none },
  { cls := 16, slots := #[.int (-1)], vm := .none },
  { cls := 16, slots := #[.int 0], vm := .none },
  { cls := 16, slots := #[.int 1], vm := .none },
  { cls := 16, slots := #[.int 2], vm := .none },
  { cls := 16, slots := #[.int 3], vm := .none },
  { cls := 16, slots := #[.int 4], vm := .none },
  { cls := 16, slots := #[.int 5], vm := .none },
  { cls := 16, slots := #[.int 6], vm := .none },
  { cls := 16, slots := #[.int 7], vm := .none },
  { cls := 16, slots := #[.int 8], vm := .none },
  { cls := 16, slots := #[.int 9], vm := .none },
  { cls := 16, slots := #[.int 10], vm := .none },
  { cls := 16, slots := #[.int 11], vm := .none },
  { cls := 16, slots := #[.int 12], vm := .none },
  { cls := 16, slots := #[.int 13], vm := .none },
  { cls := 16, slots := #[.int 14], vm := .none },
  { cls := 16, slots := #[.int 15], vm := .none },
  { cls := 16, slots := #[.int 16], vm := .none },
  { cls := 16, slots := #[.int 17], vm := .none },
  { cls := 16, slots := #[.int 18], vm := .none },
  { cls := 16, slots := #[.int 19], vm := .none },
  { cls := 16, slots := #[.int 20], vm := .none },
  { cls := 16, slots := #[.int 21], vm := .none },
  { cls := 16, slots := #[.int 22], vm := .none },
  { cls := 16, slots := #[.int 23], vm := .none },
  { cls := 16, slots := #[.int 24], vm := .none },
  { cls := 16, slots := #[.int 25], vm := .none },
  { cls := 16, slots := #[.int 26], vm := .none },
  { cls := 16, slots := #[.int 27], vm := .none },
  { cls := 16, slots := #[.int 28], vm := .none },
  { cls := 16, slots := #[.int 29], vm := .none },
  { cls := 16, slots := #[.int 30], vm := .none },
  { cls := 16, slots := #[.int 31], vm := .none },
  { cls := 16, slots := #[.int 32], vm := .none },
  { cls := 16, slots := #[.int 33], vm := .none },
  { cls := 16, slots := #[.int 34], vm := .none },
  { cls := 16, slots := #[.int 35], vm := .none },
  { cls := 16, slots := #[.int 36], vm := .none },
  { cls := 16, slots := #[.int 37], vm := .none },
  { cls := 16, slots := #[.int 38], vm := .none },
  { cls := 16, slots := #[.int 39], vm := .none },
  { cls := 16, slots := #[.int 40], vm := .none },
  { cls := 16, slots := #[.int 41], vm := .none },
  { cls := 16, slots := #[.int 42], vm := .none },
  { cls := 16, slots := #[.int 43], vm := .none },
  { cls := 16, slots := #[.int 44], vm := .none },
  { cls := 16, slots := #[.int 45], vm := .none },
  { cls := 16, slots := #[.int 46], vm := .none },
  { cls := 16, slots := #[.int 47], vm := .none },
  { cls := 16, slots := #[.int 48], vm := .none },
  { cls := 16, slots := #[.int 49], vm := .none },
  { cls := 16, slots := #[.int 50], vm := .none },
  { cls := 16, slots := #[.int 51], vm := .none },
  { cls := 16, slots := #[.int 52], vm := .none },
  { cls := 16, slots := #[.int 53], vm := .none },
  { cls := 16, slots := #[.int 54], vm := .none },
  { cls := 16, slots := #[.int 55], vm := .none },
  { cls := 16, slots := #[.int 56], vm := .none },
  { cls := 16, slots := #[.int 57], vm := .none },
  { cls := 16, slots := #[.int 58], vm := .none },
  { cls := 16, slots := #[.int 59], vm := .none },
  { cls := 16, slots := #[.int 60], vm := .none },
  { cls := 16, slots := #[.int 61], vm := .none },
  { cls := 16, slots := #[.int 62], vm := .none },
  { cls := 16, slots := #[.int 63], vm := .none },
  { cls := 16, slots := #[.int 64], vm := .none },
  { cls := 16, slots := #[.int 65], vm := .none },
  { cls := 16, slots := #[.int 66], vm := .none },
  { cls := 16, slots := #[.int 67], vm := .none },
  { cls := 16, slots := #[.int 68], vm := .none },
  { cls := 16, slots := #[.int 69], vm := .none },
  { cls := 16, slots := #[.int 70], vm := .none },
  { cls := 16, slots := #[.int 71], vm := .none },
  { cls := 16, slots := #[.int 72], vm := .none },
  { cls := 16, slots := #[.int 73], vm := .none },
  { cls := 16, slots := #[.int 74], vm := .none },
  { cls := 16, slots := #[.int 75], vm := .none },
  { cls := 16, slots := #[.int 76], vm := .none },
  { cls := 16, slots := #[.int 77], vm := .none },
  { cls := 16, slots := #[.int 78], vm := .none },
  { cls := 16, slots := #[.int 79], vm := .none },
  { cls := 16, slots := #[.int 80], vm := .none },
  { cls := 16, slots := #[.int 81], vm := .none },
  { cls := 16, slots := #[.int 82], vm := .none },
  { cls := 16, slots := #[.int 83], vm := .none },
  { cls := 16, slots := #[.int 84], vm := .none },
  { cls := 16, slots := #[.int 85], vm := .none },
  { cls := 16, slots := #[.int 86], vm := .none },
  { cls := 16, slots := #[.int 87], vm := .none },
  { cls := 16, slots := #[.int 88], vm := .none },
  { cls := 16, slots := #[.int 89], vm := .none },
  { cls := 16, slots := #[.int 90], vm := .none },
  { cls := 16, slots := #[.int 91], vm := .none },
  { cls := 16, slots := #[.int 92], vm := .none },
  { cls := 16, slots := #[.int 93], vm := .none },
  { cls := 16, slots := #[.int 94], vm := .none },
  { cls := 16, slots := #[.int 95], vm := .none },
  { cls := 16, slots := #[.int 96], vm := .none },
  { cls := 16, slots := #[.int 97], vm := .none },
  { cls := 16, slots := #[.int 98], vm := .none },
  { cls := 16, slots := #[.int 99], vm := .none },
  { cls := 16, slots := #[.int 100], vm := .none },
  { cls := 16, slots := #[.int 101], vm := .none },
  { cls := 16, slots := #[.int 102], vm := .none },
  { cls := 16, slots := #[.int 103], vm := .none },
  { cls := 16, slots := #[.int 104], vm := .none },
  { cls := 16, slots := #[.int 105], vm := .none },
  { cls := 16, slots := #[.int 106], vm := .none },
  { cls := 16, slots := #[.int 107], vm := .none },
  { cls := 16, slots := #[.int 108], vm := .none },
  { cls := 16, slots := #[.int 109], vm := .none },
  { cls := 16, slots := #[.int 110], vm := .none },
  { cls := 16, slots := #[.int 111], vm := .none },
  { cls := 16, slots := #[.int 112], vm := .none },
  { cls := 16, slots := #[.int 113], vm := .none },
  { cls := 16, slots := #[.int 114], vm := .none },
  { cls := 16, slots := #[.int 115], vm := .none },
  { cls := 16, slots := #[.int 116], vm := .none },
  { cls := 16, slots := #[.int 117], vm := .none },
  { cls := 16, slots := #[.int 118], vm := .none },
  { cls := 16, slots := #[.int 119], vm := .none },
  { cls := 16, slots := #[.int 120], vm := .none },
  { cls := 16, slots := #[.int 121], vm := .none },
  { cls := 16, slots := #[.int 122], vm := .none },
  { cls := 16, slots := #[.int 123], vm := .none },
  { cls := 16, slots := #[.int 124], vm := .none },
  { cls := 16, slots := #[.int 125], vm := .none },
  { cls := 16, slots := #[.int 126], vm := .none },
  { cls := 16, slots := #[.int 127], vm := .none },
  { cls := 26, slots := #[.ref 5, .int 0], vm := .none },
  { cls := 42, slots := #[], vm := .none },
  { cls := 42, slots := #[], vm := .none },
  { cls := 0, slots := #[], vm := .none }]
def classes : Array Class := #[k0, k1, k2, k3, k4, k5, k6, k7, k8, k9, k10, k11, k12, k13, k14, k15, k16, k17, k18, k19, k20, k21, k22, k23, k24, k25, k26, k27, k28, k29, k30, k31, k32, k33, k34, k35, k36, k37, k38, k39, k40, k41, k42, k43]
def interned : List (Array UInt16 × Addr) := []
def slotsUsed : Nat := 533
def theMethod : MethodId := ⟨1, 2⟩
def args0 : Array Value := #[.int 5, .int 6, .int 7, .int 8, .int 9]
def aboutOver (below : List Frame) : State where
  vm := { classes := classes, interned := interned.toArray }
  heap := heap
  slotsUsed := slotsUsed
  threads := #[{ frames := .invoking theMethod args0 :: below }]
def below0 : List Frame := [.native { method := ⟨0, 0⟩, args := #[] }]
def about1 : State := aboutOver below0
def p0 : Program := .bare "" "" ""
def e0 : Env := launch0.env 0 0 0
theorem w_frames : about1.frames = Frame.invoking theMethod args0 :: below0 := rfl
theorem w_args : argsFit about1.vm theMethod args0 = true := by decide +kernel
theorem w_heap : heapFits about1 = true := by decide +kernel
theorem w_runnable : about1.curStatus? = some .runnable := by decide +kernel
theorem w_alone : about1.alone = true := by decide +kernel
theorem w_named : about1.methodNamed? x = some theMethod := by decide +kernel
theorem w_hears : about1.hears theMethod below0 = true := by decide +kernel
theorem w_ripe : about1.ripe theMethod args0 below0 = true := by decide +kernel
theorem w_running : about1.status = .running := rfl
theorem w_room : about1.hasRoom e0.platform room_1 = true :=
  launch0.hasRoom_least _ room_1 (by decide +kernel) (by decide +kernel) (by decide +kernel) (by decide +kernel) (by decide +kernel) (by decide +kernel)
theorem allAtoms_all (ts : List Jvm.Cond) (a : Array Jvm.Value) (st : Jvm.State) : (allAtoms ts).before a st = ts.all (fun c => c.before a st) := by
  induction ts with
  | nil => rfl
  | cons c t ih =>
    show (Jvm.Cond.and c (allAtoms t)).before a st = _
    rw [Jvm.Cond.before_and, ih, List.all_cons]
def words1 : List Jvm.Cond := Jvm.Cond.code x code maxLocals ret :: tables_1
/-- a 'code' word, met by the world's own term for the bytes: nothing is compared byte by byte -/
theorem code_word {y : MethodName} {bytes : ByteArray} {mx : Nat} {rt : Option FieldType} {a : Array Value} {s : State} {m : MethodId} {meth : Method} {c : Code} (h1 : s.methodNamed? y = some m) (h2 : s.vm.method? m = some meth) (h3 : meth.code = some c) (h4 : c.code = bytes)
    (h5 : (c.maxLocals == mx && c.exceptionTable.isEmpty && decide (c.maxStack ≤ mostOperands) && decide (meth.sig.returnType = rt) && !meth.locks && decide (parseMethodDescriptor y.desc = some meth.sig)) = true) : (Jvm.Cond.code y bytes mx rt).before a s = true := by
  simp only [Bool.and_eq_true, beq_iff_eq, Bool.not_eq_true', decide_eq_true_eq] at h5
  obtain ⟨⟨⟨⟨⟨g1, g2⟩, g3⟩, g4⟩, g5⟩, g6⟩ := h5
  simp [Cond.before, Cond.holds, Cond.value, h1, h2, h3, h4, g1, g2, g3, g4, g5, g6]
def isCode : Jvm.Cond → Bool
  | .code _ _ _ _ => true
  | _ => false
theorem all_split {L : List Jvm.Cond} {P : Jvm.Cond → Bool} (h1 : L.all (fun c => isCode c || P c) = true) (h2 : ∀ c ∈ L.filter isCode, P c = true) : L.all P = true := by
  refine List.all_eq_true.mpr fun c hc => ?_
  have h := List.all_eq_true.mp h1 c hc
  rcases Bool.eq_false_or_eq_true (isCode c) with hi | hi
  · exact h2 c (List.mem_filter.mpr ⟨hc, hi⟩)
  · simpa [hi] using h
theorem w_c0 : (Jvm.Cond.code x code maxLocals ret).before args0 about1 = true := code_word (m := ⟨1, 2⟩) (meth := k1m2) (c := k1c2) (by decide +kernel) rfl rfl rfl (by decide +kernel)
theorem w_c1 : (Jvm.Cond.code ({ cls := "java/util/ArrayList", name := "<init>", desc := "()V" } : Jvm.MethodName) jdk_38_method_2_code (1 : Nat) (Option.none : Option Jvm.ClassFile.FieldType)).before args0 about1 = true := code_word (m := ⟨11, 0⟩) (meth := k11m0) (c := k11c0) (by decide +kernel) rfl rfl rfl (by decide +kernel)
theorem w_c2 : (Jvm.Cond.code ({ cls := "java/util/AbstractList", name := "<init>", desc := "()V" } : Jvm.MethodName) jdk_39_method_1_code (1 : Nat) (Option.none : Option Jvm.ClassFile.FieldType)).before args0 about1 = true := code_word (m := ⟨7, 0⟩) (meth := k7m0) (c := k7c0) (by decide +kernel) rfl rfl rfl (by decide +kernel)
theorem w_c3 : (Jvm.Cond.code ({ cls := "java/util/AbstractCollection", name := "<init>", desc := "()V" } : Jvm.MethodName) jdk_22_method_1_code (1 : Nat) (Option.none : Option Jvm.ClassFile.FieldType)).before args0 about1 = true := code_word (m := ⟨4, 0⟩) (meth := k4m0) (c := k4c0) (by decide +kernel) rfl rfl rfl (by decide +kernel)
theorem w_c4 : (Jvm.Cond.code ({ cls := "java/lang/Object", name := "<init>", desc := "()V" } : Jvm.MethodName) object_method_1_code (1 : Nat) (Option.none : Option Jvm.ClassFile.FieldType)).before args0 about1 = true := code_word (m := ⟨0, 0⟩) (meth := k0m0) (c := k0c0) (by decide +kernel) rfl rfl rfl (by decide +kernel)
theorem w_c5 : (Jvm.Cond.code ({ cls := "java/lang/Integer", name := "valueOf", desc := "(I)Ljava/lang/Integer;" } : Jvm.MethodName) jdk_33_method_22_code (1 : Nat) (Option.some (Jvm.ClassFile.FieldType.object "java/lang/Integer"))).before args0 about1 = true := code_word (m := ⟨16, 0⟩) (meth := k16m0) (c := k16c0) (by decide +kernel) rfl rfl rfl (by decide +kernel)
theorem w_c6 : (Jvm.Cond.code ({ cls := "java/util/ArrayList", name := "add", desc := "(Ljava/lang/Object;)Z" } : Jvm.MethodName) jdk_38_method_25_code (2 : Nat) (Option.some Jvm.ClassFile.FieldType.boolean)).before args0 about1 = true := code_word (m := ⟨11, 6⟩) (meth := k11m6) (c := k11c6) (by decide +kernel) rfl rfl rfl (by decide +kernel)
theorem w_c7 : (Jvm.Cond.code ({ cls := "java/util/ArrayList", name := "add", desc := "(Ljava/lang/Object;[Ljava/lang/Object;I)V" } : Jvm.MethodName) jdk_38_method_24_code (4 : Nat) (Option.none : Option Jvm.ClassFile.FieldType)).before args0 about1 = true := code_word (m := ⟨11, 5⟩) (meth := k11m5) (c := k11c5) (by decide +kernel) rfl rfl rfl (by decide +kernel)
theorem w_c8 : (Jvm.Cond.code ({ cls := "java/util/ArrayList", name := "grow", desc := "()[Ljava/lang/Object;" } : Jvm.MethodName) jdk_38_method_7_code (1 : Nat) (Option.some (Jvm.ClassFile.FieldType.array (Jvm.ClassFile.FieldType.object "java/lang/Object")))).before args0 about1 = true := code_word (m := ⟨11, 2⟩) (meth := k11m2) (c := k11c2) (by decide +kernel) rfl rfl rfl (by decide +kernel)
theorem w_c9 : (Jvm.Cond.code ({ cls := "java/util/ArrayList", name := "grow", desc := "(I)[Ljava/lang/Object;" } : Jvm.MethodName) jdk_38_method_6_code (4 : Nat) (Option.some (Jvm.ClassFile.FieldType.array (Jvm.ClassFile.FieldType.object "java/lang/Object")))).before args0 about1 = true := code_word (m := ⟨11, 1⟩) (meth := k11m1) (c := k11c1) (by decide +kernel) rfl rfl rfl (by decide +kernel)
theorem w_c10 : (Jvm.Cond.code ({ cls := "java/lang/Math", name := "max", desc := "(II)I" } : Jvm.MethodName) jdk_29_method_65_code (2 : Nat) (Option.some Jvm.ClassFile.FieldType.int)).before args0 about1 = true := code_word (m := ⟨18, 1⟩) (meth := k18m1) (c := k18c1) (by decide +kernel) rfl rfl rfl (by decide +kernel)
theorem w_c11 : (Jvm.Cond.code ({ cls := "com/example/overweave/overweave/Instance", name := "<init>", desc := "(Ljava/lang/String;Ljava/util/List;Ljava/util/List;Ljava/util/List;Ljava/util/List;Ljava/util/List;)V" } : Jvm.MethodName) prog_6_method_1_code (7 : Nat) (Option.none : Option Jvm.ClassFile.FieldType)).before args0 about1 = true := code_word (m := ⟨19, 0⟩) (meth := k19m0) (c := k19c0) (by decide +kernel) rfl rfl rfl (by decide +kernel)
theorem w_c12 : (Jvm.Cond.code ({ cls := "java/util/List", name := "copyOf", desc := "(Ljava/util/Collection;)Ljava/util/List;" } : Jvm.MethodName) jdk_40_method_48_code (1 : Nat) (Option.some (Jvm.ClassFile.FieldType.object "java/util/List"))).before args0 about1 = true := code_word (m := ⟨6, 6⟩) (meth := k6m6) (c := k6c6) (by decide +kernel) rfl rfl rfl (by decide +kernel)
theorem w_c13 : (Jvm.Cond.code ({ cls := "java/util/ImmutableCollections", name := "listCopy", desc := "(Ljava/util/Collection;)Ljava/util/List;" } : Jvm.MethodName) jdk_56_method_3_code (2 : Nat) (Option.some (Jvm.ClassFile.FieldType.object "java/util/List"))).before args0 about1 = true := code_word (m := ⟨22, 1⟩) (meth := k22m1) (c := k22c1) (by decide +kernel) rfl rfl rfl (by decide +kernel)
theorem w_c14 : (Jvm.Cond.code ({ cls := "java/util/ArrayList", name := "isEmpty", desc := "()Z" } : Jvm.MethodName) jdk_38_method_9_code (1 : Nat) (Option.some Jvm.ClassFile.FieldType.boolean)).before args0 about1 = true := code_word (m := ⟨11, 3⟩) (meth := k11m3) (c := k11c3) (by decide +kernel) rfl rfl rfl (by decide +kernel)
theorem w_c15 : (Jvm.Cond.code ({ cls := "java/util/List", name := "of", desc := "()Ljava/util/List;" } : Jvm.MethodName) jdk_40_method_36_code (0 : Nat) (Option.some (Jvm.ClassFile.FieldType.object "java/util/List"))).before args0 about1 = true := code_word (m := ⟨6, 4⟩) (meth := k6m4) (c := k6c4) (by decide +kernel) rfl rfl rfl (by decide +kernel)
theorem w_c16 : (Jvm.Cond.code ({ cls := "java/util/ArrayList", name := "toArray", desc := "()[Ljava/lang/Object;" } : Jvm.MethodName) jdk_38_method_16_code (1 : Nat) (Option.some (Jvm.ClassFile.FieldType.array (Jvm.ClassFile.FieldType.object "java/lang/Object")))).before args0 about1 = true := code_word (m := ⟨11, 4⟩) (meth := k11m4) (c := k11c4) (by decide +kernel) rfl rfl rfl (by decide +kernel)
theorem w_c17 : (Jvm.Cond.code ({ cls := "java/util/Arrays", name := "copyOf", desc := "([Ljava/lang/Object;I)[Ljava/lang/Object;" } : Jvm.MethodName) jdk_65_method_119_code (2 : Nat) (Option.some (Jvm.ClassFile.FieldType.array (Jvm.ClassFile.FieldType.object "java/lang/Object")))).before args0 about1 = true := code_word (m := ⟨27, 1⟩) (meth := k27m1) (c := k27c1) (by decide +kernel) rfl rfl rfl (by decide +kernel)
theorem w_c18 : (Jvm.Cond.code ({ cls := "java/util/Arrays", name := "copyOf", desc := "([Ljava/lang/Object;ILjava/lang/Class;)[Ljava/lang/Object;" } : Jvm.MethodName) jdk_65_method_120_code (4 : Nat) (Option.some (Jvm.ClassFile.FieldType.array (Jvm.ClassFile.FieldType.object "java/lang/Object")))).before args0 about1 = true := code_word (m := ⟨27, 2⟩) (meth := k27m2) (c := k27c2) (by decide +kernel) rfl rfl rfl (by decide +kernel)
theorem w_c19 : (Jvm.Cond.code ({ cls := "java/lang/Math", name := "min", desc := "(II)I" } : Jvm.MethodName) jdk_29_method_69_code (2 : Nat) (Option.some Jvm.ClassFile.FieldType.int)).before args0 about1 = true := code_word (m := ⟨18, 2⟩) (meth := k18m2) (c := k18c2) (by decide +kernel) rfl rfl rfl (by decide +kernel)
theorem w_c20 : (Jvm.Cond.code ({ cls := "java/util/List", name := "of", desc := "([Ljava/lang/Object;)Ljava/util/List;" } : Jvm.MethodName) jdk_40_method_47_code (2 : Nat) (Option.some (Jvm.ClassFile.FieldType.object "java/util/List"))).before args0 about1 = true := code_word (m := ⟨6, 5⟩) (meth := k6m5) (c := k6c5) (by decide +kernel) rfl rfl rfl (by decide +kernel)
theorem w_c21 : (Jvm.Cond.code ({ cls := "java/util/ImmutableCollections$List12", name := "<init>", desc := "(Ljava/lang/Object;)V" } : Jvm.MethodName) jdk_44_method_1_code (2 : Nat) (Option.none : Option Jvm.ClassFile.FieldType)).before args0 about1 = true := code_word (m := ⟨25, 0⟩) (meth := k25m0) (c := k25c0) (by decide +kernel) rfl rfl rfl (by decide +kernel)
theorem w_c22 : (Jvm.Cond.code ({ cls := "java/util/ImmutableCollections$AbstractImmutableList", name := "<init>", desc := "()V" } : Jvm.MethodName) jdk_46_method_1_code (1 : Nat) (Option.none : Option Jvm.ClassFile.FieldType)).before args0 about1 = true := code_word (m := ⟨24, 0⟩) (meth := k24m0) (c := k24c0) (by decide +kernel) rfl rfl rfl (by decide +kernel)
theorem w_c23 : (Jvm.Cond.code ({ cls := "java/util/ImmutableCollections$AbstractImmutableCollection", name := "<init>", desc := "()V" } : Jvm.MethodName) jdk_47_method_1_code (1 : Nat) (Option.none : Option Jvm.ClassFile.FieldType)).before args0 about1 = true := code_word (m := ⟨23, 0⟩) (meth := k23m0) (c := k23c0) (by decide +kernel) rfl rfl rfl (by decide +kernel)
theorem w_c24 : (Jvm.Cond.code ({ cls := "java/util/Objects", name := "requireNonNull", desc := "(Ljava/lang/Object;)Ljava/lang/Object;" } : Jvm.MethodName) jdk_31_method_10_code (1 : Nat) (Option.some (Jvm.ClassFile.FieldType.object "java/lang/Object"))).before args0 about1 = true := code_word (m := ⟨29, 1⟩) (meth := k29m1) (c := k29c1) (by decide +kernel) rfl rfl rfl (by decide +kernel)
theorem w_c25 : (Jvm.Cond.code ({ cls := "com/example/overweave/overweave/Instance", name := "traffic", desc := "()[[D" } : Jvm.MethodName) prog_6_method_8_code (4 : Nat) (Option.some (Jvm.ClassFile.FieldType.array (Jvm.ClassFile.FieldType.array Jvm.ClassFile.FieldType.double)))).before args0 about1 = true := code_word (m := ⟨19, 1⟩) (meth := k19m1) (c := k19c1) (by decide +kernel) rfl rfl rfl (by decide +kernel)
theorem w_c26 : (Jvm.Cond.code ({ cls := "java/util/ImmutableCollections$List12", name := "size", desc := "()I" } : Jvm.MethodName) jdk_44_method_3_code (1 : Nat) (Option.some Jvm.ClassFile.FieldType.int)).before args0 about1 = true := code_word (m := ⟨25, 2⟩) (meth := k25m2) (c := k25c2) (by decide +kernel) rfl rfl rfl (by decide +kernel)
theorem w_c27 : (Jvm.Cond.code ({ cls := "java/util/ImmutableCollections$AbstractImmutableList", name := "iterator", desc := "()Ljava/util/Iterator;" } : Jvm.MethodName) jdk_46_method_10_code (1 : Nat) (Option.some (Jvm.ClassFile.FieldType.object "java/util/Iterator"))).before args0 about1 = true := code_word (m := ⟨24, 1⟩) (meth := k24m1) (c := k24c1) (by decide +kernel) rfl rfl rfl (by decide +kernel)
theorem w_c28 : (Jvm.Cond.code ({ cls := "java/util/ImmutableCollections$ListN", name := "size", desc := "()I" } : Jvm.MethodName) jdk_45_method_3_code (1 : Nat) (Option.some Jvm.ClassFile.FieldType.int)).before args0 about1 = true := code_word (m := ⟨26, 1⟩) (meth := k26m1) (c := k26c1) (by decide +kernel) rfl rfl rfl (by decide +kernel)
theorem w_c29 : (Jvm.Cond.code ({ cls := "java/util/ImmutableCollections$ListItr", name := "<init>", desc := "(Ljava/util/List;I)V" } : Jvm.MethodName) jdk_53_method_1_code (3 : Nat) (Option.none : Option Jvm.ClassFile.FieldType)).before args0 about1 = true := code_word (m := ⟨32, 0⟩) (meth := k32m0) (c := k32c0) (by decide +kernel) rfl rfl rfl (by decide +kernel)
theorem w_c30 : (Jvm.Cond.code ({ cls := "java/util/ImmutableCollections$ListItr", name := "hasNext", desc := "()Z" } : Jvm.MethodName) jdk_53_method_3_code (1 : Nat) (Option.some Jvm.ClassFile.FieldType.boolean)).before args0 about1 = true := code_word (m := ⟨32, 1⟩) (meth := k32m1) (c := k32c1) (by decide +kernel) rfl rfl rfl (by decide +kernel)
theorem w_c31 : (Jvm.Cond.code ({ cls := "com/example/overweave/overweave/InstanceTrafficPinLaw", name := "exp", desc := "(IIIIIDIIDIID)D" } : Jvm.MethodName) method_2_code (17 : Nat) (Option.some Jvm.ClassFile.FieldType.double)).before args0 about1 = true := code_word (m := ⟨1, 1⟩) (meth := k1m1) (c := k1c1) (by decide +kernel) rfl rfl rfl (by decide +kernel)
theorem w_c32 : (Jvm.Cond.code ({ cls := "java/util/ImmutableCollections$List12", name := "<init>", desc := "(Ljava/lang/Object;Ljava/lang/Object;)V" } : Jvm.MethodName) jdk_44_method_2_code (3 : Nat) (Option.none : Option Jvm.ClassFile.FieldType)).before args0 about1 = true := code_word (m := ⟨25, 1⟩) (meth := k25m1) (c := k25c1) (by decide +kernel) rfl rfl rfl (by decide +kernel)
theorem w_c33 : (Jvm.Cond.code ({ cls := "com/example/overweave/overweave/Instance$Demand", name := "<init>", desc := "(IID)V" } : Jvm.MethodName) prog_7_method_1_code (5 : Nat) (Option.none : Option Jvm.ClassFile.FieldType)).before args0 about1 = true := code_word (m := ⟨33, 0⟩) (meth := k33m0) (c := k33c0) (by decide +kernel) rfl rfl rfl (by decide +kernel)
theorem w_c34 : (Jvm.Cond.code ({ cls := "java/util/ImmutableCollections$List12", name := "get", desc := "(I)Ljava/lang/Object;" } : Jvm.MethodName) jdk_44_method_5_code (2 : Nat) (Option.some (Jvm.ClassFile.FieldType.object "java/lang/Object"))).before args0 about1 = true := code_word (m := ⟨25, 3⟩) (meth := k25m3) (c := k25c3) (by decide +kernel) rfl rfl rfl (by decide +kernel)
theorem w_c35 : (Jvm.Cond.code ({ cls := "com/example/overweave/overweave/Instance$Demand", name := "getUser", desc := "()I" } : Jvm.MethodName) prog_7_method_2_code (1 : Nat) (Option.some Jvm.ClassFile.FieldType.int)).before args0 about1 = true := code_word (m := ⟨33, 1⟩) (meth := k33m1) (c := k33c1) (by decide +kernel) rfl rfl rfl (by decide +kernel)
theorem w_c36 : (Jvm.Cond.code ({ cls := "com/example/overweave/overweave/Instance$Demand", name := "getDestination", desc := "()I" } : Jvm.MethodName) prog_7_method_3_code (1 : Nat) (Option.some Jvm.ClassFile.FieldType.int)).before args0 about1 = true := code_word (m := ⟨33, 2⟩) (meth := k33m2) (c := k33c2) (by decide +kernel) rfl rfl rfl (by decide +kernel)
theorem w_c37 : (Jvm.Cond.code ({ cls := "com/example/overweave/overweave/Instance$Demand", name := "getVolume", desc := "()D" } : Jvm.MethodName) prog_7_method_4_code (1 : Nat) (Option.some Jvm.ClassFile.FieldType.double)).before args0 about1 = true := code_word (m := ⟨33, 3⟩) (meth := k33m3) (c := k33c3) (by decide +kernel) rfl rfl rfl (by decide +kernel)
theorem w_c38 : (Jvm.Cond.code ({ cls := "java/util/ImmutableCollections", name := "listFromArray", desc := "([Ljava/lang/Object;)Ljava/util/List;" } : Jvm.MethodName) jdk_56_method_4_code (3 : Nat) (Option.some (Jvm.ClassFile.FieldType.object "java/util/List"))).before args0 about1 = true := code_word (m := ⟨22, 2⟩) (meth := k22m2) (c := k22c2) (by decide +kernel) rfl rfl rfl (by decide +kernel)
theorem w_c39 : (Jvm.Cond.code ({ cls := "java/util/ImmutableCollections$ListN", name := "<init>", desc := "([Ljava/lang/Object;Z)V" } : Jvm.MethodName) jdk_45_method_1_code (3 : Nat) (Option.none : Option Jvm.ClassFile.FieldType)).before args0 about1 = true := code_word (m := ⟨26, 0⟩) (meth := k26m0) (c := k26c0) (by decide +kernel) rfl rfl rfl (by decide +kernel)
theorem w_c40 : (Jvm.Cond.code ({ cls := "java/util/ImmutableCollections$ListN", name := "get", desc := "(I)Ljava/lang/Object;" } : Jvm.MethodName) jdk_45_method_4_code (2 : Nat) (Option.some (Jvm.ClassFile.FieldType.object "java/lang/Object"))).before args0 about1 = true := code_word (m := ⟨26, 2⟩) (meth := k26m2) (c := k26c2) (by decide +kernel) rfl rfl rfl (by decide +kernel)
def codes1 : List Jvm.Cond := [Jvm.Cond.code x code maxLocals ret, Jvm.Cond.code ({ cls := "java/util/ArrayList", name := "<init>", desc := "()V" } : Jvm.MethodName) jdk_38_method_2_code (1 : Nat) (Option.none : Option Jvm.ClassFile.FieldType), Jvm.Cond.code ({ cls := "java/util/AbstractList", name := "<init>", desc := "()V" } : Jvm.MethodName) jdk_39_method_1_code (1 : Nat) (Option.none : Option Jvm.ClassFile.FieldType), Jvm.Cond.code ({ cls := "java/util/AbstractCollection", name := "<init>", desc := "()V" } : Jvm.MethodName) jdk_22_method_1_code (1 : Nat) (Option.none : Option Jvm.ClassFile.FieldType), Jvm.Cond.code ({ cls := "java/lang/Object", name := "<init>", desc := "()V" } : Jvm.MethodName) object_method_1_code (1 : Nat) (Option.none : Option Jvm.ClassFile.FieldType), Jvm.Cond.code ({ cls := "java/lang/Integer", name := "valueOf", desc := "(I)Ljava/lang/Integer;" } : Jvm.MethodName) jdk_33_method_22_code (1 : Nat) (Option.some (Jvm.ClassFile.FieldType.object "java/lang/Integer")), Jvm.Cond.code ({ cls := "java/util/ArrayList", name := "add", desc := "(Ljava/lang/Object;)Z" } : Jvm.MethodName) jdk_38_method_25_code (2 : Nat) (Option.some Jvm.ClassFile.FieldType.boolean), Jvm.Cond.code ({ cls := "java/util/ArrayList", name := "add", desc := "(Ljava/lang/Object;[Ljava/lang/Object;I)V" } : Jvm.MethodName) jdk_38_method_24_code (4 : Nat) (Option.none : Option Jvm.ClassFile.FieldType), Jvm.Cond.code ({ cls := "java/util/ArrayList", name := "grow", desc := "()[Ljava/lang/Object;" } : Jvm.MethodName) jdk_38_method_7_code (1 : Nat) (Option.some (Jvm.ClassFile.FieldType.array (Jvm.ClassFile.FieldType.object "java/lang/Object"))), Jvm.Cond.code ({ cls := "java/util/ArrayList", name := "grow", desc := "(I)[Ljava/lang/Object;" } : Jvm.MethodName) jdk_38_method_6_code (4 : Nat) (Option.some (Jvm.ClassFile.FieldType.array (Jvm.ClassFile.FieldType.object "java/lang/Object"))), Jvm.Cond.code ({ cls := "java/lang/Math", name := "max", desc := "(II)I" } : Jvm.MethodName) jdk_29_method_65_code (2 : Nat) (Option.some Jvm.ClassFile.FieldType.int), Jvm.Cond.code ({ cls := "com/example/overweave/overweave/Instance", name := "<init>", desc := "(Ljava/lang/String;Ljava/util/List;Ljava/util/List;Ljava/util/List;Ljava/util/List;Ljava/util/List;)V" } : Jvm.MethodName) prog_6_method_1_code (7 : Nat) (Option.none : Option Jvm.ClassFile.FieldType), Jvm.Cond.code ({ cls := "java/util/List", name := "copyOf", desc := "(Ljava/util/Collection;)Ljava/util/List;" } : Jvm.MethodName) jdk_40_method_48_code (1 : Nat) (Option.some (Jvm.ClassFile.FieldType.object "java/util/List")), Jvm.Cond.code ({ cls := "java/util/ImmutableCollections", name := "listCopy", desc := "(Ljava/util/Collection;)Ljava/util/List;" } : Jvm.MethodName) jdk_56_method_3_code (2 : Nat) (Option.some (Jvm.ClassFile.FieldType.object "java/util/List")), Jvm.Cond.code ({ cls := "java/util/ArrayList", name := "isEmpty", desc := "()Z" } : Jvm.MethodName) jdk_38_method_9_code (1 : Nat) (Option.some Jvm.ClassFile.FieldType.boolean), Jvm.Cond.code ({ cls := "java/util/List", name := "of", desc := "()Ljava/util/List;" } : Jvm.MethodName) jdk_40_method_36_code (0 : Nat) (Option.some (Jvm.ClassFile.FieldType.object "java/util/List")), Jvm.Cond.code ({ cls := "java/util/ArrayList", name := "toArray", desc := "()[Ljava/lang/Object;" } : Jvm.MethodName) jdk_38_method_16_code (1 : Nat) (Option.some (Jvm.ClassFile.FieldType.array (Jvm.ClassFile.FieldType.object "java/lang/Object"))), Jvm.Cond.code ({ cls := "java/util/Arrays", name := "copyOf", desc := "([Ljava/lang/Object;I)[Ljava/lang/Object;" } : Jvm.MethodName) jdk_65_method_119_code (2 : Nat) (Option.some (Jvm.ClassFile.FieldType.array (Jvm.ClassFile.FieldType.object "java/lang/Object"))), Jvm.Cond.code ({ cls := "java/util/Arrays", name := "copyOf", desc := "([Ljava/lang/Object;ILjava/lang/Class;)[Ljava/lang/Object;" } : Jvm.MethodName) jdk_65_method_120_code (4 : Nat) (Option.some (Jvm.ClassFile.FieldType.array (Jvm.ClassFile.FieldType.object "java/lang/Object"))), Jvm.Cond.code ({ cls := "java/lang/Math", name := "min", desc := "(II)I" } : Jvm.MethodName) jdk_29_method_69_code (2 : Nat) (Option.some Jvm.ClassFile.FieldType.int), Jvm.Cond.code ({ cls := "java/util/List", name := "of", desc := "([Ljava/lang/Object;)Ljava/util/List;" } : Jvm.MethodName) jdk_40_method_47_code (2 : Nat) (Option.some (Jvm.ClassFile.FieldType.object "java/util/List")), Jvm.Cond.code ({ cls := "java/util/ImmutableCollections$List12", name := "<init>", desc := "(Ljava/lang/Object;)V" } : Jvm.MethodName) jdk_44_method_1_code (2 : Nat) (Option.none : Option Jvm.ClassFile.FieldType), Jvm.Cond.code ({ cls := "java/util/ImmutableCollections$AbstractImmutableList", name := "<init>", desc := "()V" } : Jvm.MethodName) jdk_46_method_1_code (1 : Nat) (Option.none : Option Jvm.ClassFile.FieldType), Jvm.Cond.code ({ cls := "java/util/ImmutableCollections$AbstractImmutableCollection", name := "<init>", desc := "()V" } : Jvm.MethodName) jdk_47_method_1_code (1 : Nat) (Option.none : Option Jvm.ClassFile.FieldType), Jvm.Cond.code ({ cls := "java/util/Objects", name := "requireNonNull", desc := "(Ljava/lang/Object;)Ljava/lang/Object;" } : Jvm.MethodName) jdk_31_method_10_code (1 : Nat) (Option.some (Jvm.ClassFile.FieldType.object "java/lang/Object")), Jvm.Cond.code ({ cls := "com/example/overweave/overweave/Instance", name := "traffic", desc := "()[[D" } : Jvm.MethodName) prog_6_method_8_code (4 : Nat) (Option.some (Jvm.ClassFile.FieldType.array (Jvm.ClassFile.FieldType.array Jvm.ClassFile.FieldType.double))), Jvm.Cond.code ({ cls := "java/util/ImmutableCollections$List12", name := "size", desc := "()I" } : Jvm.MethodName) jdk_44_method_3_code (1 : Nat) (Option.some Jvm.ClassFile.FieldType.int), Jvm.Cond.code ({ cls := "java/util/ImmutableCollections$AbstractImmutableList", name := "iterator", desc := "()Ljava/util/Iterator;" } : Jvm.MethodName) jdk_46_method_10_code (1 : Nat) (Option.some (Jvm.ClassFile.FieldType.object "java/util/Iterator")), Jvm.Cond.code ({ cls := "java/util/ImmutableCollections$ListN", name := "size", desc := "()I" } : Jvm.MethodName) jdk_45_method_3_code (1 : Nat) (Option.some Jvm.ClassFile.FieldType.int), Jvm.Cond.code ({ cls := "java/util/ImmutableCollections$ListItr", name := "<init>", desc := "(Ljava/util/List;I)V" } : Jvm.MethodName) jdk_53_method_1_code (3 : Nat) (Option.none : Option Jvm.ClassFile.FieldType), Jvm.Cond.code ({ cls := "java/util/ImmutableCollections$ListItr", name := "hasNext", desc := "()Z" } : Jvm.MethodName) jdk_53_method_3_code (1 : Nat) (Option.some Jvm.ClassFile.FieldType.boolean), Jvm.Cond.code ({ cls := "com/example/overweave/overweave/InstanceTrafficPinLaw", name := "exp", desc := "(IIIIIDIIDIID)D" } : Jvm.MethodName) method_2_code (17 : Nat) (Option.some Jvm.ClassFile.FieldType.double), Jvm.Cond.code ({ cls := "java/util/ImmutableCollections$List12", name := "<init>", desc := "(Ljava/lang/Object;Ljava/lang/Object;)V" } : Jvm.MethodName) jdk_44_method_2_code (3 : Nat) (Option.none : Option Jvm.ClassFile.FieldType), Jvm.Cond.code ({ cls := "com/example/overweave/overweave/Instance$Demand", name := "<init>", desc := "(IID)V" } : Jvm.MethodName) prog_7_method_1_code (5 : Nat) (Option.none : Option Jvm.ClassFile.FieldType), Jvm.Cond.code ({ cls := "java/util/ImmutableCollections$List12", name := "get", desc := "(I)Ljava/lang/Object;" } : Jvm.MethodName) jdk_44_method_5_code (2 : Nat) (Option.some (Jvm.ClassFile.FieldType.object "java/lang/Object")), Jvm.Cond.code ({ cls := "com/example/overweave/overweave/Instance$Demand", name := "getUser", desc := "()I" } : Jvm.MethodName) prog_7_method_2_code (1 : Nat) (Option.some Jvm.ClassFile.FieldType.int), Jvm.Cond.code ({ cls := "com/example/overweave/overweave/Instance$Demand", name := "getDestination", desc := "()I" } : Jvm.MethodName) prog_7_method_3_code (1 : Nat) (Option.some Jvm.ClassFile.FieldType.int), Jvm.Cond.code ({ cls := "com/example/overweave/overweave/Instance$Demand", name := "getVolume", desc := "()D" } : Jvm.MethodName) prog_7_method_4_code (1 : Nat) (Option.some Jvm.ClassFile.FieldType.double), Jvm.Cond.code ({ cls := "java/util/ImmutableCollections", name := "listFromArray", desc := "([Ljava/lang/Object;)Ljava/util/List;" } : Jvm.MethodName) jdk_56_method_4_code (3 : Nat) (Option.some (Jvm.ClassFile.FieldType.object "java/util/List")), Jvm.Cond.code ({ cls := "java/util/ImmutableCollections$ListN", name := "<init>", desc := "([Ljava/lang/Object;Z)V" } : Jvm.MethodName) jdk_45_method_1_code (3 : Nat) (Option.none : Option Jvm.ClassFile.FieldType), Jvm.Cond.code ({ cls := "java/util/ImmutableCollections$ListN", name := "get", desc := "(I)Ljava/lang/Object;" } : Jvm.MethodName) jdk_45_method_4_code (2 : Nat) (Option.some (Jvm.ClassFile.FieldType.object "java/lang/Object"))]
theorem codes_eq : words1.filter isCode = codes1 := rfl
theorem w_codes : ∀ c ∈ words1.filter isCode, c.before args0 about1 = true := by
  rw [codes_eq]
  intro c hc
  simp only [codes1, List.mem_cons, List.not_mem_nil, or_false] at hc
  rcases hc with rfl | rfl | rfl | rfl | rfl | rfl | rfl | rfl | rfl | rfl | rfl | rfl | rfl | rfl | rfl | rfl | rfl | rfl | rfl | rfl | rfl | rfl | rfl | rfl | rfl | rfl | rfl | rfl | rfl | rfl | rfl | rfl | rfl | rfl | rfl | rfl | rfl | rfl | rfl | rfl | rfl
  · exact w_c0
  · exact w_c1
  · exact w_c2
  · exact w_c3
  · exact w_c4
  · exact w_c5
  · exact w_c6
  · exact w_c7
  · exact w_c8
  · exact w_c9
  · exact w_c10
  · exact w_c11
  · exact w_c12
  · exact w_c13
  · exact w_c14
  · exact w_c15
  · exact w_c16
  · exact w_c17
  · exact w_c18
  · exact w_c19
  · exact w_c20
  · exact w_c21
  · exact w_c22
  · exact w_c23
  · exact w_c24
  · exact w_c25
  · exact w_c26
  · exact w_c27
  · exact w_c28
  · exact w_c29
  · exact w_c30
  · exact w_c31
  · exact w_c32
  · exact w_c33
  · exact w_c34
  · exact w_c35
  · exact w_c36
  · exact w_c37
  · exact w_c38
  · exact w_c39
  · exact w_c40
theorem w_t1 : (words1.take 24).all (fun c => isCode c || c.before args0 about1) = true := by decide +kernel
theorem w_t2 : ((words1.drop 24).take 24).all (fun c => isCode c || c.before args0 about1) = true := by decide +kernel
theorem w_t3 : (((words1.drop 24).drop 24).take 24).all (fun c => isCode c || c.before args0 about1) = true := by decide +kernel
theorem w_t4 : ((((words1.drop 24).drop 24).drop 24).take 24).all (fun c => isCode c || c.before args0 about1) = true := by decide +kernel
theorem w_t5 : (((((words1.drop 24).drop 24).drop 24).drop 24).take 24).all (fun c => isCode c || c.before args0 about1) = true := by decide +kernel
theorem w_t6 : ((((((words1.drop 24).drop 24).drop 24).drop 24).drop 24).take 24).all (fun c => isCode c || c.before args0 about1) = true := by decide +kernel
theorem w_t7 : (((((((words1.drop 24).drop 24).drop 24).drop 24).drop 24).drop 24).take 24).all (fun c => isCode c || c.before args0 about1) = true := by decide +kernel
theorem w_t8 : ((((((((words1.drop 24).drop 24).drop 24).drop 24).drop 24).drop 24).drop 24).take 24).all (fun c => isCode c || c.before args0 about1) = true := by decide +kernel
theorem w_t9 : (((((((((words1.drop 24).drop 24).drop 24).drop 24).drop 24).drop 24).drop 24).drop 24).take 24).all (fun c => isCode c || c.before args0 about1) = true := by decide +kernel
theorem w_t10 : ((((((((((words1.drop 24).drop 24).drop 24).drop 24).drop 24).drop 24).drop 24).drop 24).drop 24).take 24).all (fun c => isCode c || c.before args0 about1) = true := by decide +kernel
theorem w_t11 : (((((((((((words1.drop 24).drop 24).drop 24).drop 24).drop 24).drop 24).drop 24).drop 24).drop 24).drop 24).take 24).all (fun c => isCode c || c.before args0 about1) = true := by decide +kernel
theorem w_t12 : ((((((((((((words1.drop 24).drop 24).drop 24).drop 24).drop 24).drop 24).drop 24).drop 24).drop 24).drop 24).drop 24).take 24).all (fun c => isCode c || c.before args0 about1) = true := by decide +kernel
theorem w_t13 : (((((((((((((words1.drop 24).drop 24).drop 24).drop 24).drop 24).drop 24).drop 24).drop 24).drop 24).drop 24).drop 24).drop 24).take 24).all (fun c => isCode c || c.before args0 about1) = true := by decide +kernel
theorem w_t14 : (((((((((((((words1.drop 24).drop 24).drop 24).drop 24).drop 24).drop 24).drop 24).drop 24).drop 24).drop 24).drop 24).drop 24).drop 24).all (fun c => isCode c || c.before args0 about1) = true := by decide +kernel
theorem w_tables : (allAtoms (Jvm.Cond.code x code maxLocals ret :: tables_1)).before args0 about1 = true := by
  rw [allAtoms_all]
  show words1.all (fun c => c.before args0 about1) = true
  refine all_split ?_ w_codes
  rw [← List.take_append_drop 24 words1, List.all_append, w_t1, ← List.take_append_drop 24 (words1.drop 24), List.all_append, w_t2, ← List.take_append_drop 24 ((words1.drop 24).drop 24), List.all_append, w_t3, ← List.take_append_drop 24 (((words1.drop 24).drop 24).drop 24), List.all_append, w_t4, ← List.take_append_drop 24 ((((words1.drop 24).drop 24).drop 24).drop 24), List.all_append, w_t5, ← List.take_append_drop 24 (((((words1.drop 24).drop 24).drop 24).drop 24).drop 24), List.all_append, w_t6, ← List.take_append_drop 24 ((((((words1.drop 24).drop 24).drop 24).drop 24).drop 24).drop 24), List.all_append, w_t7, ← List.take_append_drop 24 (((((((words1.drop 24).drop 24).drop 24).drop 24).drop 24).drop 24).drop 24), List.all_append, w_t8, ← List.take_append_drop 24 ((((((((words1.drop 24).drop 24).drop 24).drop 24).drop 24).drop 24).drop 24).drop 24), List.all_append, w_t9, ← List.take_append_drop 24 (((((((((words1.drop 24).drop 24).drop 24).drop 24).drop 24).drop 24).drop 24).drop 24).drop 24), List.all_append, w_t10, ← List.take_append_drop 24 ((((((((((words1.drop 24).drop 24).drop 24).drop 24).drop 24).drop 24).drop 24).drop 24).drop 24).drop 24), List.all_append, w_t11, ← List.take_append_drop 24 (((((((((((words1.drop 24).drop 24).drop 24).drop 24).drop 24).drop 24).drop 24).drop 24).drop 24).drop 24).drop 24), List.all_append, w_t12, ← List.take_append_drop 24 ((((((((((((words1.drop 24).drop 24).drop 24).drop 24).drop 24).drop 24).drop 24).drop 24).drop 24).drop 24).drop 24).drop 24), List.all_append, w_t13, w_t14]
  rfl
theorem w_rest : rest_1_c.before args0 about1 = true := by decide +kernel
theorem w_case : (Jvm.Cond.and given_1 narrow_1).before args0 about1 = true := by decide +kernel
theorem w_applies : (headSpec (Jvm.Cond.code x code maxLocals ret :: tables_1) room_1).applies x e0.platform about1 = true :=
  (Spec.applies_iff w_frames).mpr ⟨w_running, w_runnable, w_alone, w_named, w_hears, w_ripe, w_room, w_tables⟩
theorem atStart : AtStart classFile x code maxLocals ret World_1 tables_1 room_1 Calls_1 rest_1 Pre_1 launch0 p0 e0 about1 theMethod args0 below0 :=
  ⟨lists_1, trivial, launch0.admits_env _ _ _, launch0.least_env, fairChoices_fair.cas, fairChoices_fair.clock, w_frames, w_args, w_heap, w_applies, ⟨⟨42, k42, 3, by decide +kernel, rfl, rfl, _, rfl, rfl⟩, trivial⟩, w_rest, w_case⟩
end start1
theorem witness_1 : WitnessClaimed_1 := ⟨start1.p0, start1.e0, start1.about1, start1.theMethod, start1.args0, start1.below0, start1.atStart⟩
end Jvm.Pilot.@@N@@
