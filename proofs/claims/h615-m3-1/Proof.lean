import JvmDerived
import JvmDerived.Pilot.@@N@@Statement
import JvmDerived.Pilot.@@N@@Code
set_option linter.unusedVariables false
set_option linter.unusedSimpArgs false
namespace Jvm.RoadKit
open Sem ClassFile Op Lib Jvm.Stand Jvm.Free Jvm.LawKit
section New
variable {p : Program} {l : Launch} {e : Env} {R : Room} {s : State} {m : MethodId} {args : Array Value} {below : List Frame} {meth : Method} {c : Code} {T : State} {locs : List Loc} {cells slots : Nat}
theorem retI (X : Stand p l e R s m args below meth c T locs cells slots) (hx : p.tables.exec = Jvm.exec) {pc : Nat} {Ls : Array Slot} {z : Int32} {rest : List Value} (hret : meth.sig.returnType = some .int) (hd : decode c.code pc = .ok (.ireturn, 1)) {fs : List Frame}
    (hl : ∀ (f : JFrame) (acts : List Action), f.method = m → f.locked = none → f.entered = [] → (doReturn e (T.setTop f) acts (some (.int z))).1 = T.setFrames fs) : Steps p.tables e below (T.setTop (mkF m pc Ls (.int z :: rest))) (T.setFrames fs) :=
  retOut X hx hret rfl (Or.inl ⟨rfl, Or.inl rfl, _, rfl⟩) hd hl
end New
end Jvm.RoadKit
namespace Jvm.RoadKit
open Sem ClassFile Op Lib Jvm.Stand Jvm.Free Jvm.LawKit
def Mi (Z : State) (C : String) (m : Addr) : Prop := ∃ (c : ClassId) (k : Class), Z.vm.findClass C = some c ∧ Z.vm.classes[c]? = some k ∧ k.mirror = some m
section OwnMi
variable {p : Program} {l : Launch} {e : Env} {R : Room} {s : State} {m : MethodId} {args : Array Value} {below : List Frame} {meth : Method} {c : Code} {T : State} {locs : List Loc} {cells slots : Nat} {Z : State} {h : Heap} {a b : Addr} {a0 : Array Value}
theorem own_mvMN {own host : String} {index : Nat} {x : MethodName} (hZ : Z.Warmed39 s.vm) (w : (Cond.methodLinkNest own index x host).before a0 Z = true) : (Cond.methodLinkNest own index x host).before args s = true := (Cond.methodLinkNest_wide hZ w :)
theorem own_mvIM {I O n d : String} (hZ : Z.Warmed39 s.vm) (w : (Cond.interfaceMethod I O n d).before a0 Z = true) : (Cond.interfaceMethod I O n d).before args s = true := by
  have hf := State.methodFound?_setVm hZ.alike I n d
  have q : (Cond.interfaceMethod I O n d).before a0 (Z.setVm s.vm) = true := by
    simp only [Cond.before, Cond.holds, Cond.value, State.vm_setVm, hZ.alike.findClass, hf, State.methodNamed?_setVm hZ.alike, arm_isInterface_setVm hZ.alike] at w ⊢
    exact w
  simp only [Cond.before, Cond.holds, Cond.value] at q ⊢
  exact q
theorem own_ldcM (X : Stand p l e R s m args below meth c T locs cells slots) (hx : p.tables.exec = Jvm.exec) (hZ : Z.Warmed39 s.vm) {own C : String} {index : Nat} (hown : s.vm.findClass own = some m.cls) (w : (Cond.classLink own index C).before a0 Z = true) (eT : T.heap = h) {mr : Addr} (M : Mi Z C mr)
    {g : JFrame} (hg : g.method = m) (hd : decode c.code g.pc = .ok (.ldc index, 2)) : ∃ T', Stand p l e R s m args below meth c T' locs cells slots ∧ T'.heap = h ∧ ∀ target, Steps p.tables e below (T'.setTop { g with pc := g.pc + 2, stack := .ref mr :: g.stack }) target → Steps p.tables e below (T.setTop g) target := by
  obtain ⟨cM, kM, f1, f2, f3⟩ := M
  obtain ⟨kN, f4, f5⟩ := hZ.alike.2.2 _ _ f2
  have f6 : kN.mirror = some mr := by rw [f5]; exact f3
  have f7 : s.vm.findClass C = some cM := by rw [hZ.alike.findClass]; exact f1
  obtain ⟨vm', X', st⟩ := X.ldcMirror hx hown (mvT hZ w) (C := C) (a := mr) (by simp [Term.eval, f7, f4, f6]) hg hd
  exact ⟨_, X', eT, st⟩
theorem own_gcls (X : Stand p l e R s m args below meth c T locs cells slots) (hx : p.tables.exec = Jvm.exec) (hZ : Z.Warmed39 s.vm) {own C : String} {index : Nat} (hown : s.vm.findClass own = some m.cls)
    (w1 : (Cond.methodLink own index ⟨"java/lang/Object", "getClass", "()Ljava/lang/Class;"⟩).before a0 Z = true) (w2 : (Cond.declares ⟨"java/lang/Object", "getClass", "()Ljava/lang/Class;"⟩).before a0 Z = true) (w4 : (Cond.selects C ⟨"java/lang/Object", "getClass", "()Ljava/lang/Class;"⟩ ⟨"java/lang/Object", "getClass", "()Ljava/lang/Class;"⟩).before a0 Z = true)
    (w5 : (Cond.instanceMethod ⟨"java/lang/Object", "getClass", "()Ljava/lang/Class;"⟩).before a0 Z = true) (w6 : (Cond.native ⟨"java/lang/Object", "getClass", "()Ljava/lang/Class;"⟩).before a0 Z = true) (eT : T.heap = h) (E : Exa Z h a C) {mr : Addr} (M : Mi Z C mr)
    {g : JFrame} (hg : g.method = m) (hsize : g.locals.size = c.maxLocals) {rest : List Value} (hs : g.stack = .ref a :: rest) (hd : decode c.code g.pc = .ok (.invokevirtual index, 3)) (hf : 1 ≤ R.frames) {W : Nat} (hW : 2 * g.monitorRoom + (rest.map fun v => v.category).sum ≤ W) (hl : W + (nativeFrameWords "java/lang/Object" "getClass" 1 + 11) ≤ R.locals) :
    ∃ T', Stand p l e R s m args below meth c T' locs cells slots ∧ T'.heap = h ∧ ∀ target, Steps p.tables e below (T'.setTop { g with pc := g.pc + 3, stack := .ref mr :: rest }) target → Steps p.tables e below (T.setTop g) target := by
  obtain ⟨cM, kM, f1, f2, f3⟩ := M
  obtain ⟨kN, f4, f5⟩ := hZ.alike.2.2 _ _ f2
  have f7 : s.vm.findClass C = some cM := by rw [hZ.alike.findClass]; exact f1
  obtain ⟨cI, kI, i1, i2, i3⟩ := isOf hZ eT E
  cases i1.symm.trans f7
  obtain ⟨vm', X', st⟩ := X.getClassOf hx hown (mvT hZ w1) (mvT hZ w2) (notFace_of_selects (args := #[]) (mvT hZ w4)) (mvT hZ w4) (mvT hZ w5) (mvT hZ w6) f7 i3 f4 (by rw [f5]; exact f3) hg hsize hs hd hf (by omega)
  exact ⟨_, X', eT, st⟩
theorem own_gclsI (X : Stand p l e R s m args below meth c T locs cells slots) (hx : p.tables.exec = Jvm.exec) (hZ : Z.Warmed39 s.vm) {own C I : String} {index count : Nat} (hown : s.vm.findClass own = some m.cls)
    (w1 : (Cond.methodLink own index ⟨I, "getClass", "()Ljava/lang/Class;"⟩).before a0 Z = true) (w2 : (Cond.declares ⟨"java/lang/Object", "getClass", "()Ljava/lang/Class;"⟩).before a0 Z = true) (w3 : (Cond.interfaceMethod I "java/lang/Object" "getClass" "()Ljava/lang/Class;").before a0 Z = true) (w4 : (Cond.selects C ⟨I, "getClass", "()Ljava/lang/Class;"⟩ ⟨"java/lang/Object", "getClass", "()Ljava/lang/Class;"⟩).before a0 Z = true)
    (w5 : (Cond.instanceMethod ⟨"java/lang/Object", "getClass", "()Ljava/lang/Class;"⟩).before a0 Z = true) (w6 : (Cond.publicMethod ⟨"java/lang/Object", "getClass", "()Ljava/lang/Class;"⟩).before a0 Z = true) (w7 : (Cond.unhidden C "getClass" "()Ljava/lang/Class;").before a0 Z = true) (w8 : (Cond.castable C I).before a0 Z = true) (w9 : (Cond.native ⟨"java/lang/Object", "getClass", "()Ljava/lang/Class;"⟩).before a0 Z = true)
    (hI : I ≠ "java/lang/invoke/MethodHandle" ∧ I ≠ "java/lang/invoke/VarHandle") (hO : I ≠ "java/lang/Object") (eT : T.heap = h) (E : Exa Z h a C) {mr : Addr} (M : Mi Z C mr)
    {g : JFrame} (hg : g.method = m) (hsize : g.locals.size = c.maxLocals) {rest : List Value} (hs : g.stack = .ref a :: rest) (hd : decode c.code g.pc = .ok (.invokeinterface index count, 5)) (hf : 1 ≤ R.frames) {W : Nat} (hW : 2 * g.monitorRoom + (rest.map fun v => v.category).sum ≤ W) (hl : W + (nativeFrameWords "java/lang/Object" "getClass" 1 + 11) ≤ R.locals) :
    ∃ T', Stand p l e R s m args below meth c T' locs cells slots ∧ T'.heap = h ∧ ∀ target, Steps p.tables e below (T'.setTop { g with pc := g.pc + 5, stack := .ref mr :: rest }) target → Steps p.tables e below (T.setTop g) target := by
  obtain ⟨cM, kM, f1, f2, f3⟩ := M
  obtain ⟨kN, f4, f5⟩ := hZ.alike.2.2 _ _ f2
  have f7 : s.vm.findClass C = some cM := by rw [hZ.alike.findClass]; exact f1
  obtain ⟨cI, kI, i1, i2, i3⟩ := isOf hZ eT E
  cases i1.symm.trans f7
  obtain ⟨vm', X', st⟩ := X.getClassOfI hx (xi := ⟨I, "getClass", "()Ljava/lang/Class;"⟩) hown (mvT hZ w1) (mvT hZ w2) (own_mvIM hZ w3) (mvT hZ w4) (mvT hZ w5) (mvT hZ w6) (mvT hZ w7) (mvT hZ w8) (mvT hZ w9) hI hO rfl rfl f7 f4 i3 (by rw [f5]; exact f3) hg hsize hs hd hf (by omega)
  exact ⟨_, X', eT, st⟩
theorem own_nsroot {O K : String} {n : Nat} (w : (Cond.noSuperclass O).before a0 Z = true) (wk : (Cond.instantiable K n).before a0 Z = true) (hn : O ≠ K) : NS Z O K := by
  obtain ⟨cO, kO, h1, h2, h3, -, -⟩ := Cond.noSuperclass_spec w
  obtain ⟨cK, kK, g1, -⟩ := Cond.instantiable_spec wk
  have ne := ids_ne h1 g1 hn
  refine ⟨cO, cK, h1, g1, fun fuel => ?_⟩
  cases fuel with
  | zero => rfl
  | succ f => simp [Vm.isSubclassAux, ne, h2, h3]
theorem own_nsno {C S K : String} {n : Nat} (w : (Cond.superclass C S).before a0 Z = true) (wk : (Cond.instantiable K n).before a0 Z = true) (q : NS Z C K) (hn : C ≠ K) : ∃ c t, Z.vm.findClass C = some c ∧ Z.vm.findClass K = some t ∧ Z.vm.assignable c t = false := by
  obtain ⟨cC, cK, h0, g0, n3⟩ := q
  obtain ⟨pS, kC, kS, -, h2, -, -, h5, -, -⟩ := Cond.superclass_spec h0 w
  obtain ⟨cK', kK, g1, g2, g3, g4, -⟩ := Cond.instantiable_spec wk
  cases g0.symm.trans g1
  have ne := ids_ne h0 g0 hn
  have g5 : kK.isInterface = false := by cases q : kK.isInterface <;> simp [q] at g4 ⊢
  refine ⟨cC, cK, h0, g0, ?_⟩
  show Z.vm.assignableAux (255 + 1) cC cK = false
  simp [Vm.assignableAux, ne, h2, g2, h5, g3, g5, Vm.isSubclass, n3]
theorem own_len {t : Term} {cl : Cell} {ty : FieldType} {z : Int32} (ev : t.eval args Z none [] Z = some (.ref a)) (A : Arr Z Z.heap a cl ty) (e : (Term.length t).eval args Z none [] Z = some (.int z)) : cl.slots.size < 2 ^ 31 ∧ cl.slots.size.toInt32 = z := by
  have hA := A.fin (Vm.Alike.refl Z.vm) (U := Z)
  have h31 := SBG.length_lt ev hA e
  refine ⟨h31, ?_⟩
  have q : (Term.length t).eval args Z none [] Z = some (.int (Int32.ofNat cl.slots.size)) := by simp [Term.eval, ev, hA, h31]
  have := Option.some.inj (q.symm.trans e)
  simpa using this
theorem own_arr0 {t : Term} {ty : FieldType} {K : String} {dv : Value} (hf : Fit Z) (hex : (Cond.exactly t K).before args Z = true) (har : (Cond.arrayOf t ty).before args Z = true) (hlen : (Term.length t).eval args Z none [] Z = some (.int (0 : Int32))) : ∃ (d : Addr) (k : ClassId), t.eval args Z none [] Z = some (.ref d) ∧ Exa Z Z.heap d K ∧ Arv Z Z.heap d k ty (0 : Int32) [] dv := by
  obtain ⟨d, -, -, -, hev, -⟩ := Cond.exactly_spec hex
  obtain ⟨cl, A⟩ := Arr.start hev (Cond.before_iff.mp har)
  obtain ⟨q, r⟩ := own_len hev A hlen
  exact ⟨d, _, hev, Exa.start hev (Cond.before_iff.mp hex), Arv.start hf A q r (by decide) rfl trivial⟩
end OwnMi
end Jvm.RoadKit
namespace Jvm.Pilot.@@N@@
open Jvm Jvm.ClassFile Sem Op Lib Jvm.Free Jvm.Stand Jvm.LawKit Jvm.RoadKit Bundle Jvm.Pilot.@@N@@.Jvm.D
set_option maxRecDepth 65536
set_option maxHeartbeats 40000000
abbrev HW (Z : State) (a0 : Array Value) : Prop := ∀ d ∈ tables_1, d.before a0 Z = true
abbrev oR (f c s l : Nat) : Room := { frames := f, cells := c, slots := s, locals := l }
abbrev MF (l : Launch) (Z : State) (y : MethodName) (code : ByteArray) (maxL : Nat) (ret : Option FieldType) (ws : List Jvm.Cond) (rm : Room) (as' : Array Value) (h0 : Heap) (Q : Option Value → Heap → List Loc → Prop) : Prop :=
  MetFree l y (head1 (Jvm.Cond.code y code maxL ret :: ws) rm) (fun a U => a = as' ∧ Z.Warmed39 U.vm ∧ U.heap = h0) (fun _ _ _ _ _ => True) (fun _ U o U' => ∃ v L, o = .returned v ∧ Q v U'.heap L ∧ FrameEnd U o U' L rm.cells rm.slots)
theorem own_body {l : Launch} {Z : State} {y : MethodName} {code : ByteArray} {maxL : Nat} {ret : Option FieldType} {ws : List Jvm.Cond} {rm : Room} {as' : Array Value} {h0 : Heap} {Q : Option Value → Heap → List Loc → Prop} {cls : String} (hp : plainFor y = true) (hc : y.cls = cls)
    (body : ∀ (p : Program) (e : Env) (s : State) (m : MethodId) (below : List Frame) (meth : Method) (c : Code) (s₁ : State), p.tables.exec = Jvm.exec → c.code = code → c.maxLocals = maxL → s.vm.findClass cls = some m.cls → meth.name = y.name → meth.sig.returnType = ret → Z.Warmed39 s.vm → Stand p l e rm s m as' below meth c s₁ [] 0 0 → s₁.heap = h0 →
      ∃ (T : State) (L : List Loc) (k n : Nat) (v : Option Value), Stand p l e rm s m as' below meth c T L k n ∧ k ≤ rm.cells ∧ n ≤ rm.slots ∧ (ret = none → v = none) ∧ Q v T.heap L ∧ ∀ fs, (∀ (f : JFrame) (acts : List Action), f.method = m → f.locked = none → f.entered = [] → (doReturn e (T.setTop f) acts v).1 = T.setFrames fs) → Steps p.tables e below (s₁.setTop (entryFrame m as' maxL)) (T.setFrames fs)) : MF l Z y code maxL ret ws rm as' h0 Q := by
  refine MetFree.of_bodySF hp hisR ?_
  intro p e s m args below meth c s₁ Bd hml0 hP hK
  obtain ⟨rfl, hZ, hh⟩ := hP
  obtain ⟨T, L, k, n, v, X, hk, hn, hv, hQ, hs⟩ := body p e s m below meth c s₁ Bd.exec Bd.bytes hml0 (hc ▸ findClass_of_methodNamed Bd.named) (name_of_methodNamed Bd.named Bd.method).1 Bd.returns hZ (Stand.of_body Bd) (by rw [← hh, Bd.state]; rfl)
  obtain ⟨fs, hr, hrun, hended, hW, hsame⟩ := X.leave (v := v) (fun h => hv (by rw [← Bd.returns]; exact h))
  exact ⟨_, _, hs fs hr, hrun, hended, v, L, rfl, hQ, ⟨_, rfl⟩, hW, hsame.mono hk hn⟩
theorem own_l {a b : Nat} (h : a < b) : a < b := h
theorem own_ne {a b : Nat} (h : a < b ∨ b < a) : a ≠ b := by omega
abbrev vI (x : Int32) : Slot := .val (.int x)
abbrev vA (a : Addr) : Slot := .val (.ref a)
theorem own_cat {v : Value} (h : v.isRef = true) : v.category = 1 := by rcases ref_cases h with rfl | ⟨_, rfl⟩ <;> rfl
theorem own_narrow_ref {t : FieldType} {v : Value} (h : v.isRef = true) : narrow t v = v := by rcases ref_cases h with rfl | ⟨_, rfl⟩ <;> (cases t <;> rfl)
theorem own_fits_ref {t : FieldType} {v : Value} (h : v.isRef = true) (ht : t.isReference = true) : fits t v = true := by rcases ref_cases h with rfl | ⟨_, rfl⟩ <;> (cases t <;> first | rfl | (cases ht; done))
abbrev sta0 (Z : State) (v : Value) : Prop := Sta Z Z.heap "java/lang/String" "COMPACT_STRINGS" "Z" v
abbrev sta1 (Z : State) (v : Value) : Prop := Sta Z Z.heap "java/util/ArrayList" "DEFAULTCAPACITY_EMPTY_ELEMENTDATA" "[Ljava/lang/Object;" v
abbrev sta2 (Z : State) (v : Value) : Prop := Sta Z Z.heap "java/util/ImmutableCollections" "EMPTY_LIST" "Ljava/util/ImmutableCollections$ListN;" v
abbrev sta3 (Z : State) (v : Value) : Prop := Sta Z Z.heap "java/util/ImmutableCollections" "EMPTY" "Ljava/lang/Object;" v
abbrev fld0 (Z : State) (h : Heap) (a : Addr) (v : Value) : Prop := Fld Z h a "java/lang/String" "value" "[B" v
abbrev fld1 (Z : State) (h : Heap) (a : Addr) (v : Value) : Prop := Fld Z h a "java/lang/String" "coder" "B" v
abbrev fld2 (Z : State) (h : Heap) (a : Addr) (v : Value) : Prop := Fld Z h a "java/util/ArrayList" "size" "I" v
abbrev fld3 (Z : State) (h : Heap) (a : Addr) (v : Value) : Prop := Fld Z h a "java/util/ArrayList" "elementData" "[Ljava/lang/Object;" v
abbrev fld4 (Z : State) (h : Heap) (a : Addr) (v : Value) : Prop := Fld Z h a "java/util/AbstractList" "modCount" "I" v
abbrev fld5 (Z : State) (h : Heap) (a : Addr) (v : Value) : Prop := Fld Z h a "java/util/HashMap" "entrySet" "Ljava/util/Set;" v
abbrev fld6 (Z : State) (h : Heap) (a : Addr) (v : Value) : Prop := Fld Z h a "java/util/HashMap" "modCount" "I" v
abbrev fld7 (Z : State) (h : Heap) (a : Addr) (v : Value) : Prop := Fld Z h a "java/util/HashMap" "table" "[Ljava/util/HashMap$Node;" v
abbrev fld8 (Z : State) (h : Heap) (a : Addr) (v : Value) : Prop := Fld Z h a "java/util/ImmutableCollections$List12" "e0" "Ljava/lang/Object;" v
abbrev fld9 (Z : State) (h : Heap) (a : Addr) (v : Value) : Prop := Fld Z h a "java/util/ImmutableCollections$List12" "e1" "Ljava/lang/Object;" v
abbrev fld10 (Z : State) (h : Heap) (a : Addr) (v : Value) : Prop := Fld Z h a "java/util/ImmutableCollections$ListN" "elements" "[Ljava/lang/Object;" v
abbrev fld11 (Z : State) (h : Heap) (a : Addr) (v : Value) : Prop := Fld Z h a "com/example/ratify/ratify/recovery/RecoveryReport" "committed" "J" v
abbrev fld12 (Z : State) (h : Heap) (a : Addr) (v : Value) : Prop := Fld Z h a "com/example/ratify/ratify/recovery/RecoveryReport" "rolledBack" "J" v
abbrev fld13 (Z : State) (h : Heap) (a : Addr) (v : Value) : Prop := Fld Z h a "com/example/ratify/ratify/recovery/RecoveryReport" "pending" "J" v
abbrev fld14 (Z : State) (h : Heap) (a : Addr) (v : Value) : Prop := Fld Z h a "com/example/ratify/ratify/recovery/RecoveryReport" "unreachable" "Ljava/util/List;" v
abbrev fld15 (Z : State) (h : Heap) (a : Addr) (v : Value) : Prop := Fld Z h a "com/example/ratify/ratify/recovery/RecoveryReport" "failures" "Ljava/util/List;" v
abbrev fld16 (Z : State) (h : Heap) (a : Addr) (v : Value) : Prop := Fld Z h a "com/example/ratify/ratify/recovery/RecoveryReport" "finished" "Ljava/util/List;" v
abbrev fld17 (Z : State) (h : Heap) (a : Addr) (v : Value) : Prop := Fld Z h a "com/example/ratify/ratify/recovery/RecoveryReport" "waiting" "Ljava/util/List;" v
abbrev fld18 (Z : State) (h : Heap) (a : Addr) (v : Value) : Prop := Fld Z h a "com/example/ratify/ratify/recovery/RecoveryReport" "deferred" "Ljava/util/List;" v
abbrev fld19 (Z : State) (h : Heap) (a : Addr) (v : Value) : Prop := Fld Z h a "com/example/ratify/ratify/recovery/RecoveryReport" "decided" "Ljava/util/List;" v
theorem d0 : decode jdk_43_method_3_code 0 = .ok (.iload_n 0, 1) := by decide +kernel
theorem d1 : decode jdk_43_method_3_code 1 = .ok (.sipush 255, 3) := by decide +kernel
theorem d2 : decode jdk_43_method_3_code 4 = .ok (.if_icmp .gt 7, 3) := by decide +kernel
theorem d3 : decode jdk_43_method_3_code 7 = .ok (.iconst 1, 1) := by decide +kernel
theorem d4 : decode jdk_43_method_3_code 8 = .ok (.goto 4, 3) := by decide +kernel
theorem d5 : decode jdk_43_method_3_code 12 = .ok (.ireturn, 1) := by decide +kernel
theorem pn_0 : plainName "java/lang/StringLatin1" = true := by first | (simp [plainName, overriddenIn]; done) | decide +kernel
theorem ef_0 (m : MethodId) (x0 : Int32) : entryFrame m #[(.int x0)] 1 = mkF m 0 #[vI x0] [] := by first | (simp [entryFrame, mkF, argsToLocals, Value.category, maxLocals]; done) | rfl
abbrev m_0 : MethodName := (⟨"java/lang/StringLatin1", "canEncode", "(C)Z"⟩ : MethodName)
def Q_canEnc (Z : State) (q : Int32) (h0 : Heap) (n0 : Nat) (v : Option Value) (h : Heap) (L : List Loc) : Prop := (v = some (.int 1)) ∧ (Fr n0 L) ∧ (h = h0)
theorem rm_canEnc (l : Launch) (Z : State) (a0 : Array Value) (hw : HW Z a0) (ws : List Jvm.Cond) (q : Int32) (h0 : Heap) (n0 : Nat) (Z0 : n0 ≤ h0.size) (hlo : ¬ ((255 : Int32) < q)) :
    MF l Z m_0 jdk_43_method_3_code 1 (some .boolean) ws (oR 0 0 0 0) #[(.int q)] h0 (Q_canEnc Z q h0 n0) := by
  refine own_body (cls := "java/lang/StringLatin1") (plainFor_of_name pn_0) rfl (fun p e s m below meth c s₁ hx hby hml hown hnm hret hZ X0 e0 => ?_)
  have N0 := Fr.nil n0
  refine ⟨_, _, _, _, some (.int 1), X0, by decide, by decide, nofun, ?_, fun fs hr => castTop (ef_0 m q) ?_⟩
  · show Q_canEnc Z q h0 n0 _ s₁.heap _
    rw [(e0 : s₁.heap = h0)]
    exact ⟨rfl, N0, rfl⟩
  · show Steps _ _ _ (s₁.setTop (mkF m 0 #[vI q] [])) _
    refine XS.iloadN X0.here hx rfl (hb hby d0) rfl ?_
    refine XS.sipush X0.here hx rfl (hb hby d1) ?_
    refine XS.icmpNo X0.here hx rfl (hb hby d2) rfl (flt (hlo : ¬ ((255 : Int32) < q))).2.2.1 ?_
    refine XS.iconst X0.here hx rfl (hb hby d3) ?_
    refine XS.goto X0.here hx rfl (pc0 := 8) (pc' := 12) rfl (hb hby d4) (by decide) (by decide) ?_
    exact retN X0 hx (t := .boolean) hret (by simp) (hb hby d5) hr
theorem d6 : decode jdk_43_method_46_code 0 = .ok (.iconst 1, 1) := by decide +kernel
theorem w_14 {Z : State} {a0 : Array Value} (hw : HW Z a0) : (Jvm.Cond.arrayClass FieldType.byte).before a0 Z = true := hw _ (List.mem_of_getElem? (i := 14) rfl)
theorem d7 : decode jdk_43_method_46_code 1 = .ok (.newarray .byte, 2) := by decide +kernel
theorem d8 : decode jdk_43_method_46_code 3 = .ok (.dup, 1) := by decide +kernel
theorem d9 : decode jdk_43_method_46_code 4 = .ok (.iconst 0, 1) := by decide +kernel
theorem d10 : decode jdk_43_method_46_code 5 = .ok (.iload_n 0, 1) := by decide +kernel
theorem d11 : decode jdk_43_method_46_code 6 = .ok (.i2b, 1) := by decide +kernel
theorem d12 : decode jdk_43_method_46_code 7 = .ok (.bastore, 1) := by decide +kernel
theorem d13 : decode jdk_43_method_46_code 8 = .ok (.areturn, 1) := by decide +kernel
abbrev m_1 : MethodName := (⟨"java/lang/StringLatin1", "toBytes", "(C)[B"⟩ : MethodName)
def Q_toB (Z : State) (q : Int32) (h0 : Heap) (n0 : Nat) (v : Option Value) (h : Heap) (L : List Loc) : Prop := ∃ (b : Addr) (k : ClassId), (v = some (.ref b)) ∧ (Fr n0 L) ∧ (Keep h0 h []) ∧ (h0.size ≤ b) ∧ (Arv Z h b k .byte (1 : Int32) [(.int (nar .byte ((q.toInt8.toInt32))))] (.int 0))
theorem rm_toB (l : Launch) (Z : State) (a0 : Array Value) (hw : HW Z a0) (ws : List Jvm.Cond) (q : Int32) (h0 : Heap) (n0 : Nat) (Z0 : n0 ≤ h0.size) :
    MF l Z m_1 jdk_43_method_46_code 1 (some (.array .byte)) ws (oR 0 1 1 0) #[(.int q)] h0 (Q_toB Z q h0 n0) := by
  refine own_body (cls := "java/lang/StringLatin1") (plainFor_of_name pn_0) rfl (fun p e s m below meth c s₁ hx hby hml hown hnm hret hZ X0 e0 => ?_)
  have N0 := Fr.nil n0
  have K0 := Keep.refl h0 []
  obtain ⟨T1, h1, k1, X1, e1, E1, A1, AE1, st1⟩ := newPE X0 hx hZ (aty := .byte) (w_14 hw) e0 (g := (mkF m 1 #[vI q] [(.int 1)])) rfl (hb hby d7) rfl (by decide) (cap := 1) (by decide) (by decide) (by decide) (by decide) (ad := "[B") (by decide)
  obtain ⟨b1, g1⟩ : ∃ z, z = h0.size := ⟨_, rfl⟩
  rw [← g1] at A1 AE1 st1
  have z1 := E1.1
  have K1 := K0.ext E1
  have V1 : Arv Z h1 b1 k1 .byte (1 : Int32) [(.int 0)] (.int 0) := (Arv.new A1 (by decide)).pad (pad_rep [] (.int 0) 1)
  have lt2 := own_l V1.lt
  obtain ⟨cl3, Ar3, q3, S3, M3, H3, G3⟩ := id V1
  have hin3 : ¬ ((0 : Int32) < 0 ∨ cl3.slots.size ≤ ((0 : Int32)).toNatClampNeg) := inb_of S3 ⟨by decide, by decide⟩
  obtain ⟨T3, h3, X3, e3, W3, st3⟩ := stB X1 hx hZ e1 Ar3 (j := (0 : Int32)) hin3 (g := (mkF m 7 #[vI q] [(.int (q.toInt8.toInt32)), (.int 0), (.ref b1), (.ref b1)])) rfl rfl (hb hby d12)
  have V3 : Arv Z h3 b1 k1 .byte (1 : Int32) [(.int (nar .byte (q.toInt8.toInt32)))] (.int 0) := Arv.set Ar3 q3 S3 M3 H3 G3 (fits_nar_byte (q.toInt8.toInt32)) W3 0 rfl (Nat.le_of_ble_eq_true rfl)
  have z3 := W3.size
  have K3 := K1.wr W3 (Or.inr (by omega))
  have N3 := Fr.snoc X3 N0 (by omega)
  refine ⟨_, _, _, _, some (.ref b1), X3, by decide, by decide, nofun, ?_, fun fs hr => castTop (ef_0 m q) ?_⟩
  · show Q_toB Z q h0 n0 _ T3.heap _
    rw [(e3 : T3.heap = h3)]
    exact ⟨b1, k1, rfl, N3, K3, (by omega), V3⟩
  · show Steps _ _ _ (s₁.setTop (mkF m 0 #[vI q] [])) _
    refine XS.iconst X0.here hx rfl (hb hby d6) ?_
    refine st1 _ ?_
    show Steps _ _ _ (T1.setTop (mkF m 3 #[vI q] [(.ref b1)])) _
    refine XS.dup X1.here hx rfl (hb hby d8) rfl rfl ?_
    refine XS.iconst X1.here hx rfl (hb hby d9) ?_
    refine XS.iloadN X1.here hx rfl (hb hby d10) rfl ?_
    refine XS.i2b X1.here hx rfl (hb hby d11) rfl ?_
    refine st3 _ ?_
    show Steps _ _ _ (T3.setTop (mkF m 8 #[vI q] [(.ref b1)])) _
    exact retOut X3 hx hret (own_narrow_ref rfl) (Or.inr (Or.inr (Or.inr (Or.inr ⟨rfl, rfl, rfl⟩)))) (hb hby d13) hr
theorem d14 : decode jdk_42_method_151_code 0 = .ok (.aload_n 0, 1) := by decide +kernel
abbrev m_2 : MethodName := (⟨"java/lang/Object", "<init>", "()V"⟩ : MethodName)
theorem w_19 {Z : State} {a0 : Array Value} (hw : HW Z a0) : (Jvm.Cond.methodLink "java/lang/String" (1 : Nat) m_2).before a0 Z = true := hw _ (List.mem_of_getElem? (i := 19) rfl)
theorem w_20 {Z : State} {a0 : Array Value} (hw : HW Z a0) : (Jvm.Cond.instanceMethod m_2).before a0 Z = true := hw _ (List.mem_of_getElem? (i := 20) rfl)
theorem w_21 {Z : State} {a0 : Array Value} (hw : HW Z a0) : (Jvm.Cond.code m_2 object_method_1_code (1 : Nat) (Option.none : Option Jvm.ClassFile.FieldType)).before a0 Z = true := hw _ (List.mem_of_getElem? (i := 21) rfl)
theorem d15 : decode jdk_42_method_151_code 1 = .ok (.invokespecial 1, 3) := by decide +kernel
theorem d16 : decode jdk_42_method_151_code 4 = .ok (.aload_n 0, 1) := by decide +kernel
theorem d17 : decode jdk_42_method_151_code 5 = .ok (.aload_n 1, 1) := by decide +kernel
theorem w_22 {Z : State} {a0 : Array Value} (hw : HW Z a0) : (Jvm.Cond.fieldLink "java/lang/String" (9 : Nat) "java/lang/String" "value" "[B").before a0 Z = true := hw _ (List.mem_of_getElem? (i := 22) rfl)
theorem w_23 {Z : State} {a0 : Array Value} (hw : HW Z a0) : (Jvm.Cond.laysFinal "java/lang/String" "java/lang/String" "value" "[B").before a0 Z = true := hw _ (List.mem_of_getElem? (i := 23) rfl)
theorem w_10 {Z : State} {a0 : Array Value} (hw : HW Z a0) : (Jvm.Cond.instantiable "java/lang/String" (4 : Nat)).before a0 Z = true := hw _ (List.mem_of_getElem? (i := 10) rfl)
theorem d18 : decode jdk_42_method_151_code 6 = .ok (.putfield 9, 3) := by decide +kernel
theorem d19 : decode jdk_42_method_151_code 9 = .ok (.aload_n 0, 1) := by decide +kernel
theorem d20 : decode jdk_42_method_151_code 10 = .ok (.iload_n 2, 1) := by decide +kernel
theorem w_24 {Z : State} {a0 : Array Value} (hw : HW Z a0) : (Jvm.Cond.fieldLink "java/lang/String" (15 : Nat) "java/lang/String" "coder" "B").before a0 Z = true := hw _ (List.mem_of_getElem? (i := 24) rfl)
theorem w_25 {Z : State} {a0 : Array Value} (hw : HW Z a0) : (Jvm.Cond.laysFinal "java/lang/String" "java/lang/String" "coder" "B").before a0 Z = true := hw _ (List.mem_of_getElem? (i := 25) rfl)
theorem d21 : decode jdk_42_method_151_code 11 = .ok (.putfield 15, 3) := by decide +kernel
theorem d22 : decode jdk_42_method_151_code 14 = .ok (.return_, 1) := by decide +kernel
theorem pn_1 : plainName "java/lang/String" = true := by first | (simp [plainName, overriddenIn]; done) | decide +kernel
theorem ef_1 (m : MethodId) (x0 : Addr) (x1 : Addr) (x2 : Int32) : entryFrame m #[(.ref x0), (.ref x1), (.int x2)] 3 = mkF m 0 #[vA x0, vA x1, vI x2] [] := by first | (simp [entryFrame, mkF, argsToLocals, Value.category, maxLocals]; done) | rfl
abbrev m_3 : MethodName := (⟨"java/lang/String", "<init>", "([BB)V"⟩ : MethodName)
def Q_sbinit (Z : State) (a_ : Addr) (b : Addr) (u : Value) (cd : Int32) (h0 : Heap) (n0 : Nat) (v : Option Value) (h : Heap) (L : List Loc) : Prop := (v = none) ∧ (Fr n0 L) ∧ (Keep h0 h [a_]) ∧ (Exa Z h a_ "java/lang/String")
theorem rm_sbinit (l : Launch) (Z : State) (a0 : Array Value) (hw : HW Z a0) (ws : List Jvm.Cond) (a_ : Addr) (b : Addr) (u : Value) (cd : Int32) (h0 : Heap) (n0 : Nat) (Z0 : n0 ≤ h0.size) (P0 : Exa Z h0 a_ "java/lang/String") (P1 : fld0 Z h0 a_ u) (P2 : fld1 Z h0 a_ (.int cd)) (P3 : n0 ≤ a_) :
    MF l Z m_3 jdk_42_method_151_code 3 none ws (oR 1 0 0 12) #[(.ref a_), (.ref b), (.int 0)] h0 (Q_sbinit Z a_ b u cd h0 n0) := by
  refine own_body (cls := "java/lang/String") (plainFor_of_name pn_1) rfl (fun p e s m below meth c s₁ hx hby hml hown hnm hret hZ X0 e0 => ?_)
  have N0 := Fr.nil n0
  have K0 := Keep.refl h0 [a_]
  have lt1 := own_l P0.lt
  have lt2 := own_l P1.lt
  have lt3 := own_l P2.lt
  obtain ⟨T4, X4, e4, st4⟩ := initO X0 hx hZ hown (w_19 hw) (w_20 hw) (w_21 hw) e0 (g := (mkF m 1 #[vA a_, vA b, vI 0] [(.ref a_)])) rfl (by rw [hml]; rfl) rfl (hb hby d15) (by decide) (W := 0) (Nat.le_of_eq rfl) (by decide)
  obtain ⟨T5, h5, X5, e5, W5, st5⟩ := putF X4 hx hZ hown (host := "") (Or.inl (w_22 hw)) Via.refl e4 P1 P0 (Or.inr ⟨(w_23 hw), rfl, hnm⟩) (w_10 hw) (ty := (.array .byte)) (by decide) rfl rfl (g := (mkF m 6 #[vA a_, vA b, vI 0] [(.ref b), (.ref a_)])) rfl rfl (hb hby d18)
  have F5 := P1.same W5
  have z5 := W5.size
  have K5 := K0.wr W5 (Or.inl (List.mem_of_getElem? (i := 0) rfl))
  have N5 := Fr.snoc X5 N0 (by omega)
  have f7 := P2.other W5 (Or.inr (slot_ne (a0 := a0) (t := .byte) (t' := (.array .byte)) (Or.inr (w_25 hw)) (Or.inr (w_23 hw)) (by decide) (by decide) (by decide)))
  have f8 := P0.wr W5
  obtain ⟨T6, h6, X6, e6, W6, st6⟩ := putFN X5 hx hZ hown (w_24 hw) Via.refl e5 f7 f8 (Or.inr ⟨(w_25 hw), rfl, hnm⟩) (w_10 hw) (ty := .byte) (v' := (.int 0)) (by decide) rfl rfl (g := (mkF m 11 #[vA a_, vA b, vI 0] [(.int 0), (.ref a_)])) rfl rfl (hb hby d21)
  have F6 := f7.same W6
  have z6 := W6.size
  have K6 := K5.wr W6 (Or.inl (List.mem_of_getElem? (i := 0) rfl))
  have N6 := Fr.snoc X6 N5 (by omega)
  have f9 := f8.wr W6
  refine ⟨_, _, _, _, none, X6, by decide, by decide, fun _ => rfl, ?_, fun fs hr => castTop (ef_1 m a_ b (0 : Int32)) ?_⟩
  · show Q_sbinit Z a_ b u cd h0 n0 _ T6.heap _
    rw [(e6 : T6.heap = h6)]
    exact ⟨rfl, N6, K6, f9⟩
  · show Steps _ _ _ (s₁.setTop (mkF m 0 #[vA a_, vA b, vI 0] [])) _
    refine XS.aloadN X0.here hx rfl (hb hby d14) rfl rfl ?_
    refine st4 _ ?_
    show Steps _ _ _ (T4.setTop (mkF m 4 #[vA a_, vA b, vI 0] [])) _
    refine XS.aloadN X4.here hx rfl (hb hby d16) rfl rfl ?_
    refine XS.aloadN X4.here hx rfl (hb hby d17) rfl rfl ?_
    refine st5 _ ?_
    show Steps _ _ _ (T5.setTop (mkF m 9 #[vA a_, vA b, vI 0] [])) _
    refine XS.aloadN X5.here hx rfl (hb hby d19) rfl rfl ?_
    refine XS.iloadN X5.here hx rfl (hb hby d20) rfl ?_
    refine st6 _ ?_
    show Steps _ _ _ (T6.setTop (mkF m 14 #[vA a_, vA b, vI 0] [])) _
    exact X6.returnOut hx hret (hb hby d22) hr
theorem w_4 {Z : State} {a0 : Array Value} (hw : HW Z a0) : (Jvm.Cond.fieldLink "java/lang/String" (38 : Nat) "java/lang/String" "COMPACT_STRINGS" "Z").before a0 Z = true := hw _ (List.mem_of_getElem? (i := 4) rfl)
theorem d23 : decode jdk_42_method_139_code 0 = .ok (.getstatic 38, 3) := by decide +kernel
theorem d24 : decode jdk_42_method_139_code 3 = .ok (.ifCond .eq 23, 3) := by decide +kernel
theorem d25 : decode jdk_42_method_139_code 6 = .ok (.iload_n 0, 1) := by decide +kernel
theorem w_5 {Z : State} {a0 : Array Value} (hw : HW Z a0) : (Jvm.Cond.methodLink "java/lang/String" (1015 : Nat) m_0).before a0 Z = true := hw _ (List.mem_of_getElem? (i := 5) rfl)
theorem w_8 {Z : State} {a0 : Array Value} (hw : HW Z a0) : (Jvm.Cond.code m_0 jdk_43_method_3_code (1 : Nat) (Option.some FieldType.boolean)).before a0 Z = true := hw _ (List.mem_of_getElem? (i := 8) rfl)
theorem w_7 {Z : State} {a0 : Array Value} (hw : HW Z a0) : (Jvm.Cond.initialized "java/lang/StringLatin1").before a0 Z = true := hw _ (List.mem_of_getElem? (i := 7) rfl)
theorem pd_0 : parseMethodDescriptor "(C)Z" = some ⟨[.char], some .boolean⟩ := by decide +kernel
theorem d26 : decode jdk_42_method_139_code 7 = .ok (.invokestatic 1015, 3) := by decide +kernel
theorem w_6 {Z : State} {a0 : Array Value} (hw : HW Z a0) : (Jvm.Cond.static m_0).before a0 Z = true := hw _ (List.mem_of_getElem? (i := 6) rfl)
theorem d27 : decode jdk_42_method_139_code 10 = .ok (.ifCond .eq 16, 3) := by decide +kernel
theorem w_9 {Z : State} {a0 : Array Value} (hw : HW Z a0) : (Jvm.Cond.classLink "java/lang/String" (10 : Nat) "java/lang/String").before a0 Z = true := hw _ (List.mem_of_getElem? (i := 9) rfl)
theorem w_2 {Z : State} {a0 : Array Value} (hw : HW Z a0) : (Jvm.Cond.initialized "java/lang/String").before a0 Z = true := hw _ (List.mem_of_getElem? (i := 2) rfl)
theorem d28 : decode jdk_42_method_139_code 13 = .ok (.new 10, 3) := by decide +kernel
theorem d29 : decode jdk_42_method_139_code 16 = .ok (.dup, 1) := by decide +kernel
theorem d30 : decode jdk_42_method_139_code 17 = .ok (.iload_n 0, 1) := by decide +kernel
theorem w_11 {Z : State} {a0 : Array Value} (hw : HW Z a0) : (Jvm.Cond.methodLink "java/lang/String" (1018 : Nat) m_1).before a0 Z = true := hw _ (List.mem_of_getElem? (i := 11) rfl)
theorem w_13 {Z : State} {a0 : Array Value} (hw : HW Z a0) : (Jvm.Cond.code m_1 jdk_43_method_46_code (1 : Nat) (Option.some (FieldType.array FieldType.byte))).before a0 Z = true := hw _ (List.mem_of_getElem? (i := 13) rfl)
theorem pd_1 : parseMethodDescriptor "(C)[B" = some ⟨[.char], some (.array .byte)⟩ := by decide +kernel
theorem d31 : decode jdk_42_method_139_code 18 = .ok (.invokestatic 1018, 3) := by decide +kernel
theorem w_12 {Z : State} {a0 : Array Value} (hw : HW Z a0) : (Jvm.Cond.static m_1).before a0 Z = true := hw _ (List.mem_of_getElem? (i := 12) rfl)
theorem d32 : decode jdk_42_method_139_code 21 = .ok (.iconst 0, 1) := by decide +kernel
theorem w_15 {Z : State} {a0 : Array Value} (hw : HW Z a0) : (Jvm.Cond.methodLink "java/lang/String" (209 : Nat) m_3).before a0 Z = true := hw _ (List.mem_of_getElem? (i := 15) rfl)
theorem w_18 {Z : State} {a0 : Array Value} (hw : HW Z a0) : (Jvm.Cond.code m_3 jdk_42_method_151_code (3 : Nat) (Option.none : Option Jvm.ClassFile.FieldType)).before a0 Z = true := hw _ (List.mem_of_getElem? (i := 18) rfl)
theorem pd_2 : parseMethodDescriptor "([BB)V" = some ⟨[(.array .byte), .byte], none⟩ := by decide +kernel
theorem d33 : decode jdk_42_method_139_code 22 = .ok (.invokespecial 209, 3) := by decide +kernel
theorem w_16 {Z : State} {a0 : Array Value} (hw : HW Z a0) : (Jvm.Cond.instanceMethod m_3).before a0 Z = true := hw _ (List.mem_of_getElem? (i := 16) rfl)
theorem d34 : decode jdk_42_method_139_code 25 = .ok (.areturn, 1) := by decide +kernel
abbrev m_4 : MethodName := (⟨"java/lang/String", "valueOf", "(C)Ljava/lang/String;"⟩ : MethodName)
def Q_valueC (Z : State) (q : Int32) (cp : Int32) (h0 : Heap) (n0 : Nat) (v : Option Value) (h : Heap) (L : List Loc) : Prop := ∃ (a_ : Addr), (v = some (.ref a_)) ∧ (Fr n0 L) ∧ (Keep h0 h []) ∧ (h0.size ≤ a_) ∧ (Exa Z h a_ "java/lang/String")
theorem rm_valueC (l : Launch) (Z : State) (a0 : Array Value) (hw : HW Z a0) (ws : List Jvm.Cond) (q : Int32) (cp : Int32) (h0 : Heap) (n0 : Nat) (Z0 : n0 ≤ h0.size) (P0 : Old Z n0 h0) (P1 : sta0 Z (.int cp)) (hcs : ¬ (cp = (0 : Int32))) (hlo : ¬ ((255 : Int32) < q)) :
    MF l Z m_4 jdk_42_method_139_code 1 (some (.object "java/lang/String")) ws (oR 2 2 5 27) #[(.int q)] h0 (Q_valueC Z q cp h0 n0) := by
  refine own_body (cls := "java/lang/String") (plainFor_of_name pn_1) rfl (fun p e s m below meth c s₁ hx hby hml hown hnm hret hZ X0 e0 => ?_)
  have N0 := Fr.nil n0
  have K0 := Keep.refl h0 []
  obtain ⟨T1, X1, e1, st1⟩ := getS2 X0 hx hZ hown (host := "") (Or.inl (w_4 hw)) Via.refl e0 (P1.ext P0.2) (g := (mkF m 0 #[vI q] [])) rfl (hb hby d23)
  obtain ⟨_, _, ⟨T2, L2, k2, n2⟩, -, X2, ⟨Lc2, hQ2, l2, y2, z2⟩, st2⟩ := Jvm.LawKit.callS X1 hx (y := m_0) hown (mvT hZ (w_5 hw)) (mvT hZ (w_6 hw)) (mvT hZ (w_7 hw)) (mvT hZ (w_8 hw)) (by decide) (backOf (W := 0) (rm_canEnc l Z a0 hw [] q h0 n0 (by omega) hlo) hZ (w_8 hw) (w_7 hw) (by decide) (by decide)) (g := (mkF m 7 #[vI q] [(.int q)])) rfl (by rw [hml]; rfl) (argsL := [(.int q)]) (rest := []) (lenOf pd_0 rfl) rfl (Nat.le_of_eq rfl) (hb hby d26) (fun _ _ => ⟨rfl, e1, (by decide : 0 + 0 ≤ _), (by decide : 0 + 0 ≤ _)⟩)
  dsimp only [Pt.U, Pt.locs, Pt.cells, Pt.slots] at X2 l2 y2 z2 st2 hQ2
  rw [l2, y2, z2] at X2
  obtain ⟨rfl, Nq2, Kq2⟩ := hQ2
  have N2 := Fr.app N0 Nq2
  obtain ⟨T3, h3, X3, e3, E3, A3, D3, -, st3⟩ := newO X2 hx hZ hown (w_9 hw) (w_10 hw) (w_2 hw) Kq2 (g := (mkF m 13 #[vI q] [])) rfl (hb hby d28) (by decide) (by decide)
  obtain ⟨b3, g3⟩ : ∃ z, z = h0.size := ⟨_, rfl⟩
  rw [← g3] at A3 D3 st3
  have z3 := E3.1
  have K3 := K0.ext E3
  have lt4 := own_l A3.lt
  have F3_23 : Fld Z h3 b3 "java/lang/String" "value" "[B" .null := D3 (Or.inr (w_23 hw)) (ty := (.array .byte)) (by decide)
  have F3_25 : Fld Z h3 b3 "java/lang/String" "coder" "B" (.int 0) := D3 (Or.inr (w_25 hw)) (ty := .byte) (by decide)
  obtain ⟨_, _, ⟨T5, L5, k5, n5⟩, -, X5, ⟨Lc5, hQ5, l5, y5, z5⟩, st5⟩ := Jvm.LawKit.callS X3 hx (y := m_1) hown (mvT hZ (w_11 hw)) (mvT hZ (w_12 hw)) (mvT hZ (w_7 hw)) (mvT hZ (w_13 hw)) (by decide) (backOf (W := 2) (rm_toB l Z a0 hw [] q h3 n0 (by omega) ) hZ (w_13 hw) (w_7 hw) (by decide) (by decide)) (g := (mkF m 18 #[vI q] [(.int q), (.ref b3), (.ref b3)])) rfl (by rw [hml]; rfl) (argsL := [(.int q)]) (rest := [(.ref b3), (.ref b3)]) (lenOf pd_1 rfl) rfl (Nat.le_of_eq rfl) (hb hby d31) (fun _ _ => ⟨rfl, e3, (by decide : 1 + 1 ≤ _), (by decide : 4 + 1 ≤ _)⟩)
  dsimp only [Pt.U, Pt.locs, Pt.cells, Pt.slots] at X5 l5 y5 z5 st5 hQ5
  rw [l5, y5, z5] at X5
  obtain ⟨x5_b, x5_k, rfl, Nq5, Kq5, r5_0, r5_1⟩ := hQ5
  have N5 := Fr.app N2 Nq5
  have z5' := Kq5.1
  have K5 := K3.trans Kq5 all0
  have lt6 := own_l r5_1.lt
  have f8 := A3.keep Kq5
  have f9 := F3_23.keep Kq5 nin0
  have f10 := F3_25.keep Kq5 nin0
  obtain ⟨_, _, ⟨T7, L7, k7, n7⟩, -, X7, ⟨Lc7, hQ7, l7, y7, z7⟩, st7⟩ := X5.specialBack hx (y := m_3) rfl hown (mvT hZ (w_15 hw)) (mvT hZ (w_16 hw)) (mvT hZ (w_18 hw)) (by decide) (backOf (W := 1) (rm_sbinit l Z a0 hw [] b3 x5_b (.null) ((0 : Int32)) T5.heap n0 (by omega) f8 f9 f10 (by omega)) hZ (w_18 hw) (w_2 hw) (by decide) (by decide)) (g := (mkF m 22 #[vI q] [(.int 0), (.ref x5_b), (.ref b3), (.ref b3)])) rfl (by rw [hml]; rfl) (Steps.refl _) (a := b3) (argsL := [(.ref x5_b), (.int 0)]) (rest := [(.ref b3)]) (lenOf pd_2 rfl) rfl (Nat.le_of_eq rfl) (hb hby d33) (fun _ _ => ⟨rfl, rfl, (by decide : 2 + 0 ≤ _), (by decide : 5 + 0 ≤ _)⟩)
  dsimp only [Pt.U, Pt.locs, Pt.cells, Pt.slots] at X7 l7 y7 z7 st7 hQ7
  rw [l7, y7, z7] at X7
  obtain ⟨rfl, Nq7, Kq7, r7_0⟩ := hQ7
  have N7 := Fr.app N5 Nq7
  have z7' := Kq7.1
  have K7 := K5.trans Kq7 (allS (Or.inr (by omega)) all0)
  have lt11 := own_l r7_0.lt
  refine ⟨_, _, _, _, some (.ref b3), X7, by decide, by decide, nofun, ?_, fun fs hr => castTop (ef_0 m q) ?_⟩
  · show Q_valueC Z q cp h0 n0 _ T7.heap _
    exact ⟨b3, rfl, N7, K7, (by omega), r7_0⟩
  · show Steps _ _ _ (s₁.setTop (mkF m 0 #[vI q] [])) _
    refine st1 _ ?_
    show Steps _ _ _ (T1.setTop (mkF m 3 #[vI q] [(.int cp)])) _
    refine XS.ifNo X1.here hx rfl (hb hby d24) rfl ((if0 _ _).trans (feq (hcs : ¬ (cp = (0 : Int32)))).1) ?_
    refine XS.iloadN X1.here hx rfl (hb hby d25) rfl ?_
    refine st2 _ ?_
    show Steps _ _ _ (T2.setTop (mkF m 10 #[vI q] [(.int 1)])) _
    refine XS.ifNo X2.here hx rfl (hb hby d27) rfl ((if0 _ _).trans (feq ((by decide) : ¬ ((1 : Int32) = (0 : Int32)))).1) ?_
    refine st3 _ ?_
    show Steps _ _ _ (T3.setTop (mkF m 16 #[vI q] [(.ref b3)])) _
    refine XS.dup X3.here hx rfl (hb hby d29) rfl rfl ?_
    refine XS.iloadN X3.here hx rfl (hb hby d30) rfl ?_
    refine st5 _ ?_
    show Steps _ _ _ (T5.setTop (mkF m 21 #[vI q] [(.ref x5_b), (.ref b3), (.ref b3)])) _
    refine XS.iconst X5.here hx rfl (hb hby d32) ?_
    refine st7.trans ?_
    show Steps _ _ _ (T7.setTop (mkF m 25 #[vI q] [(.ref b3)])) _
    exact retOut X7 hx hret (own_narrow_ref rfl) (Or.inr (Or.inr (Or.inr (Or.inr ⟨rfl, rfl, rfl⟩)))) (hb hby d34) hr
theorem d35 : decode jdk_22_method_1_code 0 = .ok (.aload_n 0, 1) := by decide +kernel
theorem w_44 {Z : State} {a0 : Array Value} (hw : HW Z a0) : (Jvm.Cond.methodLink "java/util/AbstractCollection" (1 : Nat) m_2).before a0 Z = true := hw _ (List.mem_of_getElem? (i := 44) rfl)
theorem d36 : decode jdk_22_method_1_code 1 = .ok (.invokespecial 1, 3) := by decide +kernel
theorem d37 : decode jdk_22_method_1_code 4 = .ok (.return_, 1) := by decide +kernel
theorem pn_2 : plainName "java/util/AbstractCollection" = true := by first | (simp [plainName, overriddenIn]; done) | decide +kernel
theorem ef_2 (m : MethodId) (x0 : Addr) : entryFrame m #[(.ref x0)] 1 = mkF m 0 #[vA x0] [] := by first | (simp [entryFrame, mkF, argsToLocals, Value.category, maxLocals]; done) | rfl
abbrev m_5 : MethodName := (⟨"java/util/AbstractCollection", "<init>", "()V"⟩ : MethodName)
def Q_aci (Z : State) (a_ : Addr) (h0 : Heap) (n0 : Nat) (v : Option Value) (h : Heap) (L : List Loc) : Prop := (v = none) ∧ (Fr n0 L) ∧ (h = h0)
theorem rm_aci (l : Launch) (Z : State) (a0 : Array Value) (hw : HW Z a0) (ws : List Jvm.Cond) (a_ : Addr) (h0 : Heap) (n0 : Nat) (Z0 : n0 ≤ h0.size) :
    MF l Z m_5 jdk_22_method_1_code 1 none ws (oR 1 0 0 12) #[(.ref a_)] h0 (Q_aci Z a_ h0 n0) := by
  refine own_body (cls := "java/util/AbstractCollection") (plainFor_of_name pn_2) rfl (fun p e s m below meth c s₁ hx hby hml hown hnm hret hZ X0 e0 => ?_)
  have N0 := Fr.nil n0
  obtain ⟨T1, X1, e1, st1⟩ := initO X0 hx hZ hown (w_44 hw) (w_20 hw) (w_21 hw) e0 (g := (mkF m 1 #[vA a_] [(.ref a_)])) rfl (by rw [hml]; rfl) rfl (hb hby d36) (by decide) (W := 0) (Nat.le_of_eq rfl) (by decide)
  refine ⟨_, _, _, _, none, X1, by decide, by decide, fun _ => rfl, ?_, fun fs hr => castTop (ef_2 m a_) ?_⟩
  · show Q_aci Z a_ h0 n0 _ T1.heap _
    rw [(e1 : T1.heap = h0)]
    exact ⟨rfl, N0, rfl⟩
  · show Steps _ _ _ (s₁.setTop (mkF m 0 #[vA a_] [])) _
    refine XS.aloadN X0.here hx rfl (hb hby d35) rfl rfl ?_
    refine st1 _ ?_
    show Steps _ _ _ (T1.setTop (mkF m 4 #[vA a_] [])) _
    exact X1.returnOut hx hret (hb hby d37) hr
theorem d38 : decode jdk_39_method_1_code 0 = .ok (.aload_n 0, 1) := by decide +kernel
theorem w_38 {Z : State} {a0 : Array Value} (hw : HW Z a0) : (Jvm.Cond.methodLink "java/util/AbstractList" (1 : Nat) m_5).before a0 Z = true := hw _ (List.mem_of_getElem? (i := 38) rfl)
theorem w_43 {Z : State} {a0 : Array Value} (hw : HW Z a0) : (Jvm.Cond.code m_5 jdk_22_method_1_code (1 : Nat) (Option.none : Option Jvm.ClassFile.FieldType)).before a0 Z = true := hw _ (List.mem_of_getElem? (i := 43) rfl)
theorem w_42 {Z : State} {a0 : Array Value} (hw : HW Z a0) : (Jvm.Cond.initialized "java/util/AbstractCollection").before a0 Z = true := hw _ (List.mem_of_getElem? (i := 42) rfl)
theorem pd_3 : parseMethodDescriptor "()V" = some ⟨[], none⟩ := by decide +kernel
theorem d39 : decode jdk_39_method_1_code 1 = .ok (.invokespecial 1, 3) := by decide +kernel
theorem w_39 {Z : State} {a0 : Array Value} (hw : HW Z a0) : (Jvm.Cond.instanceMethod m_5).before a0 Z = true := hw _ (List.mem_of_getElem? (i := 39) rfl)
theorem d40 : decode jdk_39_method_1_code 4 = .ok (.aload_n 0, 1) := by decide +kernel
theorem d41 : decode jdk_39_method_1_code 5 = .ok (.iconst 0, 1) := by decide +kernel
theorem w_45 {Z : State} {a0 : Array Value} (hw : HW Z a0) : (Jvm.Cond.fieldLink "java/util/AbstractList" (7 : Nat) "java/util/AbstractList" "modCount" "I").before a0 Z = true := hw _ (List.mem_of_getElem? (i := 45) rfl)
theorem w_46 {Z : State} {a0 : Array Value} (hw : HW Z a0) : (Jvm.Cond.lays "java/util/ArrayList" "java/util/AbstractList" "modCount" "I").before a0 Z = true := hw _ (List.mem_of_getElem? (i := 46) rfl)
theorem w_27 {Z : State} {a0 : Array Value} (hw : HW Z a0) : (Jvm.Cond.instantiable "java/util/ArrayList" (3 : Nat)).before a0 Z = true := hw _ (List.mem_of_getElem? (i := 27) rfl)
theorem d42 : decode jdk_39_method_1_code 6 = .ok (.putfield 7, 3) := by decide +kernel
theorem d43 : decode jdk_39_method_1_code 9 = .ok (.return_, 1) := by decide +kernel
theorem w_62 {Z : State} {a0 : Array Value} (hw : HW Z a0) : (Jvm.Cond.lays "java/util/ArrayList" "java/util/ArrayList" "size" "I").before a0 Z = true := hw _ (List.mem_of_getElem? (i := 62) rfl)
theorem w_49 {Z : State} {a0 : Array Value} (hw : HW Z a0) : (Jvm.Cond.lays "java/util/ArrayList" "java/util/ArrayList" "elementData" "[Ljava/lang/Object;").before a0 Z = true := hw _ (List.mem_of_getElem? (i := 49) rfl)
theorem pn_3 : plainName "java/util/AbstractList" = true := by first | (simp [plainName, overriddenIn]; done) | decide +kernel
abbrev m_6 : MethodName := (⟨"java/util/AbstractList", "<init>", "()V"⟩ : MethodName)
def Q_abl (Z : State) (a_ : Addr) (h0 : Heap) (n0 : Nat) (v : Option Value) (h : Heap) (L : List Loc) : Prop := (v = none) ∧ (Fr n0 L) ∧ (Keep h0 h [a_]) ∧ (Exa Z h a_ "java/util/ArrayList") ∧ (fld4 Z h a_ (.int 0)) ∧ (fld2 Z h a_ (.int 0)) ∧ (fld3 Z h a_ .null)
theorem rm_abl (l : Launch) (Z : State) (a0 : Array Value) (hw : HW Z a0) (ws : List Jvm.Cond) (a_ : Addr) (h0 : Heap) (n0 : Nat) (Z0 : n0 ≤ h0.size) (P0 : Exa Z h0 a_ "java/util/ArrayList") (P1 : fld4 Z h0 a_ (.int 0)) (P2 : fld2 Z h0 a_ (.int 0)) (P3 : fld3 Z h0 a_ .null) (P4 : n0 ≤ a_) :
    MF l Z m_6 jdk_39_method_1_code 1 none ws (oR 2 0 0 24) #[(.ref a_)] h0 (Q_abl Z a_ h0 n0) := by
  refine own_body (cls := "java/util/AbstractList") (plainFor_of_name pn_3) rfl (fun p e s m below meth c s₁ hx hby hml hown hnm hret hZ X0 e0 => ?_)
  have N0 := Fr.nil n0
  have K0 := Keep.refl h0 [a_]
  have lt1 := own_l P0.lt
  have lt2 := own_l P1.lt
  have lt3 := own_l P2.lt
  have lt4 := own_l P3.lt
  obtain ⟨_, _, ⟨T5, L5, k5, n5⟩, -, X5, ⟨Lc5, hQ5, l5, y5, z5⟩, st5⟩ := X0.specialBack hx (y := m_5) rfl hown (mvT hZ (w_38 hw)) (mvT hZ (w_39 hw)) (mvT hZ (w_43 hw)) (by decide) (backOf (W := 0) (rm_aci l Z a0 hw [] a_ h0 n0 (by omega) ) hZ (w_43 hw) (w_42 hw) (by decide) (by decide)) (g := (mkF m 1 #[vA a_] [(.ref a_)])) rfl (by rw [hml]; rfl) (Steps.refl _) (a := a_) (argsL := []) (rest := []) (lenOf pd_3 rfl) rfl (Nat.le_of_eq rfl) (hb hby d39) (fun _ _ => ⟨rfl, e0, (by decide : 0 + 0 ≤ _), (by decide : 0 + 0 ≤ _)⟩)
  dsimp only [Pt.U, Pt.locs, Pt.cells, Pt.slots] at X5 l5 y5 z5 st5 hQ5
  rw [l5, y5, z5] at X5
  obtain ⟨rfl, Nq5, Kq5⟩ := hQ5
  have N5 := Fr.app N0 Nq5
  obtain ⟨T6, h6, X6, e6, W6, st6⟩ := putF X5 hx hZ hown (host := "") (Or.inl (w_45 hw)) Via.refl Kq5 P1 P0 (Or.inl (w_46 hw)) (w_27 hw) (ty := .int) (by decide) rfl rfl (g := (mkF m 6 #[vA a_] [(.int 0), (.ref a_)])) rfl rfl (hb hby d42)
  have F6 := P1.same W6
  have z6 := W6.size
  have K6 := K0.wr W6 (Or.inl (List.mem_of_getElem? (i := 0) rfl))
  have N6 := Fr.snoc X6 N5 (by omega)
  have f7 := P0.wr W6
  have f8 := P2.other W6 (Or.inr (slot_ne (a0 := a0) (t := .int) (t' := .int) (Or.inl (w_62 hw)) (Or.inl (w_46 hw)) (by decide) (by decide) (by decide)))
  have f9 := P3.other W6 (Or.inr (slot_ne (a0 := a0) (t := (.array (.object "java/lang/Object"))) (t' := .int) (Or.inl (w_49 hw)) (Or.inl (w_46 hw)) (by decide) (by decide) (by decide)))
  refine ⟨_, _, _, _, none, X6, by decide, by decide, fun _ => rfl, ?_, fun fs hr => castTop (ef_2 m a_) ?_⟩
  · show Q_abl Z a_ h0 n0 _ T6.heap _
    rw [(e6 : T6.heap = h6)]
    exact ⟨rfl, N6, K6, f7, F6, f8, f9⟩
  · show Steps _ _ _ (s₁.setTop (mkF m 0 #[vA a_] [])) _
    refine XS.aloadN X0.here hx rfl (hb hby d38) rfl rfl ?_
    refine st5.trans ?_
    show Steps _ _ _ (T5.setTop (mkF m 4 #[vA a_] [])) _
    refine XS.aloadN X5.here hx rfl (hb hby d40) rfl rfl ?_
    refine XS.iconst X5.here hx rfl (hb hby d41) ?_
    refine st6 _ ?_
    show Steps _ _ _ (T6.setTop (mkF m 9 #[vA a_] [])) _
    exact X6.returnOut hx hret (hb hby d43) hr
theorem d44 : decode jdk_38_method_2_code 0 = .ok (.aload_n 0, 1) := by decide +kernel
theorem w_32 {Z : State} {a0 : Array Value} (hw : HW Z a0) : (Jvm.Cond.methodLink "java/util/ArrayList" (1 : Nat) m_6).before a0 Z = true := hw _ (List.mem_of_getElem? (i := 32) rfl)
theorem w_37 {Z : State} {a0 : Array Value} (hw : HW Z a0) : (Jvm.Cond.code m_6 jdk_39_method_1_code (1 : Nat) (Option.none : Option Jvm.ClassFile.FieldType)).before a0 Z = true := hw _ (List.mem_of_getElem? (i := 37) rfl)
theorem w_36 {Z : State} {a0 : Array Value} (hw : HW Z a0) : (Jvm.Cond.initialized "java/util/AbstractList").before a0 Z = true := hw _ (List.mem_of_getElem? (i := 36) rfl)
theorem d45 : decode jdk_38_method_2_code 1 = .ok (.invokespecial 1, 3) := by decide +kernel
theorem w_33 {Z : State} {a0 : Array Value} (hw : HW Z a0) : (Jvm.Cond.instanceMethod m_6).before a0 Z = true := hw _ (List.mem_of_getElem? (i := 33) rfl)
theorem d46 : decode jdk_38_method_2_code 4 = .ok (.aload_n 0, 1) := by decide +kernel
theorem w_47 {Z : State} {a0 : Array Value} (hw : HW Z a0) : (Jvm.Cond.fieldLink "java/util/ArrayList" (39 : Nat) "java/util/ArrayList" "DEFAULTCAPACITY_EMPTY_ELEMENTDATA" "[Ljava/lang/Object;").before a0 Z = true := hw _ (List.mem_of_getElem? (i := 47) rfl)
theorem d47 : decode jdk_38_method_2_code 5 = .ok (.getstatic 39, 3) := by decide +kernel
theorem w_48 {Z : State} {a0 : Array Value} (hw : HW Z a0) : (Jvm.Cond.fieldLink "java/util/ArrayList" (9 : Nat) "java/util/ArrayList" "elementData" "[Ljava/lang/Object;").before a0 Z = true := hw _ (List.mem_of_getElem? (i := 48) rfl)
theorem d48 : decode jdk_38_method_2_code 8 = .ok (.putfield 9, 3) := by decide +kernel
theorem d49 : decode jdk_38_method_2_code 11 = .ok (.return_, 1) := by decide +kernel
theorem pn_4 : plainName "java/util/ArrayList" = true := by first | (simp [plainName, overriddenIn]; done) | decide +kernel
abbrev m_7 : MethodName := (⟨"java/util/ArrayList", "<init>", "()V"⟩ : MethodName)
def Q_ali (Z : State) (a_ : Addr) (dc : Addr) (h0 : Heap) (n0 : Nat) (v : Option Value) (h : Heap) (L : List Loc) : Prop := (v = none) ∧ (Fr n0 L) ∧ (Keep h0 h [a_]) ∧ (Exa Z h a_ "java/util/ArrayList") ∧ (fld4 Z h a_ (.int 0)) ∧ (fld2 Z h a_ (.int 0)) ∧ (fld3 Z h a_ (.ref dc))
theorem rm_ali (l : Launch) (Z : State) (a0 : Array Value) (hw : HW Z a0) (ws : List Jvm.Cond) (a_ : Addr) (dc : Addr) (h0 : Heap) (n0 : Nat) (Z0 : n0 ≤ h0.size) (P0 : Old Z n0 h0) (P1 : sta1 Z (.ref dc)) (P2 : Exa Z h0 a_ "java/util/ArrayList") (P3 : fld4 Z h0 a_ (.int 0)) (P4 : fld2 Z h0 a_ (.int 0)) (P5 : fld3 Z h0 a_ .null) (P6 : n0 ≤ a_) :
    MF l Z m_7 jdk_38_method_2_code 1 none ws (oR 3 0 0 36) #[(.ref a_)] h0 (Q_ali Z a_ dc h0 n0) := by
  refine own_body (cls := "java/util/ArrayList") (plainFor_of_name pn_4) rfl (fun p e s m below meth c s₁ hx hby hml hown hnm hret hZ X0 e0 => ?_)
  have N0 := Fr.nil n0
  have K0 := Keep.refl h0 [a_]
  have lt1 := own_l P2.lt
  have lt2 := own_l P3.lt
  have lt3 := own_l P4.lt
  have lt4 := own_l P5.lt
  obtain ⟨_, _, ⟨T5, L5, k5, n5⟩, -, X5, ⟨Lc5, hQ5, l5, y5, z5⟩, st5⟩ := X0.specialBack hx (y := m_6) rfl hown (mvT hZ (w_32 hw)) (mvT hZ (w_33 hw)) (mvT hZ (w_37 hw)) (by decide) (backOf (W := 0) (rm_abl l Z a0 hw [] a_ h0 n0 (by omega) P2 P3 P4 P5 (by omega)) hZ (w_37 hw) (w_36 hw) (by decide) (by decide)) (g := (mkF m 1 #[vA a_] [(.ref a_)])) rfl (by rw [hml]; rfl) (Steps.refl _) (a := a_) (argsL := []) (rest := []) (lenOf pd_3 rfl) rfl (Nat.le_of_eq rfl) (hb hby d45) (fun _ _ => ⟨rfl, e0, (by decide : 0 + 0 ≤ _), (by decide : 0 + 0 ≤ _)⟩)
  dsimp only [Pt.U, Pt.locs, Pt.cells, Pt.slots] at X5 l5 y5 z5 st5 hQ5
  rw [l5, y5, z5] at X5
  obtain ⟨rfl, Nq5, Kq5, r5_0, r5_1, r5_2, r5_3⟩ := hQ5
  have N5 := Fr.app N0 Nq5
  have z5' := Kq5.1
  have K5 := K0.trans Kq5 (allS (Or.inl (List.mem_of_getElem? (i := 0) rfl)) all0)
  have lt6 := own_l r5_0.lt
  have lt7 := own_l r5_1.lt
  have lt8 := own_l r5_2.lt
  have lt9 := own_l r5_3.lt
  have f11 := P0.keep Kq5 (allS (by omega) all0)
  obtain ⟨T10, X10, e10, st10⟩ := getS2 X5 hx hZ hown (host := "") (Or.inl (w_47 hw)) Via.refl rfl (P1.ext f11.2) (g := (mkF m 5 #[vA a_] [(.ref a_)])) rfl (hb hby d47)
  obtain ⟨T12, h12, X12, e12, W12, st12⟩ := putF X10 hx hZ hown (host := "") (Or.inl (w_48 hw)) Via.refl e10 r5_3 r5_0 (Or.inl (w_49 hw)) (w_27 hw) (ty := (.array (.object "java/lang/Object"))) (by decide) rfl rfl (g := (mkF m 8 #[vA a_] [(.ref dc), (.ref a_)])) rfl rfl (hb hby d48)
  have F12 := r5_3.same W12
  have z12 := W12.size
  have K12 := K5.wr W12 (Or.inl (List.mem_of_getElem? (i := 0) rfl))
  have N12 := Fr.snoc X12 N5 (by omega)
  have f13 := r5_0.wr W12
  have f14 := r5_1.other W12 (Or.inr (slot_ne (a0 := a0) (t := .int) (t' := (.array (.object "java/lang/Object"))) (Or.inl (w_46 hw)) (Or.inl (w_49 hw)) (by decide) (by decide) (by decide)))
  have f15 := r5_2.other W12 (Or.inr (slot_ne (a0 := a0) (t := .int) (t' := (.array (.object "java/lang/Object"))) (Or.inl (w_62 hw)) (Or.inl (w_49 hw)) (by decide) (by decide) (by decide)))
  refine ⟨_, _, _, _, none, X12, by decide, by decide, fun _ => rfl, ?_, fun fs hr => castTop (ef_2 m a_) ?_⟩
  · show Q_ali Z a_ dc h0 n0 _ T12.heap _
    rw [(e12 : T12.heap = h12)]
    exact ⟨rfl, N12, K12, f13, f14, f15, F12⟩
  · show Steps _ _ _ (s₁.setTop (mkF m 0 #[vA a_] [])) _
    refine XS.aloadN X0.here hx rfl (hb hby d44) rfl rfl ?_
    refine st5.trans ?_
    show Steps _ _ _ (T5.setTop (mkF m 4 #[vA a_] [])) _
    refine XS.aloadN X5.here hx rfl (hb hby d46) rfl rfl ?_
    refine st10 _ ?_
    show Steps _ _ _ (T10.setTop (mkF m 8 #[vA a_] [(.ref dc), (.ref a_)])) _
    refine st12 _ ?_
    show Steps _ _ _ (T12.setTop (mkF m 11 #[vA a_] [])) _
    exact X12.returnOut hx hret (hb hby d49) hr
theorem d50 : decode jdk_29_method_65_code 0 = .ok (.iload_n 0, 1) := by decide +kernel
theorem d51 : decode jdk_29_method_65_code 1 = .ok (.iload_n 1, 1) := by decide +kernel
theorem d52 : decode jdk_29_method_65_code 2 = .ok (.if_icmp .lt 7, 3) := by decide +kernel
theorem d53 : decode jdk_29_method_65_code 5 = .ok (.iload_n 0, 1) := by decide +kernel
theorem d54 : decode jdk_29_method_65_code 6 = .ok (.goto 4, 3) := by decide +kernel
theorem d55 : decode jdk_29_method_65_code 10 = .ok (.ireturn, 1) := by decide +kernel
theorem pn_5 : plainFor (⟨"java/lang/Math", "max", "(II)I"⟩ : MethodName) = true := by first | (simp [plainFor, overriddenIn]; done) | decide +kernel
theorem ef_3 (m : MethodId) (x0 : Int32) (x1 : Int32) : entryFrame m #[(.int x0), (.int x1)] 2 = mkF m 0 #[vI x0, vI x1] [] := by first | (simp [entryFrame, mkF, argsToLocals, Value.category, maxLocals]; done) | rfl
abbrev m_8 : MethodName := (⟨"java/lang/Math", "max", "(II)I"⟩ : MethodName)
def Q_max10 (Z : State) (h0 : Heap) (n0 : Nat) (v : Option Value) (h : Heap) (L : List Loc) : Prop := (v = some (.int 10)) ∧ (Fr n0 L) ∧ (h = h0)
theorem rm_max10 (l : Launch) (Z : State) (a0 : Array Value) (hw : HW Z a0) (ws : List Jvm.Cond) (h0 : Heap) (n0 : Nat) (Z0 : n0 ≤ h0.size) :
    MF l Z m_8 jdk_29_method_65_code 2 (some .int) ws (oR 0 0 0 0) #[(.int 10), (.int 1)] h0 (Q_max10 Z  h0 n0) := by
  refine own_body (cls := "java/lang/Math") pn_5 rfl (fun p e s m below meth c s₁ hx hby hml hown hnm hret hZ X0 e0 => ?_)
  have N0 := Fr.nil n0
  refine ⟨_, _, _, _, some (.int 10), X0, by decide, by decide, nofun, ?_, fun fs hr => castTop (ef_3 m (10 : Int32) (1 : Int32)) ?_⟩
  · show Q_max10 Z  h0 n0 _ s₁.heap _
    rw [(e0 : s₁.heap = h0)]
    exact ⟨rfl, N0, rfl⟩
  · show Steps _ _ _ (s₁.setTop (mkF m 0 #[vI 10, vI 1] [])) _
    refine XS.iloadN X0.here hx rfl (hb hby d50) rfl ?_
    refine XS.iloadN X0.here hx rfl (hb hby d51) rfl ?_
    refine XS.icmpNo X0.here hx rfl (hb hby d52) rfl (flt ((by decide) : ¬ ((10 : Int32) < (1 : Int32)))).1 ?_
    refine XS.iloadN X0.here hx rfl (hb hby d53) rfl ?_
    refine XS.goto X0.here hx rfl (pc0 := 6) (pc' := 10) rfl (hb hby d54) (by decide) (by decide) ?_
    exact retI X0 hx hret (hb hby d55) hr
theorem d56 : decode jdk_38_method_6_code 0 = .ok (.aload_n 0, 1) := by decide +kernel
theorem d57 : decode jdk_38_method_6_code 1 = .ok (.getfield 9, 3) := by decide +kernel
theorem d58 : decode jdk_38_method_6_code 4 = .ok (.arraylength, 1) := by decide +kernel
theorem d59 : decode jdk_38_method_6_code 5 = .ok (.istore_n 2, 1) := by decide +kernel
theorem d60 : decode jdk_38_method_6_code 6 = .ok (.iload_n 2, 1) := by decide +kernel
theorem d61 : decode jdk_38_method_6_code 7 = .ok (.ifCond .gt 13, 3) := by decide +kernel
theorem d62 : decode jdk_38_method_6_code 10 = .ok (.aload_n 0, 1) := by decide +kernel
theorem d63 : decode jdk_38_method_6_code 11 = .ok (.getfield 9, 3) := by decide +kernel
theorem d64 : decode jdk_38_method_6_code 14 = .ok (.getstatic 39, 3) := by decide +kernel
theorem d65 : decode jdk_38_method_6_code 17 = .ok (.if_acmp .eq 28, 3) := by decide +kernel
theorem d66 : decode jdk_38_method_6_code 45 = .ok (.aload_n 0, 1) := by decide +kernel
theorem d67 : decode jdk_38_method_6_code 46 = .ok (.bipush 10, 2) := by decide +kernel
theorem d68 : decode jdk_38_method_6_code 48 = .ok (.iload_n 1, 1) := by decide +kernel
theorem w_78 {Z : State} {a0 : Array Value} (hw : HW Z a0) : (Jvm.Cond.methodLink "java/util/ArrayList" (79 : Nat) m_8).before a0 Z = true := hw _ (List.mem_of_getElem? (i := 78) rfl)
theorem w_81 {Z : State} {a0 : Array Value} (hw : HW Z a0) : (Jvm.Cond.code m_8 jdk_29_method_65_code (2 : Nat) (Option.some FieldType.int)).before a0 Z = true := hw _ (List.mem_of_getElem? (i := 81) rfl)
theorem w_80 {Z : State} {a0 : Array Value} (hw : HW Z a0) : (Jvm.Cond.initialized "java/lang/Math").before a0 Z = true := hw _ (List.mem_of_getElem? (i := 80) rfl)
theorem pd_4 : parseMethodDescriptor "(II)I" = some ⟨[.int, .int], some .int⟩ := by decide +kernel
theorem d69 : decode jdk_38_method_6_code 49 = .ok (.invokestatic 79, 3) := by decide +kernel
theorem w_79 {Z : State} {a0 : Array Value} (hw : HW Z a0) : (Jvm.Cond.static m_8).before a0 Z = true := hw _ (List.mem_of_getElem? (i := 79) rfl)
theorem w_82 {Z : State} {a0 : Array Value} (hw : HW Z a0) : (Jvm.Cond.classLink "java/util/ArrayList" (7 : Nat) "java/lang/Object").before a0 Z = true := hw _ (List.mem_of_getElem? (i := 82) rfl)
theorem w_83 {Z : State} {a0 : Array Value} (hw : HW Z a0) : (Jvm.Cond.arrayOver (FieldType.object "java/lang/Object")).before a0 Z = true := hw _ (List.mem_of_getElem? (i := 83) rfl)
theorem d70 : decode jdk_38_method_6_code 52 = .ok (.anewarray 7, 3) := by decide +kernel
theorem d71 : decode jdk_38_method_6_code 55 = .ok (.dup_x1, 1) := by decide +kernel
theorem d72 : decode jdk_38_method_6_code 56 = .ok (.putfield 9, 3) := by decide +kernel
theorem d73 : decode jdk_38_method_6_code 59 = .ok (.areturn, 1) := by decide +kernel
theorem ef_4 (m : MethodId) (x0 : Addr) (x1 : Int32) : entryFrame m #[(.ref x0), (.int x1)] 4 = mkF m 0 #[vA x0, vI x1, .unset, .unset] [] := by first | (simp [entryFrame, mkF, argsToLocals, Value.category, maxLocals]; done) | rfl
abbrev m_9 : MethodName := (⟨"java/util/ArrayList", "grow", "(I)[Ljava/lang/Object;"⟩ : MethodName)
def Q_growI (Z : State) (a_ : Addr) (mc : Int32) (dc : Addr) (kd : ClassId) (h0 : Heap) (n0 : Nat) (v : Option Value) (h : Heap) (L : List Loc) : Prop := ∃ (b : Addr) (k : ClassId), (v = some (.ref b)) ∧ (Fr n0 L) ∧ (Keep h0 h [a_]) ∧ (h0.size ≤ b) ∧ (Exa Z h a_ "java/util/ArrayList") ∧ (fld4 Z h a_ (.int mc)) ∧ (fld2 Z h a_ (.int 0)) ∧ (fld3 Z h a_ (.ref b)) ∧ (Exa Z h b "[Ljava/lang/Object;") ∧ (Ovr Z k "java/lang/Object") ∧ (Arv Z h b k (.object "java/lang/Object") (10 : Int32) [.null, .null, .null, .null, .null, .null, .null, .null, .null, .null] .null)
theorem rm_growI (l : Launch) (Z : State) (a0 : Array Value) (hw : HW Z a0) (ws : List Jvm.Cond) (a_ : Addr) (mc : Int32) (dc : Addr) (kd : ClassId) (h0 : Heap) (n0 : Nat) (Z0 : n0 ≤ h0.size) (P0 : Old Z n0 h0) (P1 : sta1 Z (.ref dc)) (P2 : Exa Z h0 a_ "java/util/ArrayList") (P3 : fld4 Z h0 a_ (.int mc)) (P4 : fld2 Z h0 a_ (.int 0)) (P5 : fld3 Z h0 a_ (.ref dc)) (P6 : Arv Z h0 dc kd (.object "java/lang/Object") (0 : Int32) [] .null) (P7 : n0 ≤ a_) (P8 : a_ ≠ dc) :
    MF l Z m_9 jdk_38_method_6_code 4 (some (.array (.object "java/lang/Object"))) ws (oR 1 1 10 14) #[(.ref a_), (.int 1)] h0 (Q_growI Z a_ mc dc kd h0 n0) := by
  refine own_body (cls := "java/util/ArrayList") (plainFor_of_name pn_4) rfl (fun p e s m below meth c s₁ hx hby hml hown hnm hret hZ X0 e0 => ?_)
  have N0 := Fr.nil n0
  have K0 := Keep.refl h0 [a_]
  have lt1 := own_l P2.lt
  have lt2 := own_l P3.lt
  have lt3 := own_l P4.lt
  have lt4 := own_l P5.lt
  have lt5 := own_l P6.lt
  obtain ⟨T6, X6, e6, st6⟩ := getF X0 hx hZ hown (host := "") (Or.inl (w_48 hw)) Via.refl e0 P5 (g := (mkF m 1 #[vA a_, vI 1, .unset, .unset] [(.ref a_)])) rfl rfl (hb hby d57)
  obtain ⟨cl7, Ar7, q7, S7, M7, H7, G7⟩ := id P6
  obtain ⟨T8, X8, e8, st8⟩ := getF X6 hx hZ hown (host := "") (Or.inl (w_48 hw)) Via.refl e6 P5 (g := (mkF m 11 #[vA a_, vI 1, vI 0, .unset] [(.ref a_)])) rfl rfl (hb hby d63)
  obtain ⟨T9, X9, e9, st9⟩ := getS2 X8 hx hZ hown (host := "") (Or.inl (w_47 hw)) Via.refl e8 (P1.ext P0.2) (g := (mkF m 14 #[vA a_, vI 1, vI 0, .unset] [(.ref dc)])) rfl (hb hby d64)
  obtain ⟨_, _, ⟨T10, L10, k10, n10⟩, -, X10, ⟨Lc10, hQ10, l10, y10, z10⟩, st10⟩ := Jvm.LawKit.callS X9 hx (y := m_8) hown (mvT hZ (w_78 hw)) (mvT hZ (w_79 hw)) (mvT hZ (w_80 hw)) (mvT hZ (w_81 hw)) (by decide) (backOf (W := 1) (rm_max10 l Z a0 hw []  h0 n0 (by omega) ) hZ (w_81 hw) (w_80 hw) (by decide) (by decide)) (g := (mkF m 49 #[vA a_, vI 1, vI 0, .unset] [(.int 1), (.int 10), (.ref a_)])) rfl (by rw [hml]; rfl) (argsL := [(.int 10), (.int 1)]) (rest := [(.ref a_)]) (lenOf pd_4 rfl) rfl (Nat.le_of_eq rfl) (hb hby d69) (fun _ _ => ⟨rfl, e9, (by decide : 0 + 0 ≤ _), (by decide : 0 + 0 ≤ _)⟩)
  dsimp only [Pt.U, Pt.locs, Pt.cells, Pt.slots] at X10 l10 y10 z10 st10 hQ10
  rw [l10, y10, z10] at X10
  obtain ⟨rfl, Nq10, Kq10⟩ := hQ10
  have N10 := Fr.app N0 Nq10
  obtain ⟨T11, h11, k11, X11, e11, E11, A11, AE11, O11, st11⟩ := newRE X10 hx hZ hown (w_82 hw) (w_83 hw) Kq10 (g := (mkF m 52 #[vA a_, vI 1, vI 0, .unset] [(.int 10), (.ref a_)])) rfl (hb hby d70) rfl (by decide) (cap := 10) (by decide) (by decide) (by decide) (by decide) (ad := "[Ljava/lang/Object;") (by decide)
  obtain ⟨b11, g11⟩ : ∃ z, z = h0.size := ⟨_, rfl⟩
  rw [← g11] at A11 AE11 st11
  have z11 := E11.1
  have K11 := K0.ext E11
  have V11 : Arv Z h11 b11 k11 (.object "java/lang/Object") (10 : Int32) [.null, .null, .null, .null, .null, .null, .null, .null, .null, .null] .null := (Arv.new A11 (by decide)).pad (pad_rep [] .null 10)
  have lt12 := own_l V11.lt
  have f14 := P5.ext E11
  have f15 := P2.ext E11
  obtain ⟨T13, h13, X13, e13, W13, st13⟩ := putF X11 hx hZ hown (host := "") (Or.inl (w_48 hw)) Via.refl e11 f14 f15 (Or.inl (w_49 hw)) (w_27 hw) (ty := (.array (.object "java/lang/Object"))) (by decide) rfl rfl (g := (mkF m 56 #[vA a_, vI 1, vI 0, .unset] [(.ref b11), (.ref a_), (.ref b11)])) rfl rfl (hb hby d72)
  have F13 := f14.same W13
  have z13 := W13.size
  have K13 := K11.wr W13 (Or.inl (List.mem_of_getElem? (i := 0) rfl))
  have N13 := Fr.snoc X13 N10 (by omega)
  have f16 := f15.wr W13
  have f17 := P3.ext E11
  have f18 := f17.other W13 (Or.inr (slot_ne (a0 := a0) (t := .int) (t' := (.array (.object "java/lang/Object"))) (Or.inl (w_46 hw)) (Or.inl (w_49 hw)) (by decide) (by decide) (by decide)))
  have f19 := P4.ext E11
  have f20 := f19.other W13 (Or.inr (slot_ne (a0 := a0) (t := .int) (t' := (.array (.object "java/lang/Object"))) (Or.inl (w_62 hw)) (Or.inl (w_49 hw)) (by decide) (by decide) (by decide)))
  have f21 := AE11.wr W13
  have f22 := V11.other W13 (own_ne (by omega))
  refine ⟨_, _, _, _, some (.ref b11), X13, by decide, by decide, nofun, ?_, fun fs hr => castTop (ef_4 m a_ (1 : Int32)) ?_⟩
  · show Q_growI Z a_ mc dc kd h0 n0 _ T13.heap _
    rw [(e13 : T13.heap = h13)]
    exact ⟨b11, k11, rfl, N13, K13, (by omega), f16, f18, f20, F13, f21, O11, f22⟩
  · show Steps _ _ _ (s₁.setTop (mkF m 0 #[vA a_, vI 1, .unset, .unset] [])) _
    refine XS.aloadN X0.here hx rfl (hb hby d56) rfl rfl ?_
    refine st6 _ ?_
    show Steps _ _ _ (T6.setTop (mkF m 4 #[vA a_, vI 1, .unset, .unset] [(.ref dc)])) _
    refine X6.arraylength hx (by rw [e6]; exact Ar7.1) (State.isArrayOf_alike hZ.alike Ar7.2.1) (g := (mkF m 4 #[vA a_, vI 1, .unset, .unset] [(.ref dc)])) rfl rfl (hb hby d58) _ ?_
    rw [len_of S7 M7]
    show Steps _ _ _ (T6.setTop (mkF m 5 #[vA a_, vI 1, .unset, .unset] [(.int 0)])) _
    refine XS.istoreN X6.here hx rfl (hb hby d59) rfl (l' := #[vA a_, vI 1, vI 0, .unset]) rfl ?_
    refine XS.iloadN X6.here hx rfl (hb hby d60) rfl ?_
    refine XS.ifNo X6.here hx rfl (hb hby d61) rfl ((if0 _ _).trans (flt ((by decide) : ¬ ((0 : Int32) < (0 : Int32)))).2.2.1) ?_
    refine XS.aloadN X6.here hx rfl (hb hby d62) rfl rfl ?_
    refine st8 _ ?_
    show Steps _ _ _ (T8.setTop (mkF m 14 #[vA a_, vI 1, vI 0, .unset] [(.ref dc)])) _
    refine st9 _ ?_
    show Steps _ _ _ (T9.setTop (mkF m 17 #[vA a_, vI 1, vI 0, .unset] [(.ref dc), (.ref dc)])) _
    refine Jvm.RoadKit.acmp (g := (mkF m 17 #[vA a_, vI 1, vI 0, .unset] [(.ref dc), (.ref dc)])) X9 hx rfl rfl rfl (pc0 := 17) (pc' := 45) (same := true) rfl (hb hby d65) rfl (decide_eq_true rfl) (by decide) (by decide) ?_
    show Steps _ _ _ (T9.setTop (mkF m 45 #[vA a_, vI 1, vI 0, .unset] [])) _
    refine XS.aloadN X9.here hx rfl (hb hby d66) rfl rfl ?_
    refine XS.bipush X9.here hx rfl (hb hby d67) ?_
    refine XS.iloadN X9.here hx rfl (hb hby d68) rfl ?_
    refine st10 _ ?_
    show Steps _ _ _ (T10.setTop (mkF m 52 #[vA a_, vI 1, vI 0, .unset] [(.int 10), (.ref a_)])) _
    refine st11 _ ?_
    show Steps _ _ _ (T11.setTop (mkF m 55 #[vA a_, vI 1, vI 0, .unset] [(.ref b11), (.ref a_)])) _
    refine XS.dupX1 X11.here hx rfl (hb hby d71) rfl rfl rfl ?_
    refine st13 _ ?_
    show Steps _ _ _ (T13.setTop (mkF m 59 #[vA a_, vI 1, vI 0, .unset] [(.ref b11)])) _
    exact retOut X13 hx hret (own_narrow_ref rfl) (Or.inr (Or.inr (Or.inr (Or.inr ⟨rfl, rfl, rfl⟩)))) (hb hby d73) hr
theorem d74 : decode jdk_38_method_7_code 0 = .ok (.aload_n 0, 1) := by decide +kernel
theorem d75 : decode jdk_38_method_7_code 1 = .ok (.aload_n 0, 1) := by decide +kernel
theorem w_61 {Z : State} {a0 : Array Value} (hw : HW Z a0) : (Jvm.Cond.fieldLink "java/util/ArrayList" (48 : Nat) "java/util/ArrayList" "size" "I").before a0 Z = true := hw _ (List.mem_of_getElem? (i := 61) rfl)
theorem d76 : decode jdk_38_method_7_code 2 = .ok (.getfield 48, 3) := by decide +kernel
theorem d77 : decode jdk_38_method_7_code 5 = .ok (.iconst 1, 1) := by decide +kernel
theorem d78 : decode jdk_38_method_7_code 6 = .ok (.iadd, 1) := by decide +kernel
theorem w_73 {Z : State} {a0 : Array Value} (hw : HW Z a0) : (Jvm.Cond.methodLink "java/util/ArrayList" (69 : Nat) m_9).before a0 Z = true := hw _ (List.mem_of_getElem? (i := 73) rfl)
theorem w_77 {Z : State} {a0 : Array Value} (hw : HW Z a0) : (Jvm.Cond.code m_9 jdk_38_method_6_code (4 : Nat) (Option.some (FieldType.array (FieldType.object "java/lang/Object")))).before a0 Z = true := hw _ (List.mem_of_getElem? (i := 77) rfl)
theorem w_28 {Z : State} {a0 : Array Value} (hw : HW Z a0) : (Jvm.Cond.initialized "java/util/ArrayList").before a0 Z = true := hw _ (List.mem_of_getElem? (i := 28) rfl)
theorem pd_5 : parseMethodDescriptor "(I)[Ljava/lang/Object;" = some ⟨[.int], some (.array (.object "java/lang/Object"))⟩ := by decide +kernel
theorem d79 : decode jdk_38_method_7_code 7 = .ok (.invokevirtual 69, 3) := by decide +kernel
theorem w_74 {Z : State} {a0 : Array Value} (hw : HW Z a0) : (Jvm.Cond.instanceMethod m_9).before a0 Z = true := hw _ (List.mem_of_getElem? (i := 74) rfl)
theorem w_76 {Z : State} {a0 : Array Value} (hw : HW Z a0) : (Jvm.Cond.selects "java/util/ArrayList" m_9 m_9).before a0 Z = true := hw _ (List.mem_of_getElem? (i := 76) rfl)
theorem w_75 {Z : State} {a0 : Array Value} (hw : HW Z a0) : (Jvm.Cond.privateMethod m_9).before a0 Z = true := hw _ (List.mem_of_getElem? (i := 75) rfl)
theorem d80 : decode jdk_38_method_7_code 10 = .ok (.areturn, 1) := by decide +kernel
abbrev m_10 : MethodName := (⟨"java/util/ArrayList", "grow", "()[Ljava/lang/Object;"⟩ : MethodName)
def Q_grow (Z : State) (a_ : Addr) (mc : Int32) (dc : Addr) (kd : ClassId) (h0 : Heap) (n0 : Nat) (v : Option Value) (h : Heap) (L : List Loc) : Prop := ∃ (b : Addr) (k : ClassId), (v = some (.ref b)) ∧ (Fr n0 L) ∧ (Keep h0 h [a_]) ∧ (h0.size ≤ b) ∧ (Exa Z h a_ "java/util/ArrayList") ∧ (fld4 Z h a_ (.int mc)) ∧ (fld2 Z h a_ (.int 0)) ∧ (fld3 Z h a_ (.ref b)) ∧ (Exa Z h b "[Ljava/lang/Object;") ∧ (Ovr Z k "java/lang/Object") ∧ (Arv Z h b k (.object "java/lang/Object") (10 : Int32) [.null, .null, .null, .null, .null, .null, .null, .null, .null, .null] .null)
theorem rm_grow (l : Launch) (Z : State) (a0 : Array Value) (hw : HW Z a0) (ws : List Jvm.Cond) (a_ : Addr) (mc : Int32) (dc : Addr) (kd : ClassId) (h0 : Heap) (n0 : Nat) (Z0 : n0 ≤ h0.size) (P0 : Old Z n0 h0) (P1 : sta1 Z (.ref dc)) (P2 : Exa Z h0 a_ "java/util/ArrayList") (P3 : fld4 Z h0 a_ (.int mc)) (P4 : fld2 Z h0 a_ (.int 0)) (P5 : fld3 Z h0 a_ (.ref dc)) (P6 : Arv Z h0 dc kd (.object "java/lang/Object") (0 : Int32) [] .null) (P7 : n0 ≤ a_) (P8 : a_ ≠ dc) :
    MF l Z m_10 jdk_38_method_7_code 1 (some (.array (.object "java/lang/Object"))) ws (oR 2 1 10 29) #[(.ref a_)] h0 (Q_grow Z a_ mc dc kd h0 n0) := by
  refine own_body (cls := "java/util/ArrayList") (plainFor_of_name pn_4) rfl (fun p e s m below meth c s₁ hx hby hml hown hnm hret hZ X0 e0 => ?_)
  have N0 := Fr.nil n0
  have K0 := Keep.refl h0 [a_]
  have lt1 := own_l P2.lt
  have lt2 := own_l P3.lt
  have lt3 := own_l P4.lt
  have lt4 := own_l P5.lt
  have lt5 := own_l P6.lt
  obtain ⟨T6, X6, e6, st6⟩ := getF X0 hx hZ hown (host := "") (Or.inl (w_61 hw)) Via.refl e0 P4 (g := (mkF m 2 #[vA a_] [(.ref a_), (.ref a_)])) rfl rfl (hb hby d76)
  obtain ⟨cq7, kq7, qa7, qb7, qc7⟩ := isOf hZ e6 P2
  obtain ⟨cc7, ca7, cb7⟩ := P2.cell
  obtain ⟨_, _, ⟨T7, L7, k7, n7⟩, -, X7, ⟨Lc7, hQ7, l7, y7, z7⟩, st7⟩ := X6.privateBack hx (y := m_9) hown (mvT hZ (w_73 hw)) (mvT hZ (w_74 hw)) (mvT hZ (w_76 hw)) (Cond.privateMethod_at (mvP hZ (w_75 hw) (args := #[]))) (mvT hZ (w_77 hw)) (by decide) (backOf (W := 0) (rm_growI l Z a0 hw [] a_ mc dc kd h0 n0 (by omega) P0 P1 P2 P3 P4 P5 P6 (by omega) (fun q => P8 q)) hZ (w_77 hw) (w_28 hw) (by decide) (by decide)) (g := (mkF m 7 #[vA a_] [(.int 1), (.ref a_)])) rfl (by rw [hml]; rfl) (Steps.refl _) (a := a_) (cell := cc7) (by rw [e6]; exact ca7) cb7 (argsL := [(.int 1)]) (rest := []) (lenOf pd_5 rfl) rfl (Nat.le_of_eq rfl) (hb hby d79) (fun _ _ => ⟨rfl, e6, (by decide : 0 + 1 ≤ _), (by decide : 0 + 10 ≤ _)⟩)
  dsimp only [Pt.U, Pt.locs, Pt.cells, Pt.slots] at X7 l7 y7 z7 st7 hQ7
  rw [l7, y7, z7] at X7
  obtain ⟨x7_b, x7_k, rfl, Nq7, Kq7, r7_0, r7_1, r7_2, r7_3, r7_4, r7_5, r7_6, r7_7⟩ := hQ7
  have N7 := Fr.app N0 Nq7
  have z7' := Kq7.1
  have K7 := K0.trans Kq7 (allS (Or.inl (List.mem_of_getElem? (i := 0) rfl)) all0)
  have lt8 := own_l r7_1.lt
  have lt9 := own_l r7_2.lt
  have lt10 := own_l r7_3.lt
  have lt11 := own_l r7_4.lt
  have lt12 := own_l r7_5.lt
  have lt13 := own_l r7_7.lt
  refine ⟨_, _, _, _, some (.ref x7_b), X7, by decide, by decide, nofun, ?_, fun fs hr => castTop (ef_2 m a_) ?_⟩
  · show Q_grow Z a_ mc dc kd h0 n0 _ T7.heap _
    exact ⟨x7_b, x7_k, rfl, N7, K7, (by omega), r7_1, r7_2, r7_3, r7_4, r7_5, r7_6, r7_7⟩
  · show Steps _ _ _ (s₁.setTop (mkF m 0 #[vA a_] [])) _
    refine XS.aloadN X0.here hx rfl (hb hby d74) rfl rfl ?_
    refine XS.aloadN X0.here hx rfl (hb hby d75) rfl rfl ?_
    refine st6 _ ?_
    show Steps _ _ _ (T6.setTop (mkF m 5 #[vA a_] [(.int 0), (.ref a_)])) _
    refine XS.iconst X6.here hx rfl (hb hby d77) ?_
    refine XS.iadd X6.here hx rfl (hb hby d78) rfl ?_
    refine st7.trans ?_
    show Steps _ _ _ (T7.setTop (mkF m 10 #[vA a_] [(.ref x7_b)])) _
    exact retOut X7 hx hret (own_narrow_ref rfl) (Or.inr (Or.inr (Or.inr (Or.inr ⟨rfl, rfl, rfl⟩)))) (hb hby d80) hr
theorem d81 : decode jdk_38_method_24_code 0 = .ok (.iload_n 3, 1) := by decide +kernel
theorem d82 : decode jdk_38_method_24_code 1 = .ok (.aload_n 2, 1) := by decide +kernel
theorem d83 : decode jdk_38_method_24_code 2 = .ok (.arraylength, 1) := by decide +kernel
theorem d84 : decode jdk_38_method_24_code 3 = .ok (.if_icmp .ne 8, 3) := by decide +kernel
theorem d85 : decode jdk_38_method_24_code 6 = .ok (.aload_n 0, 1) := by decide +kernel
theorem w_68 {Z : State} {a0 : Array Value} (hw : HW Z a0) : (Jvm.Cond.methodLink "java/util/ArrayList" (129 : Nat) m_10).before a0 Z = true := hw _ (List.mem_of_getElem? (i := 68) rfl)
theorem w_72 {Z : State} {a0 : Array Value} (hw : HW Z a0) : (Jvm.Cond.code m_10 jdk_38_method_7_code (1 : Nat) (Option.some (FieldType.array (FieldType.object "java/lang/Object")))).before a0 Z = true := hw _ (List.mem_of_getElem? (i := 72) rfl)
theorem pd_6 : parseMethodDescriptor "()[Ljava/lang/Object;" = some ⟨[], some (.array (.object "java/lang/Object"))⟩ := by decide +kernel
theorem d86 : decode jdk_38_method_24_code 7 = .ok (.invokevirtual 129, 3) := by decide +kernel
theorem w_69 {Z : State} {a0 : Array Value} (hw : HW Z a0) : (Jvm.Cond.instanceMethod m_10).before a0 Z = true := hw _ (List.mem_of_getElem? (i := 69) rfl)
theorem w_71 {Z : State} {a0 : Array Value} (hw : HW Z a0) : (Jvm.Cond.selects "java/util/ArrayList" m_10 m_10).before a0 Z = true := hw _ (List.mem_of_getElem? (i := 71) rfl)
theorem w_70 {Z : State} {a0 : Array Value} (hw : HW Z a0) : (Jvm.Cond.privateMethod m_10).before a0 Z = true := hw _ (List.mem_of_getElem? (i := 70) rfl)
theorem d87 : decode jdk_38_method_24_code 10 = .ok (.astore_n 2, 1) := by decide +kernel
theorem d88 : decode jdk_38_method_24_code 11 = .ok (.aload_n 2, 1) := by decide +kernel
theorem d89 : decode jdk_38_method_24_code 12 = .ok (.iload_n 3, 1) := by decide +kernel
theorem d90 : decode jdk_38_method_24_code 13 = .ok (.aload_n 1, 1) := by decide +kernel
theorem w_84 {Z : State} {a0 : Array Value} (hw : HW Z a0) : (Jvm.Cond.castable "java/lang/String" "java/lang/Object").before a0 Z = true := hw _ (List.mem_of_getElem? (i := 84) rfl)
theorem d91 : decode jdk_38_method_24_code 14 = .ok (.aastore, 1) := by decide +kernel
theorem d92 : decode jdk_38_method_24_code 15 = .ok (.aload_n 0, 1) := by decide +kernel
theorem d93 : decode jdk_38_method_24_code 16 = .ok (.iload_n 3, 1) := by decide +kernel
theorem d94 : decode jdk_38_method_24_code 17 = .ok (.iconst 1, 1) := by decide +kernel
theorem d95 : decode jdk_38_method_24_code 18 = .ok (.iadd, 1) := by decide +kernel
theorem d96 : decode jdk_38_method_24_code 19 = .ok (.putfield 48, 3) := by decide +kernel
theorem d97 : decode jdk_38_method_24_code 22 = .ok (.return_, 1) := by decide +kernel
theorem ef_5 (m : MethodId) (x0 : Addr) (x1 : Addr) (x2 : Addr) (x3 : Int32) : entryFrame m #[(.ref x0), (.ref x1), (.ref x2), (.int x3)] 4 = mkF m 0 #[vA x0, vA x1, vA x2, vI x3] [] := by first | (simp [entryFrame, mkF, argsToLocals, Value.category, maxLocals]; done) | rfl
abbrev m_11 : MethodName := (⟨"java/util/ArrayList", "add", "(Ljava/lang/Object;[Ljava/lang/Object;I)V"⟩ : MethodName)
def Q_addp0 (Z : State) (a_ : Addr) (it : Addr) (mc : Int32) (dc : Addr) (kd : ClassId) (h0 : Heap) (n0 : Nat) (v : Option Value) (h : Heap) (L : List Loc) : Prop := ∃ (b : Addr) (k : ClassId), (v = none) ∧ (Fr n0 L) ∧ (Keep h0 h [a_]) ∧ (h0.size ≤ b) ∧ (Exa Z h a_ "java/util/ArrayList") ∧ (fld4 Z h a_ (.int mc)) ∧ (fld2 Z h a_ (.int 1)) ∧ (fld3 Z h a_ (.ref b)) ∧ (Exa Z h b "[Ljava/lang/Object;") ∧ (Ovr Z k "java/lang/Object") ∧ (Arv Z h b k (.object "java/lang/Object") (10 : Int32) [(.ref it), .null, .null, .null, .null, .null, .null, .null, .null, .null] .null)
theorem rm_addp0 (l : Launch) (Z : State) (a0 : Array Value) (hw : HW Z a0) (ws : List Jvm.Cond) (a_ : Addr) (it : Addr) (mc : Int32) (dc : Addr) (kd : ClassId) (h0 : Heap) (n0 : Nat) (Z0 : n0 ≤ h0.size) (P0 : Old Z n0 h0) (P1 : sta1 Z (.ref dc)) (P2 : Exa Z h0 a_ "java/util/ArrayList") (P3 : fld4 Z h0 a_ (.int mc)) (P4 : fld2 Z h0 a_ (.int 0)) (P5 : fld3 Z h0 a_ (.ref dc)) (P6 : Arv Z h0 dc kd (.object "java/lang/Object") (0 : Int32) [] .null) (P7 : n0 ≤ a_) (P8 : a_ ≠ dc) (P9 : Exa Z h0 it "java/lang/String") :
    MF l Z m_11 jdk_38_method_24_code 4 none ws (oR 3 1 10 41) #[(.ref a_), (.ref it), (.ref dc), (.int 0)] h0 (Q_addp0 Z a_ it mc dc kd h0 n0) := by
  refine own_body (cls := "java/util/ArrayList") (plainFor_of_name pn_4) rfl (fun p e s m below meth c s₁ hx hby hml hown hnm hret hZ X0 e0 => ?_)
  have N0 := Fr.nil n0
  have K0 := Keep.refl h0 [a_]
  have lt1 := own_l P2.lt
  have lt2 := own_l P3.lt
  have lt3 := own_l P4.lt
  have lt4 := own_l P5.lt
  have lt5 := own_l P6.lt
  have lt6 := own_l P9.lt
  obtain ⟨cl7, Ar7, q7, S7, M7, H7, G7⟩ := id P6
  obtain ⟨cq8, kq8, qa8, qb8, qc8⟩ := isOf hZ e0 P2
  obtain ⟨cc8, ca8, cb8⟩ := P2.cell
  obtain ⟨_, _, ⟨T8, L8, k8, n8⟩, -, X8, ⟨Lc8, hQ8, l8, y8, z8⟩, st8⟩ := X0.privateBack hx (y := m_10) hown (mvT hZ (w_68 hw)) (mvT hZ (w_69 hw)) (mvT hZ (w_71 hw)) (Cond.privateMethod_at (mvP hZ (w_70 hw) (args := #[]))) (mvT hZ (w_72 hw)) (by decide) (backOf (W := 0) (rm_grow l Z a0 hw [] a_ mc dc kd h0 n0 (by omega) P0 P1 P2 P3 P4 P5 P6 (by omega) (fun q => P8 q)) hZ (w_72 hw) (w_28 hw) (by decide) (by decide)) (g := (mkF m 7 #[vA a_, vA it, vA dc, vI 0] [(.ref a_)])) rfl (by rw [hml]; rfl) (Steps.refl _) (a := a_) (cell := cc8) (by rw [e0]; exact ca8) cb8 (argsL := []) (rest := []) (lenOf pd_6 rfl) rfl (Nat.le_of_eq rfl) (hb hby d86) (fun _ _ => ⟨rfl, e0, (by decide : 0 + 1 ≤ _), (by decide : 0 + 10 ≤ _)⟩)
  dsimp only [Pt.U, Pt.locs, Pt.cells, Pt.slots] at X8 l8 y8 z8 st8 hQ8
  rw [l8, y8, z8] at X8
  obtain ⟨x8_b, x8_k, rfl, Nq8, Kq8, r8_0, r8_1, r8_2, r8_3, r8_4, r8_5, r8_6, r8_7⟩ := hQ8
  have N8 := Fr.app N0 Nq8
  have z8' := Kq8.1
  have K8 := K0.trans Kq8 (allS (Or.inl (List.mem_of_getElem? (i := 0) rfl)) all0)
  have lt9 := own_l r8_1.lt
  have lt10 := own_l r8_2.lt
  have lt11 := own_l r8_3.lt
  have lt12 := own_l r8_4.lt
  have lt13 := own_l r8_5.lt
  have lt14 := own_l r8_7.lt
  have f16 := P9.keep Kq8
  obtain ⟨cl15, Ar15, q15, S15, M15, H15, G15⟩ := id r8_7
  have hin15 : ¬ ((0 : Int32) < 0 ∨ cl15.slots.size ≤ ((0 : Int32)).toNatClampNeg) := inb_of S15 ⟨by decide, by decide⟩
  obtain ⟨T15, h15, X15, e15, W15, st15⟩ := stR X8 hx hZ rfl Ar15 (j := (0 : Int32)) hin15 rfl (Sto.ofV Ar15 q15 r8_6 (Ins.of_exa f16 (w_84 hw))) (g := (mkF m 14 #[vA a_, vA it, vA x8_b, vI 0] [(.ref it), (.int 0), (.ref x8_b)])) rfl rfl (hb hby d91)
  have V15 : Arv Z h15 x8_b x8_k (.object "java/lang/Object") (10 : Int32) [(.ref it), .null, .null, .null, .null, .null, .null, .null, .null, .null] .null := Arv.set Ar15 q15 S15 M15 H15 G15 rfl W15 0 rfl (Nat.le_of_ble_eq_true rfl)
  have z15 := W15.size
  have K15 := K8.wr W15 (Or.inr (by omega))
  have N15 := Fr.snoc X15 N8 (by omega)
  have f18 := r8_3.other W15 (Or.inl (own_ne (by omega)))
  have f19 := r8_1.wr W15
  obtain ⟨T17, h17, X17, e17, W17, st17⟩ := putF X15 hx hZ hown (host := "") (Or.inl (w_61 hw)) Via.refl e15 f18 f19 (Or.inl (w_62 hw)) (w_27 hw) (ty := .int) (by decide) rfl rfl (g := (mkF m 19 #[vA a_, vA it, vA x8_b, vI 0] [(.int 1), (.ref a_)])) rfl rfl (hb hby d96)
  have F17 := f18.same W17
  have z17 := W17.size
  have K17 := K15.wr W17 (Or.inl (List.mem_of_getElem? (i := 0) rfl))
  have N17 := Fr.snoc X17 N15 (by omega)
  have f20 := f19.wr W17
  have f21 := r8_2.other W15 (Or.inl (own_ne (by omega)))
  have f22 := f21.other W17 (Or.inr (slot_ne (a0 := a0) (t := .int) (t' := .int) (Or.inl (w_46 hw)) (Or.inl (w_62 hw)) (by decide) (by decide) (by decide)))
  have f23 := r8_4.other W15 (Or.inl (own_ne (by omega)))
  have f24 := f23.other W17 (Or.inr (slot_ne (a0 := a0) (t := (.array (.object "java/lang/Object"))) (t' := .int) (Or.inl (w_49 hw)) (Or.inl (w_62 hw)) (by decide) (by decide) (by decide)))
  have f25 := r8_5.wr W15
  have f26 := f25.wr W17
  have f27 := V15.other W17 (own_ne (by omega))
  refine ⟨_, _, _, _, none, X17, by decide, by decide, fun _ => rfl, ?_, fun fs hr => castTop (ef_5 m a_ it dc (0 : Int32)) ?_⟩
  · show Q_addp0 Z a_ it mc dc kd h0 n0 _ T17.heap _
    rw [(e17 : T17.heap = h17)]
    exact ⟨x8_b, x8_k, rfl, N17, K17, (by omega), f20, f22, F17, f24, f26, r8_6, f27⟩
  · show Steps _ _ _ (s₁.setTop (mkF m 0 #[vA a_, vA it, vA dc, vI 0] [])) _
    refine XS.iloadN X0.here hx rfl (hb hby d81) rfl ?_
    refine XS.aloadN X0.here hx rfl (hb hby d82) rfl rfl ?_
    refine X0.arraylength hx (by rw [e0]; exact Ar7.1) (State.isArrayOf_alike hZ.alike Ar7.2.1) (g := (mkF m 2 #[vA a_, vA it, vA dc, vI 0] [(.ref dc), (.int 0)])) rfl rfl (hb hby d83) _ ?_
    rw [len_of S7 M7]
    show Steps _ _ _ (s₁.setTop (mkF m 3 #[vA a_, vA it, vA dc, vI 0] [(.int 0), (.int 0)])) _
    refine XS.icmpNo X0.here hx rfl (hb hby d84) rfl (teq ((by decide) : (0 : Int32) = (0 : Int32))).2 ?_
    refine XS.aloadN X0.here hx rfl (hb hby d85) rfl rfl ?_
    refine st8.trans ?_
    show Steps _ _ _ (T8.setTop (mkF m 10 #[vA a_, vA it, vA dc, vI 0] [(.ref x8_b)])) _
    refine XS.astoreN X8.here hx rfl (hb hby d87) rfl rfl (l' := #[vA a_, vA it, vA x8_b, vI 0]) rfl ?_
    refine XS.aloadN X8.here hx rfl (hb hby d88) rfl rfl ?_
    refine XS.iloadN X8.here hx rfl (hb hby d89) rfl ?_
    refine XS.aloadN X8.here hx rfl (hb hby d90) rfl rfl ?_
    refine st15 _ ?_
    show Steps _ _ _ (T15.setTop (mkF m 15 #[vA a_, vA it, vA x8_b, vI 0] [])) _
    refine XS.aloadN X15.here hx rfl (hb hby d92) rfl rfl ?_
    refine XS.iloadN X15.here hx rfl (hb hby d93) rfl ?_
    refine XS.iconst X15.here hx rfl (hb hby d94) ?_
    refine XS.iadd X15.here hx rfl (hb hby d95) rfl ?_
    refine st17 _ ?_
    show Steps _ _ _ (T17.setTop (mkF m 22 #[vA a_, vA it, vA x8_b, vI 0] [])) _
    exact X17.returnOut hx hret (hb hby d97) hr
theorem d98 : decode jdk_38_method_25_code 0 = .ok (.aload_n 0, 1) := by decide +kernel
theorem d99 : decode jdk_38_method_25_code 1 = .ok (.dup, 1) := by decide +kernel
theorem w_59 {Z : State} {a0 : Array Value} (hw : HW Z a0) : (Jvm.Cond.fieldLink "java/util/ArrayList" (63 : Nat) "java/util/ArrayList" "modCount" "I").before a0 Z = true := hw _ (List.mem_of_getElem? (i := 59) rfl)
theorem w_60 {Z : State} {a0 : Array Value} (hw : HW Z a0) : (Jvm.Cond.sameField "java/util/ArrayList" "java/util/AbstractList" "modCount" "I").before a0 Z = true := hw _ (List.mem_of_getElem? (i := 60) rfl)
theorem d100 : decode jdk_38_method_25_code 2 = .ok (.getfield 63, 3) := by decide +kernel
theorem d101 : decode jdk_38_method_25_code 5 = .ok (.iconst 1, 1) := by decide +kernel
theorem d102 : decode jdk_38_method_25_code 6 = .ok (.iadd, 1) := by decide +kernel
theorem d103 : decode jdk_38_method_25_code 7 = .ok (.putfield 63, 3) := by decide +kernel
theorem d104 : decode jdk_38_method_25_code 10 = .ok (.aload_n 0, 1) := by decide +kernel
theorem d105 : decode jdk_38_method_25_code 11 = .ok (.aload_n 1, 1) := by decide +kernel
theorem d106 : decode jdk_38_method_25_code 12 = .ok (.aload_n 0, 1) := by decide +kernel
theorem d107 : decode jdk_38_method_25_code 13 = .ok (.getfield 9, 3) := by decide +kernel
theorem d108 : decode jdk_38_method_25_code 16 = .ok (.aload_n 0, 1) := by decide +kernel
theorem d109 : decode jdk_38_method_25_code 17 = .ok (.getfield 48, 3) := by decide +kernel
theorem w_63 {Z : State} {a0 : Array Value} (hw : HW Z a0) : (Jvm.Cond.methodLink "java/util/ArrayList" (131 : Nat) m_11).before a0 Z = true := hw _ (List.mem_of_getElem? (i := 63) rfl)
theorem w_67 {Z : State} {a0 : Array Value} (hw : HW Z a0) : (Jvm.Cond.code m_11 jdk_38_method_24_code (4 : Nat) (Option.none : Option Jvm.ClassFile.FieldType)).before a0 Z = true := hw _ (List.mem_of_getElem? (i := 67) rfl)
theorem pd_7 : parseMethodDescriptor "(Ljava/lang/Object;[Ljava/lang/Object;I)V" = some ⟨[(.object "java/lang/Object"), (.array (.object "java/lang/Object")), .int], none⟩ := by decide +kernel
theorem d110 : decode jdk_38_method_25_code 20 = .ok (.invokevirtual 131, 3) := by decide +kernel
theorem w_64 {Z : State} {a0 : Array Value} (hw : HW Z a0) : (Jvm.Cond.instanceMethod m_11).before a0 Z = true := hw _ (List.mem_of_getElem? (i := 64) rfl)
theorem w_66 {Z : State} {a0 : Array Value} (hw : HW Z a0) : (Jvm.Cond.selects "java/util/ArrayList" m_11 m_11).before a0 Z = true := hw _ (List.mem_of_getElem? (i := 66) rfl)
theorem w_65 {Z : State} {a0 : Array Value} (hw : HW Z a0) : (Jvm.Cond.privateMethod m_11).before a0 Z = true := hw _ (List.mem_of_getElem? (i := 65) rfl)
theorem d111 : decode jdk_38_method_25_code 23 = .ok (.iconst 1, 1) := by decide +kernel
theorem d112 : decode jdk_38_method_25_code 24 = .ok (.ireturn, 1) := by decide +kernel
theorem ef_6 (m : MethodId) (x0 : Addr) (x1 : Addr) : entryFrame m #[(.ref x0), (.ref x1)] 2 = mkF m 0 #[vA x0, vA x1] [] := by first | (simp [entryFrame, mkF, argsToLocals, Value.category, maxLocals]; done) | rfl
abbrev m_12 : MethodName := (⟨"java/util/ArrayList", "add", "(Ljava/lang/Object;)Z"⟩ : MethodName)
def Q_add0 (Z : State) (a_ : Addr) (it : Addr) (mc : Int32) (dc : Addr) (kd : ClassId) (h0 : Heap) (n0 : Nat) (v : Option Value) (h : Heap) (L : List Loc) : Prop := ∃ (b : Addr) (k : ClassId), (v = some (.int 1)) ∧ (Fr n0 L) ∧ (Keep h0 h [a_]) ∧ (h0.size ≤ b) ∧ (Exa Z h a_ "java/util/ArrayList") ∧ (fld4 Z h a_ (.int (mc + (1 : Int32)))) ∧ (fld2 Z h a_ (.int 1)) ∧ (fld3 Z h a_ (.ref b)) ∧ (Exa Z h b "[Ljava/lang/Object;") ∧ (Ovr Z k "java/lang/Object") ∧ (Arv Z h b k (.object "java/lang/Object") (10 : Int32) [(.ref it), .null, .null, .null, .null, .null, .null, .null, .null, .null] .null)
theorem rm_add0 (l : Launch) (Z : State) (a0 : Array Value) (hw : HW Z a0) (ws : List Jvm.Cond) (a_ : Addr) (it : Addr) (mc : Int32) (dc : Addr) (kd : ClassId) (h0 : Heap) (n0 : Nat) (Z0 : n0 ≤ h0.size) (P0 : Old Z n0 h0) (P1 : sta1 Z (.ref dc)) (P2 : Exa Z h0 a_ "java/util/ArrayList") (P3 : fld4 Z h0 a_ (.int mc)) (P4 : fld2 Z h0 a_ (.int 0)) (P5 : fld3 Z h0 a_ (.ref dc)) (P6 : Arv Z h0 dc kd (.object "java/lang/Object") (0 : Int32) [] .null) (P7 : n0 ≤ a_) (P8 : a_ ≠ dc) (P9 : Exa Z h0 it "java/lang/String") :
    MF l Z m_12 jdk_38_method_25_code 2 (some .boolean) ws (oR 4 1 10 56) #[(.ref a_), (.ref it)] h0 (Q_add0 Z a_ it mc dc kd h0 n0) := by
  refine own_body (cls := "java/util/ArrayList") (plainFor_of_name pn_4) rfl (fun p e s m below meth c s₁ hx hby hml hown hnm hret hZ X0 e0 => ?_)
  have N0 := Fr.nil n0
  have K0 := Keep.refl h0 [a_]
  have lt1 := own_l P2.lt
  have lt2 := own_l P3.lt
  have lt3 := own_l P4.lt
  have lt4 := own_l P5.lt
  have lt5 := own_l P6.lt
  have lt6 := own_l P9.lt
  obtain ⟨T7, X7, e7, st7⟩ := getF X0 hx hZ hown (host := "") (Or.inl (w_59 hw)) (Via.of (w_60 hw)) e0 P3 (g := (mkF m 2 #[vA a_, vA it] [(.ref a_), (.ref a_)])) rfl rfl (hb hby d100)
  obtain ⟨T8, h8, X8, e8, W8, st8⟩ := putF X7 hx hZ hown (host := "") (Or.inl (w_59 hw)) (Via.of (w_60 hw)) e7 P3 P2 (Or.inl (w_46 hw)) (w_27 hw) (ty := .int) (by decide) rfl rfl (g := (mkF m 7 #[vA a_, vA it] [(.int (mc + (1 : Int32))), (.ref a_)])) rfl rfl (hb hby d103)
  have F8 := P3.same W8
  have z8 := W8.size
  have K8 := K0.wr W8 (Or.inl (List.mem_of_getElem? (i := 0) rfl))
  have N8 := Fr.snoc X8 N0 (by omega)
  have f10 := P5.other W8 (Or.inr (slot_ne (a0 := a0) (t := (.array (.object "java/lang/Object"))) (t' := .int) (Or.inl (w_49 hw)) (Or.inl (w_46 hw)) (by decide) (by decide) (by decide)))
  obtain ⟨T9, X9, e9, st9⟩ := getF X8 hx hZ hown (host := "") (Or.inl (w_48 hw)) Via.refl e8 f10 (g := (mkF m 13 #[vA a_, vA it] [(.ref a_), (.ref it), (.ref a_)])) rfl rfl (hb hby d107)
  have f12 := P4.other W8 (Or.inr (slot_ne (a0 := a0) (t := .int) (t' := .int) (Or.inl (w_62 hw)) (Or.inl (w_46 hw)) (by decide) (by decide) (by decide)))
  obtain ⟨T11, X11, e11, st11⟩ := getF X9 hx hZ hown (host := "") (Or.inl (w_61 hw)) Via.refl e9 f12 (g := (mkF m 17 #[vA a_, vA it] [(.ref a_), (.ref dc), (.ref it), (.ref a_)])) rfl rfl (hb hby d109)
  have f14 := P0.wr W8 (by omega)
  have f15 := P2.wr W8
  have f16 := P6.other W8 (fun q => P8 q.symm)
  have f17 := P9.wr W8
  obtain ⟨cq13, kq13, qa13, qb13, qc13⟩ := isOf hZ e11 f15
  obtain ⟨cc13, ca13, cb13⟩ := f15.cell
  obtain ⟨_, _, ⟨T13, L13, k13, n13⟩, -, X13, ⟨Lc13, hQ13, l13, y13, z13⟩, st13⟩ := X11.privateBack hx (y := m_11) hown (mvT hZ (w_63 hw)) (mvT hZ (w_64 hw)) (mvT hZ (w_66 hw)) (Cond.privateMethod_at (mvP hZ (w_65 hw) (args := #[]))) (mvT hZ (w_67 hw)) (by decide) (backOf (W := 0) (rm_addp0 l Z a0 hw [] a_ it ((mc + (1 : Int32))) dc kd h8 n0 (by omega) f14 P1 f15 F8 f12 f10 f16 (by omega) (fun q => P8 q) f17) hZ (w_67 hw) (w_28 hw) (by decide) (by decide)) (g := (mkF m 20 #[vA a_, vA it] [(.int 0), (.ref dc), (.ref it), (.ref a_)])) rfl (by rw [hml]; rfl) (Steps.refl _) (a := a_) (cell := cc13) (by rw [e11]; exact ca13) cb13 (argsL := [(.ref it), (.ref dc), (.int 0)]) (rest := []) (lenOf pd_7 rfl) rfl (Nat.le_of_eq rfl) (hb hby d110) (fun _ _ => ⟨rfl, e11, (by decide : 0 + 1 ≤ _), (by decide : 0 + 10 ≤ _)⟩)
  dsimp only [Pt.U, Pt.locs, Pt.cells, Pt.slots] at X13 l13 y13 z13 st13 hQ13
  rw [l13, y13, z13] at X13
  obtain ⟨x13_b, x13_k, rfl, Nq13, Kq13, r13_0, r13_1, r13_2, r13_3, r13_4, r13_5, r13_6, r13_7⟩ := hQ13
  have N13 := Fr.app N8 Nq13
  have z13' := Kq13.1
  have K13 := K8.trans Kq13 (allS (Or.inl (List.mem_of_getElem? (i := 0) rfl)) all0)
  have lt18 := own_l r13_1.lt
  have lt19 := own_l r13_2.lt
  have lt20 := own_l r13_3.lt
  have lt21 := own_l r13_4.lt
  have lt22 := own_l r13_5.lt
  have lt23 := own_l r13_7.lt
  refine ⟨_, _, _, _, some (.int 1), X13, by decide, by decide, nofun, ?_, fun fs hr => castTop (ef_6 m a_ it) ?_⟩
  · show Q_add0 Z a_ it mc dc kd h0 n0 _ T13.heap _
    exact ⟨x13_b, x13_k, rfl, N13, K13, (by omega), r13_1, r13_2, r13_3, r13_4, r13_5, r13_6, r13_7⟩
  · show Steps _ _ _ (s₁.setTop (mkF m 0 #[vA a_, vA it] [])) _
    refine XS.aloadN X0.here hx rfl (hb hby d98) rfl rfl ?_
    refine XS.dup X0.here hx rfl (hb hby d99) rfl rfl ?_
    refine st7 _ ?_
    show Steps _ _ _ (T7.setTop (mkF m 5 #[vA a_, vA it] [(.int mc), (.ref a_)])) _
    refine XS.iconst X7.here hx rfl (hb hby d101) ?_
    refine XS.iadd X7.here hx rfl (hb hby d102) rfl ?_
    refine st8 _ ?_
    show Steps _ _ _ (T8.setTop (mkF m 10 #[vA a_, vA it] [])) _
    refine XS.aloadN X8.here hx rfl (hb hby d104) rfl rfl ?_
    refine XS.aloadN X8.here hx rfl (hb hby d105) rfl rfl ?_
    refine XS.aloadN X8.here hx rfl (hb hby d106) rfl rfl ?_
    refine st9 _ ?_
    show Steps _ _ _ (T9.setTop (mkF m 16 #[vA a_, vA it] [(.ref dc), (.ref it), (.ref a_)])) _
    refine XS.aloadN X9.here hx rfl (hb hby d108) rfl rfl ?_
    refine st11 _ ?_
    show Steps _ _ _ (T11.setTop (mkF m 20 #[vA a_, vA it] [(.int 0), (.ref dc), (.ref it), (.ref a_)])) _
    refine st13.trans ?_
    show Steps _ _ _ (T13.setTop (mkF m 23 #[vA a_, vA it] [])) _
    refine XS.iconst X13.here hx rfl (hb hby d111) ?_
    exact retN X13 hx (t := .boolean) hret (by simp) (hb hby d112) hr
def Q_addp1 (Z : State) (a_ : Addr) (it : Addr) (mc : Int32) (v_ : Addr) (kv : ClassId) (y0a : Addr) (h0 : Heap) (n0 : Nat) (v : Option Value) (h : Heap) (L : List Loc) : Prop := (v = none) ∧ (Fr n0 L) ∧ (Keep h0 h [a_, v_]) ∧ (Exa Z h a_ "java/util/ArrayList") ∧ (fld4 Z h a_ (.int mc)) ∧ (fld2 Z h a_ (.int 2)) ∧ (fld3 Z h a_ (.ref v_)) ∧ (Exa Z h v_ "[Ljava/lang/Object;") ∧ (Arv Z h v_ kv (.object "java/lang/Object") (10 : Int32) [(.ref y0a), (.ref it), .null, .null, .null, .null, .null, .null, .null, .null] .null)
theorem rm_addp1 (l : Launch) (Z : State) (a0 : Array Value) (hw : HW Z a0) (ws : List Jvm.Cond) (a_ : Addr) (it : Addr) (mc : Int32) (v_ : Addr) (kv : ClassId) (y0a : Addr) (h0 : Heap) (n0 : Nat) (Z0 : n0 ≤ h0.size) (P0 : Exa Z h0 a_ "java/util/ArrayList") (P1 : fld4 Z h0 a_ (.int mc)) (P2 : fld2 Z h0 a_ (.int 1)) (P3 : fld3 Z h0 a_ (.ref v_)) (P4 : Exa Z h0 v_ "[Ljava/lang/Object;") (P5 : Arv Z h0 v_ kv (.object "java/lang/Object") (10 : Int32) [(.ref y0a), .null, .null, .null, .null, .null, .null, .null, .null, .null] .null) (P6 : Ovr Z kv "java/lang/Object") (P7 : Exa Z h0 it "java/lang/String") (P8 : n0 ≤ a_) (P9 : n0 ≤ v_) (P10 : a_ ≠ v_) :
    MF l Z m_11 jdk_38_method_24_code 4 none ws (oR 0 0 0 0) #[(.ref a_), (.ref it), (.ref v_), (.int 1)] h0 (Q_addp1 Z a_ it mc v_ kv y0a h0 n0) := by
  refine own_body (cls := "java/util/ArrayList") (plainFor_of_name pn_4) rfl (fun p e s m below meth c s₁ hx hby hml hown hnm hret hZ X0 e0 => ?_)
  have N0 := Fr.nil n0
  have K0 := Keep.refl h0 [a_, v_]
  have lt1 := own_l P0.lt
  have lt2 := own_l P1.lt
  have lt3 := own_l P2.lt
  have lt4 := own_l P3.lt
  have lt5 := own_l P4.lt
  have lt6 := own_l P5.lt
  have lt7 := own_l P7.lt
  obtain ⟨cl8, Ar8, q8, S8, M8, H8, G8⟩ := id P5
  obtain ⟨cl9, Ar9, q9, S9, M9, H9, G9⟩ := id P5
  have hin9 : ¬ ((1 : Int32) < 0 ∨ cl9.slots.size ≤ ((1 : Int32)).toNatClampNeg) := inb_of S9 ⟨by decide, by decide⟩
  obtain ⟨T9, h9, X9, e9, W9, st9⟩ := stR X0 hx hZ e0 Ar9 (j := (1 : Int32)) hin9 rfl (Sto.ofV Ar9 q9 P6 (Ins.of_exa P7 (w_84 hw))) (g := (mkF m 14 #[vA a_, vA it, vA v_, vI 1] [(.ref it), (.int 1), (.ref v_)])) rfl rfl (hb hby d91)
  have V9 : Arv Z h9 v_ kv (.object "java/lang/Object") (10 : Int32) [(.ref y0a), (.ref it), .null, .null, .null, .null, .null, .null, .null, .null] .null := Arv.set Ar9 q9 S9 M9 H9 G9 rfl W9 1 rfl (Nat.le_of_ble_eq_true rfl)
  have z9 := W9.size
  have K9 := K0.wr W9 (Or.inl (List.mem_of_getElem? (i := 1) rfl))
  have N9 := Fr.snoc X9 N0 (by omega)
  have f11 := P2.other W9 (Or.inl (fun q => P10 q))
  have f12 := P0.wr W9
  obtain ⟨T10, h10, X10, e10, W10, st10⟩ := putF X9 hx hZ hown (host := "") (Or.inl (w_61 hw)) Via.refl e9 f11 f12 (Or.inl (w_62 hw)) (w_27 hw) (ty := .int) (by decide) rfl rfl (g := (mkF m 19 #[vA a_, vA it, vA v_, vI 1] [(.int 2), (.ref a_)])) rfl rfl (hb hby d96)
  have F10 := f11.same W10
  have z10 := W10.size
  have K10 := K9.wr W10 (Or.inl (List.mem_of_getElem? (i := 0) rfl))
  have N10 := Fr.snoc X10 N9 (by omega)
  have f13 := f12.wr W10
  have f14 := P1.other W9 (Or.inl (fun q => P10 q))
  have f15 := f14.other W10 (Or.inr (slot_ne (a0 := a0) (t := .int) (t' := .int) (Or.inl (w_46 hw)) (Or.inl (w_62 hw)) (by decide) (by decide) (by decide)))
  have f16 := P3.other W9 (Or.inl (fun q => P10 q))
  have f17 := f16.other W10 (Or.inr (slot_ne (a0 := a0) (t := (.array (.object "java/lang/Object"))) (t' := .int) (Or.inl (w_49 hw)) (Or.inl (w_62 hw)) (by decide) (by decide) (by decide)))
  have f18 := P4.wr W9
  have f19 := f18.wr W10
  have f20 := V9.other W10 (fun q => P10 q.symm)
  refine ⟨_, _, _, _, none, X10, by decide, by decide, fun _ => rfl, ?_, fun fs hr => castTop (ef_5 m a_ it v_ (1 : Int32)) ?_⟩
  · show Q_addp1 Z a_ it mc v_ kv y0a h0 n0 _ T10.heap _
    rw [(e10 : T10.heap = h10)]
    exact ⟨rfl, N10, K10, f13, f15, F10, f17, f19, f20⟩
  · show Steps _ _ _ (s₁.setTop (mkF m 0 #[vA a_, vA it, vA v_, vI 1] [])) _
    refine XS.iloadN X0.here hx rfl (hb hby d81) rfl ?_
    refine XS.aloadN X0.here hx rfl (hb hby d82) rfl rfl ?_
    refine X0.arraylength hx (by rw [e0]; exact Ar8.1) (State.isArrayOf_alike hZ.alike Ar8.2.1) (g := (mkF m 2 #[vA a_, vA it, vA v_, vI 1] [(.ref v_), (.int 1)])) rfl rfl (hb hby d83) _ ?_
    rw [len_of S8 M8]
    show Steps _ _ _ (s₁.setTop (mkF m 3 #[vA a_, vA it, vA v_, vI 1] [(.int 10), (.int 1)])) _
    refine XS.icmpYes X0.here hx rfl (pc0 := 3) (pc' := 11) rfl (hb hby d84) rfl (feq ((by decide) : ¬ ((1 : Int32) = (10 : Int32)))).2 (by decide) (by decide) ?_
    refine XS.aloadN X0.here hx rfl (hb hby d88) rfl rfl ?_
    refine XS.iloadN X0.here hx rfl (hb hby d89) rfl ?_
    refine XS.aloadN X0.here hx rfl (hb hby d90) rfl rfl ?_
    refine st9 _ ?_
    show Steps _ _ _ (T9.setTop (mkF m 15 #[vA a_, vA it, vA v_, vI 1] [])) _
    refine XS.aloadN X9.here hx rfl (hb hby d92) rfl rfl ?_
    refine XS.iloadN X9.here hx rfl (hb hby d93) rfl ?_
    refine XS.iconst X9.here hx rfl (hb hby d94) ?_
    refine XS.iadd X9.here hx rfl (hb hby d95) rfl ?_
    refine st10 _ ?_
    show Steps _ _ _ (T10.setTop (mkF m 22 #[vA a_, vA it, vA v_, vI 1] [])) _
    exact X10.returnOut hx hret (hb hby d97) hr
def Q_add1 (Z : State) (a_ : Addr) (it : Addr) (mc : Int32) (v_ : Addr) (kv : ClassId) (y0a : Addr) (h0 : Heap) (n0 : Nat) (v : Option Value) (h : Heap) (L : List Loc) : Prop := (v = some (.int 1)) ∧ (Fr n0 L) ∧ (Keep h0 h [a_, v_]) ∧ (Exa Z h a_ "java/util/ArrayList") ∧ (fld4 Z h a_ (.int (mc + (1 : Int32)))) ∧ (fld2 Z h a_ (.int 2)) ∧ (fld3 Z h a_ (.ref v_)) ∧ (Exa Z h v_ "[Ljava/lang/Object;") ∧ (Arv Z h v_ kv (.object "java/lang/Object") (10 : Int32) [(.ref y0a), (.ref it), .null, .null, .null, .null, .null, .null, .null, .null] .null)
theorem rm_add1 (l : Launch) (Z : State) (a0 : Array Value) (hw : HW Z a0) (ws : List Jvm.Cond) (a_ : Addr) (it : Addr) (mc : Int32) (v_ : Addr) (kv : ClassId) (y0a : Addr) (h0 : Heap) (n0 : Nat) (Z0 : n0 ≤ h0.size) (P0 : Exa Z h0 a_ "java/util/ArrayList") (P1 : fld4 Z h0 a_ (.int mc)) (P2 : fld2 Z h0 a_ (.int 1)) (P3 : fld3 Z h0 a_ (.ref v_)) (P4 : Exa Z h0 v_ "[Ljava/lang/Object;") (P5 : Arv Z h0 v_ kv (.object "java/lang/Object") (10 : Int32) [(.ref y0a), .null, .null, .null, .null, .null, .null, .null, .null, .null] .null) (P6 : Ovr Z kv "java/lang/Object") (P7 : Exa Z h0 it "java/lang/String") (P8 : n0 ≤ a_) (P9 : n0 ≤ v_) (P10 : a_ ≠ v_) :
    MF l Z m_12 jdk_38_method_25_code 2 (some .boolean) ws (oR 1 0 0 15) #[(.ref a_), (.ref it)] h0 (Q_add1 Z a_ it mc v_ kv y0a h0 n0) := by
  refine own_body (cls := "java/util/ArrayList") (plainFor_of_name pn_4) rfl (fun p e s m below meth c s₁ hx hby hml hown hnm hret hZ X0 e0 => ?_)
  have N0 := Fr.nil n0
  have K0 := Keep.refl h0 [a_, v_]
  have lt1 := own_l P0.lt
  have lt2 := own_l P1.lt
  have lt3 := own_l P2.lt
  have lt4 := own_l P3.lt
  have lt5 := own_l P4.lt
  have lt6 := own_l P5.lt
  have lt7 := own_l P7.lt
  obtain ⟨T8, X8, e8, st8⟩ := getF X0 hx hZ hown (host := "") (Or.inl (w_59 hw)) (Via.of (w_60 hw)) e0 P1 (g := (mkF m 2 #[vA a_, vA it] [(.ref a_), (.ref a_)])) rfl rfl (hb hby d100)
  obtain ⟨T9, h9, X9, e9, W9, st9⟩ := putF X8 hx hZ hown (host := "") (Or.inl (w_59 hw)) (Via.of (w_60 hw)) e8 P1 P0 (Or.inl (w_46 hw)) (w_27 hw) (ty := .int) (by decide) rfl rfl (g := (mkF m 7 #[vA a_, vA it] [(.int (mc + (1 : Int32))), (.ref a_)])) rfl rfl (hb hby d103)
  have F9 := P1.same W9
  have z9 := W9.size
  have K9 := K0.wr W9 (Or.inl (List.mem_of_getElem? (i := 0) rfl))
  have N9 := Fr.snoc X9 N0 (by omega)
  have f11 := P3.other W9 (Or.inr (slot_ne (a0 := a0) (t := (.array (.object "java/lang/Object"))) (t' := .int) (Or.inl (w_49 hw)) (Or.inl (w_46 hw)) (by decide) (by decide) (by decide)))
  obtain ⟨T10, X10, e10, st10⟩ := getF X9 hx hZ hown (host := "") (Or.inl (w_48 hw)) Via.refl e9 f11 (g := (mkF m 13 #[vA a_, vA it] [(.ref a_), (.ref it), (.ref a_)])) rfl rfl (hb hby d107)
  have f13 := P2.other W9 (Or.inr (slot_ne (a0 := a0) (t := .int) (t' := .int) (Or.inl (w_62 hw)) (Or.inl (w_46 hw)) (by decide) (by decide) (by decide)))
  obtain ⟨T12, X12, e12, st12⟩ := getF X10 hx hZ hown (host := "") (Or.inl (w_61 hw)) Via.refl e10 f13 (g := (mkF m 17 #[vA a_, vA it] [(.ref a_), (.ref v_), (.ref it), (.ref a_)])) rfl rfl (hb hby d109)
  have f15 := P0.wr W9
  have f16 := P4.wr W9
  have f17 := P5.other W9 (fun q => P10 q.symm)
  have f18 := P7.wr W9
  obtain ⟨cq14, kq14, qa14, qb14, qc14⟩ := isOf hZ e12 f15
  obtain ⟨cc14, ca14, cb14⟩ := f15.cell
  obtain ⟨_, _, ⟨T14, L14, k14, n14⟩, -, X14, ⟨Lc14, hQ14, l14, y14, z14⟩, st14⟩ := X12.privateBack hx (y := m_11) hown (mvT hZ (w_63 hw)) (mvT hZ (w_64 hw)) (mvT hZ (w_66 hw)) (Cond.privateMethod_at (mvP hZ (w_65 hw) (args := #[]))) (mvT hZ (w_67 hw)) (by decide) (backOf (W := 0) (rm_addp1 l Z a0 hw [] a_ it ((mc + (1 : Int32))) v_ kv y0a h9 n0 (by omega) f15 F9 f13 f11 f16 f17 P6 f18 (by omega) (by omega) (fun q => P10 q)) hZ (w_67 hw) (w_28 hw) (by decide) (by decide)) (g := (mkF m 20 #[vA a_, vA it] [(.int 1), (.ref v_), (.ref it), (.ref a_)])) rfl (by rw [hml]; rfl) (Steps.refl _) (a := a_) (cell := cc14) (by rw [e12]; exact ca14) cb14 (argsL := [(.ref it), (.ref v_), (.int 1)]) (rest := []) (lenOf pd_7 rfl) rfl (Nat.le_of_eq rfl) (hb hby d110) (fun _ _ => ⟨rfl, e12, (by decide : 0 + 0 ≤ _), (by decide : 0 + 0 ≤ _)⟩)
  dsimp only [Pt.U, Pt.locs, Pt.cells, Pt.slots] at X14 l14 y14 z14 st14 hQ14
  rw [l14, y14, z14] at X14
  obtain ⟨rfl, Nq14, Kq14, r14_0, r14_1, r14_2, r14_3, r14_4, r14_5⟩ := hQ14
  have N14 := Fr.app N9 Nq14
  have z14' := Kq14.1
  have K14 := K9.trans Kq14 (allS (Or.inl (List.mem_of_getElem? (i := 0) rfl)) (allS (Or.inl (List.mem_of_getElem? (i := 1) rfl)) all0))
  have lt19 := own_l r14_0.lt
  have lt20 := own_l r14_1.lt
  have lt21 := own_l r14_2.lt
  have lt22 := own_l r14_3.lt
  have lt23 := own_l r14_4.lt
  have lt24 := own_l r14_5.lt
  refine ⟨_, _, _, _, some (.int 1), X14, by decide, by decide, nofun, ?_, fun fs hr => castTop (ef_6 m a_ it) ?_⟩
  · show Q_add1 Z a_ it mc v_ kv y0a h0 n0 _ T14.heap _
    exact ⟨rfl, N14, K14, r14_0, r14_1, r14_2, r14_3, r14_4, r14_5⟩
  · show Steps _ _ _ (s₁.setTop (mkF m 0 #[vA a_, vA it] [])) _
    refine XS.aloadN X0.here hx rfl (hb hby d98) rfl rfl ?_
    refine XS.dup X0.here hx rfl (hb hby d99) rfl rfl ?_
    refine st8 _ ?_
    show Steps _ _ _ (T8.setTop (mkF m 5 #[vA a_, vA it] [(.int mc), (.ref a_)])) _
    refine XS.iconst X8.here hx rfl (hb hby d101) ?_
    refine XS.iadd X8.here hx rfl (hb hby d102) rfl ?_
    refine st9 _ ?_
    show Steps _ _ _ (T9.setTop (mkF m 10 #[vA a_, vA it] [])) _
    refine XS.aloadN X9.here hx rfl (hb hby d104) rfl rfl ?_
    refine XS.aloadN X9.here hx rfl (hb hby d105) rfl rfl ?_
    refine XS.aloadN X9.here hx rfl (hb hby d106) rfl rfl ?_
    refine st10 _ ?_
    show Steps _ _ _ (T10.setTop (mkF m 16 #[vA a_, vA it] [(.ref v_), (.ref it), (.ref a_)])) _
    refine XS.aloadN X10.here hx rfl (hb hby d108) rfl rfl ?_
    refine st12 _ ?_
    show Steps _ _ _ (T12.setTop (mkF m 20 #[vA a_, vA it] [(.int 1), (.ref v_), (.ref it), (.ref a_)])) _
    refine st14.trans ?_
    show Steps _ _ _ (T14.setTop (mkF m 23 #[vA a_, vA it] [])) _
    refine XS.iconst X14.here hx rfl (hb hby d111) ?_
    exact retN X14 hx (t := .boolean) hret (by simp) (hb hby d112) hr
def Q_addp2 (Z : State) (a_ : Addr) (it : Addr) (mc : Int32) (v_ : Addr) (kv : ClassId) (y0a : Addr) (y1a : Addr) (h0 : Heap) (n0 : Nat) (v : Option Value) (h : Heap) (L : List Loc) : Prop := (v = none) ∧ (Fr n0 L) ∧ (Keep h0 h [a_, v_]) ∧ (Exa Z h a_ "java/util/ArrayList") ∧ (fld4 Z h a_ (.int mc)) ∧ (fld2 Z h a_ (.int 3)) ∧ (fld3 Z h a_ (.ref v_)) ∧ (Exa Z h v_ "[Ljava/lang/Object;") ∧ (Arv Z h v_ kv (.object "java/lang/Object") (10 : Int32) [(.ref y0a), (.ref y1a), (.ref it), .null, .null, .null, .null, .null, .null, .null] .null)
theorem rm_addp2 (l : Launch) (Z : State) (a0 : Array Value) (hw : HW Z a0) (ws : List Jvm.Cond) (a_ : Addr) (it : Addr) (mc : Int32) (v_ : Addr) (kv : ClassId) (y0a : Addr) (y1a : Addr) (h0 : Heap) (n0 : Nat) (Z0 : n0 ≤ h0.size) (P0 : Exa Z h0 a_ "java/util/ArrayList") (P1 : fld4 Z h0 a_ (.int mc)) (P2 : fld2 Z h0 a_ (.int 2)) (P3 : fld3 Z h0 a_ (.ref v_)) (P4 : Exa Z h0 v_ "[Ljava/lang/Object;") (P5 : Arv Z h0 v_ kv (.object "java/lang/Object") (10 : Int32) [(.ref y0a), (.ref y1a), .null, .null, .null, .null, .null, .null, .null, .null] .null) (P6 : Ovr Z kv "java/lang/Object") (P7 : Exa Z h0 it "java/lang/String") (P8 : n0 ≤ a_) (P9 : n0 ≤ v_) (P10 : a_ ≠ v_) :
    MF l Z m_11 jdk_38_method_24_code 4 none ws (oR 0 0 0 0) #[(.ref a_), (.ref it), (.ref v_), (.int 2)] h0 (Q_addp2 Z a_ it mc v_ kv y0a y1a h0 n0) := by
  refine own_body (cls := "java/util/ArrayList") (plainFor_of_name pn_4) rfl (fun p e s m below meth c s₁ hx hby hml hown hnm hret hZ X0 e0 => ?_)
  have N0 := Fr.nil n0
  have K0 := Keep.refl h0 [a_, v_]
  have lt1 := own_l P0.lt
  have lt2 := own_l P1.lt
  have lt3 := own_l P2.lt
  have lt4 := own_l P3.lt
  have lt5 := own_l P4.lt
  have lt6 := own_l P5.lt
  have lt7 := own_l P7.lt
  obtain ⟨cl8, Ar8, q8, S8, M8, H8, G8⟩ := id P5
  obtain ⟨cl9, Ar9, q9, S9, M9, H9, G9⟩ := id P5
  have hin9 : ¬ ((2 : Int32) < 0 ∨ cl9.slots.size ≤ ((2 : Int32)).toNatClampNeg) := inb_of S9 ⟨by decide, by decide⟩
  obtain ⟨T9, h9, X9, e9, W9, st9⟩ := stR X0 hx hZ e0 Ar9 (j := (2 : Int32)) hin9 rfl (Sto.ofV Ar9 q9 P6 (Ins.of_exa P7 (w_84 hw))) (g := (mkF m 14 #[vA a_, vA it, vA v_, vI 2] [(.ref it), (.int 2), (.ref v_)])) rfl rfl (hb hby d91)
  have V9 : Arv Z h9 v_ kv (.object "java/lang/Object") (10 : Int32) [(.ref y0a), (.ref y1a), (.ref it), .null, .null, .null, .null, .null, .null, .null] .null := Arv.set Ar9 q9 S9 M9 H9 G9 rfl W9 2 rfl (Nat.le_of_ble_eq_true rfl)
  have z9 := W9.size
  have K9 := K0.wr W9 (Or.inl (List.mem_of_getElem? (i := 1) rfl))
  have N9 := Fr.snoc X9 N0 (by omega)
  have f11 := P2.other W9 (Or.inl (fun q => P10 q))
  have f12 := P0.wr W9
  obtain ⟨T10, h10, X10, e10, W10, st10⟩ := putF X9 hx hZ hown (host := "") (Or.inl (w_61 hw)) Via.refl e9 f11 f12 (Or.inl (w_62 hw)) (w_27 hw) (ty := .int) (by decide) rfl rfl (g := (mkF m 19 #[vA a_, vA it, vA v_, vI 2] [(.int 3), (.ref a_)])) rfl rfl (hb hby d96)
  have F10 := f11.same W10
  have z10 := W10.size
  have K10 := K9.wr W10 (Or.inl (List.mem_of_getElem? (i := 0) rfl))
  have N10 := Fr.snoc X10 N9 (by omega)
  have f13 := f12.wr W10
  have f14 := P1.other W9 (Or.inl (fun q => P10 q))
  have f15 := f14.other W10 (Or.inr (slot_ne (a0 := a0) (t := .int) (t' := .int) (Or.inl (w_46 hw)) (Or.inl (w_62 hw)) (by decide) (by decide) (by decide)))
  have f16 := P3.other W9 (Or.inl (fun q => P10 q))
  have f17 := f16.other W10 (Or.inr (slot_ne (a0 := a0) (t := (.array (.object "java/lang/Object"))) (t' := .int) (Or.inl (w_49 hw)) (Or.inl (w_62 hw)) (by decide) (by decide) (by decide)))
  have f18 := P4.wr W9
  have f19 := f18.wr W10
  have f20 := V9.other W10 (fun q => P10 q.symm)
  refine ⟨_, _, _, _, none, X10, by decide, by decide, fun _ => rfl, ?_, fun fs hr => castTop (ef_5 m a_ it v_ (2 : Int32)) ?_⟩
  · show Q_addp2 Z a_ it mc v_ kv y0a y1a h0 n0 _ T10.heap _
    rw [(e10 : T10.heap = h10)]
    exact ⟨rfl, N10, K10, f13, f15, F10, f17, f19, f20⟩
  · show Steps _ _ _ (s₁.setTop (mkF m 0 #[vA a_, vA it, vA v_, vI 2] [])) _
    refine XS.iloadN X0.here hx rfl (hb hby d81) rfl ?_
    refine XS.aloadN X0.here hx rfl (hb hby d82) rfl rfl ?_
    refine X0.arraylength hx (by rw [e0]; exact Ar8.1) (State.isArrayOf_alike hZ.alike Ar8.2.1) (g := (mkF m 2 #[vA a_, vA it, vA v_, vI 2] [(.ref v_), (.int 2)])) rfl rfl (hb hby d83) _ ?_
    rw [len_of S8 M8]
    show Steps _ _ _ (s₁.setTop (mkF m 3 #[vA a_, vA it, vA v_, vI 2] [(.int 10), (.int 2)])) _
    refine XS.icmpYes X0.here hx rfl (pc0 := 3) (pc' := 11) rfl (hb hby d84) rfl (feq ((by decide) : ¬ ((2 : Int32) = (10 : Int32)))).2 (by decide) (by decide) ?_
    refine XS.aloadN X0.here hx rfl (hb hby d88) rfl rfl ?_
    refine XS.iloadN X0.here hx rfl (hb hby d89) rfl ?_
    refine XS.aloadN X0.here hx rfl (hb hby d90) rfl rfl ?_
    refine st9 _ ?_
    show Steps _ _ _ (T9.setTop (mkF m 15 #[vA a_, vA it, vA v_, vI 2] [])) _
    refine XS.aloadN X9.here hx rfl (hb hby d92) rfl rfl ?_
    refine XS.iloadN X9.here hx rfl (hb hby d93) rfl ?_
    refine XS.iconst X9.here hx rfl (hb hby d94) ?_
    refine XS.iadd X9.here hx rfl (hb hby d95) rfl ?_
    refine st10 _ ?_
    show Steps _ _ _ (T10.setTop (mkF m 22 #[vA a_, vA it, vA v_, vI 2] [])) _
    exact X10.returnOut hx hret (hb hby d97) hr
def Q_add2 (Z : State) (a_ : Addr) (it : Addr) (mc : Int32) (v_ : Addr) (kv : ClassId) (y0a : Addr) (y1a : Addr) (h0 : Heap) (n0 : Nat) (v : Option Value) (h : Heap) (L : List Loc) : Prop := (v = some (.int 1)) ∧ (Fr n0 L) ∧ (Keep h0 h [a_, v_]) ∧ (Exa Z h a_ "java/util/ArrayList") ∧ (fld4 Z h a_ (.int (mc + (1 : Int32)))) ∧ (fld2 Z h a_ (.int 3)) ∧ (fld3 Z h a_ (.ref v_)) ∧ (Exa Z h v_ "[Ljava/lang/Object;") ∧ (Arv Z h v_ kv (.object "java/lang/Object") (10 : Int32) [(.ref y0a), (.ref y1a), (.ref it), .null, .null, .null, .null, .null, .null, .null] .null)
theorem rm_add2 (l : Launch) (Z : State) (a0 : Array Value) (hw : HW Z a0) (ws : List Jvm.Cond) (a_ : Addr) (it : Addr) (mc : Int32) (v_ : Addr) (kv : ClassId) (y0a : Addr) (y1a : Addr) (h0 : Heap) (n0 : Nat) (Z0 : n0 ≤ h0.size) (P0 : Exa Z h0 a_ "java/util/ArrayList") (P1 : fld4 Z h0 a_ (.int mc)) (P2 : fld2 Z h0 a_ (.int 2)) (P3 : fld3 Z h0 a_ (.ref v_)) (P4 : Exa Z h0 v_ "[Ljava/lang/Object;") (P5 : Arv Z h0 v_ kv (.object "java/lang/Object") (10 : Int32) [(.ref y0a), (.ref y1a), .null, .null, .null, .null, .null, .null, .null, .null] .null) (P6 : Ovr Z kv "java/lang/Object") (P7 : Exa Z h0 it "java/lang/String") (P8 : n0 ≤ a_) (P9 : n0 ≤ v_) (P10 : a_ ≠ v_) :
    MF l Z m_12 jdk_38_method_25_code 2 (some .boolean) ws (oR 1 0 0 15) #[(.ref a_), (.ref it)] h0 (Q_add2 Z a_ it mc v_ kv y0a y1a h0 n0) := by
  refine own_body (cls := "java/util/ArrayList") (plainFor_of_name pn_4) rfl (fun p e s m below meth c s₁ hx hby hml hown hnm hret hZ X0 e0 => ?_)
  have N0 := Fr.nil n0
  have K0 := Keep.refl h0 [a_, v_]
  have lt1 := own_l P0.lt
  have lt2 := own_l P1.lt
  have lt3 := own_l P2.lt
  have lt4 := own_l P3.lt
  have lt5 := own_l P4.lt
  have lt6 := own_l P5.lt
  have lt7 := own_l P7.lt
  obtain ⟨T8, X8, e8, st8⟩ := getF X0 hx hZ hown (host := "") (Or.inl (w_59 hw)) (Via.of (w_60 hw)) e0 P1 (g := (mkF m 2 #[vA a_, vA it] [(.ref a_), (.ref a_)])) rfl rfl (hb hby d100)
  obtain ⟨T9, h9, X9, e9, W9, st9⟩ := putF X8 hx hZ hown (host := "") (Or.inl (w_59 hw)) (Via.of (w_60 hw)) e8 P1 P0 (Or.inl (w_46 hw)) (w_27 hw) (ty := .int) (by decide) rfl rfl (g := (mkF m 7 #[vA a_, vA it] [(.int (mc + (1 : Int32))), (.ref a_)])) rfl rfl (hb hby d103)
  have F9 := P1.same W9
  have z9 := W9.size
  have K9 := K0.wr W9 (Or.inl (List.mem_of_getElem? (i := 0) rfl))
  have N9 := Fr.snoc X9 N0 (by omega)
  have f11 := P3.other W9 (Or.inr (slot_ne (a0 := a0) (t := (.array (.object "java/lang/Object"))) (t' := .int) (Or.inl (w_49 hw)) (Or.inl (w_46 hw)) (by decide) (by decide) (by decide)))
  obtain ⟨T10, X10, e10, st10⟩ := getF X9 hx hZ hown (host := "") (Or.inl (w_48 hw)) Via.refl e9 f11 (g := (mkF m 13 #[vA a_, vA it] [(.ref a_), (.ref it), (.ref a_)])) rfl rfl (hb hby d107)
  have f13 := P2.other W9 (Or.inr (slot_ne (a0 := a0) (t := .int) (t' := .int) (Or.inl (w_62 hw)) (Or.inl (w_46 hw)) (by decide) (by decide) (by decide)))
  obtain ⟨T12, X12, e12, st12⟩ := getF X10 hx hZ hown (host := "") (Or.inl (w_61 hw)) Via.refl e10 f13 (g := (mkF m 17 #[vA a_, vA it] [(.ref a_), (.ref v_), (.ref it), (.ref a_)])) rfl rfl (hb hby d109)
  have f15 := P0.wr W9
  have f16 := P4.wr W9
  have f17 := P5.other W9 (fun q => P10 q.symm)
  have f18 := P7.wr W9
  obtain ⟨cq14, kq14, qa14, qb14, qc14⟩ := isOf hZ e12 f15
  obtain ⟨cc14, ca14, cb14⟩ := f15.cell
  obtain ⟨_, _, ⟨T14, L14, k14, n14⟩, -, X14, ⟨Lc14, hQ14, l14, y14, z14⟩, st14⟩ := X12.privateBack hx (y := m_11) hown (mvT hZ (w_63 hw)) (mvT hZ (w_64 hw)) (mvT hZ (w_66 hw)) (Cond.privateMethod_at (mvP hZ (w_65 hw) (args := #[]))) (mvT hZ (w_67 hw)) (by decide) (backOf (W := 0) (rm_addp2 l Z a0 hw [] a_ it ((mc + (1 : Int32))) v_ kv y0a y1a h9 n0 (by omega) f15 F9 f13 f11 f16 f17 P6 f18 (by omega) (by omega) (fun q => P10 q)) hZ (w_67 hw) (w_28 hw) (by decide) (by decide)) (g := (mkF m 20 #[vA a_, vA it] [(.int 2), (.ref v_), (.ref it), (.ref a_)])) rfl (by rw [hml]; rfl) (Steps.refl _) (a := a_) (cell := cc14) (by rw [e12]; exact ca14) cb14 (argsL := [(.ref it), (.ref v_), (.int 2)]) (rest := []) (lenOf pd_7 rfl) rfl (Nat.le_of_eq rfl) (hb hby d110) (fun _ _ => ⟨rfl, e12, (by decide : 0 + 0 ≤ _), (by decide : 0 + 0 ≤ _)⟩)
  dsimp only [Pt.U, Pt.locs, Pt.cells, Pt.slots] at X14 l14 y14 z14 st14 hQ14
  rw [l14, y14, z14] at X14
  obtain ⟨rfl, Nq14, Kq14, r14_0, r14_1, r14_2, r14_3, r14_4, r14_5⟩ := hQ14
  have N14 := Fr.app N9 Nq14
  have z14' := Kq14.1
  have K14 := K9.trans Kq14 (allS (Or.inl (List.mem_of_getElem? (i := 0) rfl)) (allS (Or.inl (List.mem_of_getElem? (i := 1) rfl)) all0))
  have lt19 := own_l r14_0.lt
  have lt20 := own_l r14_1.lt
  have lt21 := own_l r14_2.lt
  have lt22 := own_l r14_3.lt
  have lt23 := own_l r14_4.lt
  have lt24 := own_l r14_5.lt
  refine ⟨_, _, _, _, some (.int 1), X14, by decide, by decide, nofun, ?_, fun fs hr => castTop (ef_6 m a_ it) ?_⟩
  · show Q_add2 Z a_ it mc v_ kv y0a y1a h0 n0 _ T14.heap _
    exact ⟨rfl, N14, K14, r14_0, r14_1, r14_2, r14_3, r14_4, r14_5⟩
  · show Steps _ _ _ (s₁.setTop (mkF m 0 #[vA a_, vA it] [])) _
    refine XS.aloadN X0.here hx rfl (hb hby d98) rfl rfl ?_
    refine XS.dup X0.here hx rfl (hb hby d99) rfl rfl ?_
    refine st8 _ ?_
    show Steps _ _ _ (T8.setTop (mkF m 5 #[vA a_, vA it] [(.int mc), (.ref a_)])) _
    refine XS.iconst X8.here hx rfl (hb hby d101) ?_
    refine XS.iadd X8.here hx rfl (hb hby d102) rfl ?_
    refine st9 _ ?_
    show Steps _ _ _ (T9.setTop (mkF m 10 #[vA a_, vA it] [])) _
    refine XS.aloadN X9.here hx rfl (hb hby d104) rfl rfl ?_
    refine XS.aloadN X9.here hx rfl (hb hby d105) rfl rfl ?_
    refine XS.aloadN X9.here hx rfl (hb hby d106) rfl rfl ?_
    refine st10 _ ?_
    show Steps _ _ _ (T10.setTop (mkF m 16 #[vA a_, vA it] [(.ref v_), (.ref it), (.ref a_)])) _
    refine XS.aloadN X10.here hx rfl (hb hby d108) rfl rfl ?_
    refine st12 _ ?_
    show Steps _ _ _ (T12.setTop (mkF m 20 #[vA a_, vA it] [(.int 2), (.ref v_), (.ref it), (.ref a_)])) _
    refine st14.trans ?_
    show Steps _ _ _ (T14.setTop (mkF m 23 #[vA a_, vA it] [])) _
    refine XS.iconst X14.here hx rfl (hb hby d111) ?_
    exact retN X14 hx (t := .boolean) hret (by simp) (hb hby d112) hr
theorem d113 : decode jdk_38_method_9_code 0 = .ok (.aload_n 0, 1) := by decide +kernel
theorem d114 : decode jdk_38_method_9_code 1 = .ok (.getfield 48, 3) := by decide +kernel
theorem d115 : decode jdk_38_method_9_code 4 = .ok (.ifCond .ne 7, 3) := by decide +kernel
theorem d116 : decode jdk_38_method_9_code 7 = .ok (.iconst 1, 1) := by decide +kernel
theorem d117 : decode jdk_38_method_9_code 8 = .ok (.goto 4, 3) := by decide +kernel
theorem d118 : decode jdk_38_method_9_code 12 = .ok (.ireturn, 1) := by decide +kernel
abbrev m_13 : MethodName := (⟨"java/util/ArrayList", "isEmpty", "()Z"⟩ : MethodName)
def Q_em0 (Z : State) (a_ : Addr) (h0 : Heap) (n0 : Nat) (v : Option Value) (h : Heap) (L : List Loc) : Prop := (v = some (.int 1)) ∧ (Fr n0 L) ∧ (h = h0)
theorem rm_em0 (l : Launch) (Z : State) (a0 : Array Value) (hw : HW Z a0) (ws : List Jvm.Cond) (a_ : Addr) (h0 : Heap) (n0 : Nat) (Z0 : n0 ≤ h0.size) (P0 : fld2 Z h0 a_ (.int 0)) :
    MF l Z m_13 jdk_38_method_9_code 1 (some .boolean) ws (oR 0 0 0 0) #[(.ref a_)] h0 (Q_em0 Z a_ h0 n0) := by
  refine own_body (cls := "java/util/ArrayList") (plainFor_of_name pn_4) rfl (fun p e s m below meth c s₁ hx hby hml hown hnm hret hZ X0 e0 => ?_)
  have N0 := Fr.nil n0
  have lt1 := own_l P0.lt
  obtain ⟨T2, X2, e2, st2⟩ := getF X0 hx hZ hown (host := "") (Or.inl (w_61 hw)) Via.refl e0 P0 (g := (mkF m 1 #[vA a_] [(.ref a_)])) rfl rfl (hb hby d114)
  refine ⟨_, _, _, _, some (.int 1), X2, by decide, by decide, nofun, ?_, fun fs hr => castTop (ef_2 m a_) ?_⟩
  · show Q_em0 Z a_ h0 n0 _ T2.heap _
    rw [(e2 : T2.heap = h0)]
    exact ⟨rfl, N0, rfl⟩
  · show Steps _ _ _ (s₁.setTop (mkF m 0 #[vA a_] [])) _
    refine XS.aloadN X0.here hx rfl (hb hby d113) rfl rfl ?_
    refine st2 _ ?_
    show Steps _ _ _ (T2.setTop (mkF m 4 #[vA a_] [(.int 0)])) _
    refine XS.ifNo X2.here hx rfl (hb hby d115) rfl ((if0 _ _).trans (teq ((by decide) : (0 : Int32) = (0 : Int32))).2) ?_
    refine XS.iconst X2.here hx rfl (hb hby d116) ?_
    refine XS.goto X2.here hx rfl (pc0 := 8) (pc' := 12) rfl (hb hby d117) (by decide) (by decide) ?_
    exact retN X2 hx (t := .boolean) hret (by simp) (hb hby d118) hr
theorem d119 : decode jdk_38_method_9_code 11 = .ok (.iconst 0, 1) := by decide +kernel
def Q_em1 (Z : State) (a_ : Addr) (h0 : Heap) (n0 : Nat) (v : Option Value) (h : Heap) (L : List Loc) : Prop := (v = some (.int 0)) ∧ (Fr n0 L) ∧ (h = h0)
theorem rm_em1 (l : Launch) (Z : State) (a0 : Array Value) (hw : HW Z a0) (ws : List Jvm.Cond) (a_ : Addr) (h0 : Heap) (n0 : Nat) (Z0 : n0 ≤ h0.size) (P0 : fld2 Z h0 a_ (.int 1)) :
    MF l Z m_13 jdk_38_method_9_code 1 (some .boolean) ws (oR 0 0 0 0) #[(.ref a_)] h0 (Q_em1 Z a_ h0 n0) := by
  refine own_body (cls := "java/util/ArrayList") (plainFor_of_name pn_4) rfl (fun p e s m below meth c s₁ hx hby hml hown hnm hret hZ X0 e0 => ?_)
  have N0 := Fr.nil n0
  have lt1 := own_l P0.lt
  obtain ⟨T2, X2, e2, st2⟩ := getF X0 hx hZ hown (host := "") (Or.inl (w_61 hw)) Via.refl e0 P0 (g := (mkF m 1 #[vA a_] [(.ref a_)])) rfl rfl (hb hby d114)
  refine ⟨_, _, _, _, some (.int 0), X2, by decide, by decide, nofun, ?_, fun fs hr => castTop (ef_2 m a_) ?_⟩
  · show Q_em1 Z a_ h0 n0 _ T2.heap _
    rw [(e2 : T2.heap = h0)]
    exact ⟨rfl, N0, rfl⟩
  · show Steps _ _ _ (s₁.setTop (mkF m 0 #[vA a_] [])) _
    refine XS.aloadN X0.here hx rfl (hb hby d113) rfl rfl ?_
    refine st2 _ ?_
    show Steps _ _ _ (T2.setTop (mkF m 4 #[vA a_] [(.int 1)])) _
    refine XS.ifYes X2.here hx rfl (pc0 := 4) (pc' := 11) rfl (hb hby d115) rfl ((if0 _ _).trans (feq ((by decide) : ¬ ((1 : Int32) = (0 : Int32)))).2) (by decide) (by decide) ?_
    refine XS.iconst X2.here hx rfl (hb hby d119) ?_
    exact retN X2 hx (t := .boolean) hret (by simp) (hb hby d118) hr
def Q_em2 (Z : State) (a_ : Addr) (h0 : Heap) (n0 : Nat) (v : Option Value) (h : Heap) (L : List Loc) : Prop := (v = some (.int 0)) ∧ (Fr n0 L) ∧ (h = h0)
theorem rm_em2 (l : Launch) (Z : State) (a0 : Array Value) (hw : HW Z a0) (ws : List Jvm.Cond) (a_ : Addr) (h0 : Heap) (n0 : Nat) (Z0 : n0 ≤ h0.size) (P0 : fld2 Z h0 a_ (.int 2)) :
    MF l Z m_13 jdk_38_method_9_code 1 (some .boolean) ws (oR 0 0 0 0) #[(.ref a_)] h0 (Q_em2 Z a_ h0 n0) := by
  refine own_body (cls := "java/util/ArrayList") (plainFor_of_name pn_4) rfl (fun p e s m below meth c s₁ hx hby hml hown hnm hret hZ X0 e0 => ?_)
  have N0 := Fr.nil n0
  have lt1 := own_l P0.lt
  obtain ⟨T2, X2, e2, st2⟩ := getF X0 hx hZ hown (host := "") (Or.inl (w_61 hw)) Via.refl e0 P0 (g := (mkF m 1 #[vA a_] [(.ref a_)])) rfl rfl (hb hby d114)
  refine ⟨_, _, _, _, some (.int 0), X2, by decide, by decide, nofun, ?_, fun fs hr => castTop (ef_2 m a_) ?_⟩
  · show Q_em2 Z a_ h0 n0 _ T2.heap _
    rw [(e2 : T2.heap = h0)]
    exact ⟨rfl, N0, rfl⟩
  · show Steps _ _ _ (s₁.setTop (mkF m 0 #[vA a_] [])) _
    refine XS.aloadN X0.here hx rfl (hb hby d113) rfl rfl ?_
    refine st2 _ ?_
    show Steps _ _ _ (T2.setTop (mkF m 4 #[vA a_] [(.int 2)])) _
    refine XS.ifYes X2.here hx rfl (pc0 := 4) (pc' := 11) rfl (hb hby d115) rfl ((if0 _ _).trans (feq ((by decide) : ¬ ((2 : Int32) = (0 : Int32)))).2) (by decide) (by decide) ?_
    refine XS.iconst X2.here hx rfl (hb hby d119) ?_
    exact retN X2 hx (t := .boolean) hret (by simp) (hb hby d118) hr
def Q_em3 (Z : State) (a_ : Addr) (h0 : Heap) (n0 : Nat) (v : Option Value) (h : Heap) (L : List Loc) : Prop := (v = some (.int 0)) ∧ (Fr n0 L) ∧ (h = h0)
theorem rm_em3 (l : Launch) (Z : State) (a0 : Array Value) (hw : HW Z a0) (ws : List Jvm.Cond) (a_ : Addr) (h0 : Heap) (n0 : Nat) (Z0 : n0 ≤ h0.size) (P0 : fld2 Z h0 a_ (.int 3)) :
    MF l Z m_13 jdk_38_method_9_code 1 (some .boolean) ws (oR 0 0 0 0) #[(.ref a_)] h0 (Q_em3 Z a_ h0 n0) := by
  refine own_body (cls := "java/util/ArrayList") (plainFor_of_name pn_4) rfl (fun p e s m below meth c s₁ hx hby hml hown hnm hret hZ X0 e0 => ?_)
  have N0 := Fr.nil n0
  have lt1 := own_l P0.lt
  obtain ⟨T2, X2, e2, st2⟩ := getF X0 hx hZ hown (host := "") (Or.inl (w_61 hw)) Via.refl e0 P0 (g := (mkF m 1 #[vA a_] [(.ref a_)])) rfl rfl (hb hby d114)
  refine ⟨_, _, _, _, some (.int 0), X2, by decide, by decide, nofun, ?_, fun fs hr => castTop (ef_2 m a_) ?_⟩
  · show Q_em3 Z a_ h0 n0 _ T2.heap _
    rw [(e2 : T2.heap = h0)]
    exact ⟨rfl, N0, rfl⟩
  · show Steps _ _ _ (s₁.setTop (mkF m 0 #[vA a_] [])) _
    refine XS.aloadN X0.here hx rfl (hb hby d113) rfl rfl ?_
    refine st2 _ ?_
    show Steps _ _ _ (T2.setTop (mkF m 4 #[vA a_] [(.int 3)])) _
    refine XS.ifYes X2.here hx rfl (pc0 := 4) (pc' := 11) rfl (hb hby d115) rfl ((if0 _ _).trans (feq ((by decide) : ¬ ((3 : Int32) = (0 : Int32)))).2) (by decide) (by decide) ?_
    refine XS.iconst X2.here hx rfl (hb hby d119) ?_
    exact retN X2 hx (t := .boolean) hret (by simp) (hb hby d118) hr
theorem w_201 {Z : State} {a0 : Array Value} (hw : HW Z a0) : (Jvm.Cond.fieldLink "java/util/List" (90 : Nat) "java/util/ImmutableCollections" "EMPTY_LIST" "Ljava/util/ImmutableCollections$ListN;").before a0 Z = true := hw _ (List.mem_of_getElem? (i := 201) rfl)
theorem d120 : decode jdk_40_method_36_code 0 = .ok (.getstatic 90, 3) := by decide +kernel
theorem d121 : decode jdk_40_method_36_code 3 = .ok (.areturn, 1) := by decide +kernel
theorem pn_6 : plainName "java/util/List" = true := by first | (simp [plainName, overriddenIn]; done) | decide +kernel
theorem ef_7 (m : MethodId) : entryFrame m #[] 0 = mkF m 0 #[] [] := by first | (simp [entryFrame, mkF, argsToLocals, Value.category, maxLocals]; done) | rfl
abbrev m_14 : MethodName := (⟨"java/util/List", "of", "()Ljava/util/List;"⟩ : MethodName)
def Q_of0 (Z : State) (el : Addr) (h0 : Heap) (n0 : Nat) (v : Option Value) (h : Heap) (L : List Loc) : Prop := (v = some (.ref el)) ∧ (Fr n0 L) ∧ (h = h0)
theorem rm_of0 (l : Launch) (Z : State) (a0 : Array Value) (hw : HW Z a0) (ws : List Jvm.Cond) (el : Addr) (h0 : Heap) (n0 : Nat) (Z0 : n0 ≤ h0.size) (P0 : Old Z n0 h0) (P1 : sta2 Z (.ref el)) :
    MF l Z m_14 jdk_40_method_36_code 0 (some (.object "java/util/List")) ws (oR 0 0 0 0) #[] h0 (Q_of0 Z el h0 n0) := by
  refine own_body (cls := "java/util/List") (plainFor_of_name pn_6) rfl (fun p e s m below meth c s₁ hx hby hml hown hnm hret hZ X0 e0 => ?_)
  have N0 := Fr.nil n0
  obtain ⟨T1, X1, e1, st1⟩ := getS2 X0 hx hZ hown (host := "") (Or.inl (w_201 hw)) Via.refl e0 (P1.ext P0.2) (g := (mkF m 0 #[] [])) rfl (hb hby d120)
  refine ⟨_, _, _, _, some (.ref el), X1, by decide, by decide, nofun, ?_, fun fs hr => castTop (ef_7 m ) ?_⟩
  · show Q_of0 Z el h0 n0 _ T1.heap _
    rw [(e1 : T1.heap = h0)]
    exact ⟨rfl, N0, rfl⟩
  · show Steps _ _ _ (s₁.setTop (mkF m 0 #[] [])) _
    refine st1 _ ?_
    show Steps _ _ _ (T1.setTop (mkF m 3 #[] [(.ref el)])) _
    exact retOut X1 hx hret (own_narrow_ref rfl) (Or.inr (Or.inr (Or.inr (Or.inr ⟨rfl, rfl, rfl⟩)))) (hb hby d121) hr
theorem d122 : decode jdk_56_method_3_code 0 = .ok (.aload_n 0, 1) := by decide +kernel
theorem w_121 {Z : State} {a0 : Array Value} (hw : HW Z a0) : (Jvm.Cond.classLink "java/util/ImmutableCollections" (10 : Nat) "java/util/ImmutableCollections$List12").before a0 Z = true := hw _ (List.mem_of_getElem? (i := 121) rfl)
theorem w_125 {Z : State} {a0 : Array Value} (hw : HW Z a0) : (Jvm.Cond.noSuperclass "java/lang/Object").before a0 Z = true := hw _ (List.mem_of_getElem? (i := 125) rfl)
theorem w_170 {Z : State} {a0 : Array Value} (hw : HW Z a0) : (Jvm.Cond.instantiable "java/util/ImmutableCollections$List12" (2 : Nat)).before a0 Z = true := hw _ (List.mem_of_getElem? (i := 170) rfl)
theorem w_124 {Z : State} {a0 : Array Value} (hw : HW Z a0) : (Jvm.Cond.superclass "java/util/AbstractCollection" "java/lang/Object").before a0 Z = true := hw _ (List.mem_of_getElem? (i := 124) rfl)
theorem w_123 {Z : State} {a0 : Array Value} (hw : HW Z a0) : (Jvm.Cond.superclass "java/util/AbstractList" "java/util/AbstractCollection").before a0 Z = true := hw _ (List.mem_of_getElem? (i := 123) rfl)
theorem w_122 {Z : State} {a0 : Array Value} (hw : HW Z a0) : (Jvm.Cond.superclass "java/util/ArrayList" "java/util/AbstractList").before a0 Z = true := hw _ (List.mem_of_getElem? (i := 122) rfl)
theorem d123 : decode jdk_56_method_3_code 1 = .ok (.instanceof 10, 3) := by decide +kernel
theorem d124 : decode jdk_56_method_3_code 4 = .ok (.ifCond .ne 22, 3) := by decide +kernel
theorem d125 : decode jdk_56_method_3_code 7 = .ok (.aload_n 0, 1) := by decide +kernel
theorem w_126 {Z : State} {a0 : Array Value} (hw : HW Z a0) : (Jvm.Cond.classLink "java/util/ImmutableCollections" (12 : Nat) "java/util/ImmutableCollections$ListN").before a0 Z = true := hw _ (List.mem_of_getElem? (i := 126) rfl)
theorem w_346 {Z : State} {a0 : Array Value} (hw : HW Z a0) : (Jvm.Cond.instantiable "java/util/ImmutableCollections$ListN" (2 : Nat)).before a0 Z = true := hw _ (List.mem_of_getElem? (i := 346) rfl)
theorem d126 : decode jdk_56_method_3_code 8 = .ok (.instanceof 12, 3) := by decide +kernel
theorem d127 : decode jdk_56_method_3_code 11 = .ok (.ifCond .eq 20, 3) := by decide +kernel
theorem d128 : decode jdk_56_method_3_code 31 = .ok (.aload_n 0, 1) := by decide +kernel
abbrev m_15 : MethodName := (⟨"java/util/Collection", "isEmpty", "()Z"⟩ : MethodName)
theorem w_127 {Z : State} {a0 : Array Value} (hw : HW Z a0) : (Jvm.Cond.methodLink "java/util/ImmutableCollections" (20 : Nat) m_15).before a0 Z = true := hw _ (List.mem_of_getElem? (i := 127) rfl)
theorem w_135 {Z : State} {a0 : Array Value} (hw : HW Z a0) : (Jvm.Cond.code m_13 jdk_38_method_9_code (1 : Nat) (Option.some FieldType.boolean)).before a0 Z = true := hw _ (List.mem_of_getElem? (i := 135) rfl)
theorem pd_8 : parseMethodDescriptor "()Z" = some ⟨[], some .boolean⟩ := by decide +kernel
theorem d129 : decode jdk_56_method_3_code 32 = .ok (.invokeinterface 20 1, 5) := by decide +kernel
theorem w_128 {Z : State} {a0 : Array Value} (hw : HW Z a0) : (Jvm.Cond.declares m_15).before a0 Z = true := hw _ (List.mem_of_getElem? (i := 128) rfl)
theorem w_129 {Z : State} {a0 : Array Value} (hw : HW Z a0) : (Jvm.Cond.interfaceMethod "java/util/Collection" "java/util/Collection" "isEmpty" "()Z").before a0 Z = true := hw _ (List.mem_of_getElem? (i := 129) rfl)
theorem w_130 {Z : State} {a0 : Array Value} (hw : HW Z a0) : (Jvm.Cond.selects "java/util/ArrayList" m_15 m_13).before a0 Z = true := hw _ (List.mem_of_getElem? (i := 130) rfl)
theorem w_131 {Z : State} {a0 : Array Value} (hw : HW Z a0) : (Jvm.Cond.instanceMethod m_13).before a0 Z = true := hw _ (List.mem_of_getElem? (i := 131) rfl)
theorem w_132 {Z : State} {a0 : Array Value} (hw : HW Z a0) : (Jvm.Cond.publicMethod m_13).before a0 Z = true := hw _ (List.mem_of_getElem? (i := 132) rfl)
theorem w_133 {Z : State} {a0 : Array Value} (hw : HW Z a0) : (Jvm.Cond.unhidden "java/util/ArrayList" "isEmpty" "()Z").before a0 Z = true := hw _ (List.mem_of_getElem? (i := 133) rfl)
theorem w_134 {Z : State} {a0 : Array Value} (hw : HW Z a0) : (Jvm.Cond.castable "java/util/ArrayList" "java/util/Collection").before a0 Z = true := hw _ (List.mem_of_getElem? (i := 134) rfl)
theorem d130 : decode jdk_56_method_3_code 37 = .ok (.ifCond .eq 7, 3) := by decide +kernel
theorem w_198 {Z : State} {a0 : Array Value} (hw : HW Z a0) : (Jvm.Cond.methodLink "java/util/ImmutableCollections" (26 : Nat) m_14).before a0 Z = true := hw _ (List.mem_of_getElem? (i := 198) rfl)
theorem w_200 {Z : State} {a0 : Array Value} (hw : HW Z a0) : (Jvm.Cond.code m_14 jdk_40_method_36_code (0 : Nat) (Option.some (FieldType.object "java/util/List"))).before a0 Z = true := hw _ (List.mem_of_getElem? (i := 200) rfl)
theorem w_115 {Z : State} {a0 : Array Value} (hw : HW Z a0) : (Jvm.Cond.initialized "java/util/List").before a0 Z = true := hw _ (List.mem_of_getElem? (i := 115) rfl)
theorem pd_9 : parseMethodDescriptor "()Ljava/util/List;" = some ⟨[], some (.object "java/util/List")⟩ := by decide +kernel
theorem d131 : decode jdk_56_method_3_code 40 = .ok (.invokestatic 26, 3) := by decide +kernel
theorem w_199 {Z : State} {a0 : Array Value} (hw : HW Z a0) : (Jvm.Cond.static m_14).before a0 Z = true := hw _ (List.mem_of_getElem? (i := 199) rfl)
theorem d132 : decode jdk_56_method_3_code 43 = .ok (.areturn, 1) := by decide +kernel
theorem pn_7 : plainName "java/util/ImmutableCollections" = true := by first | (simp [plainName, overriddenIn]; done) | decide +kernel
theorem ef_8 (m : MethodId) (x0 : Addr) : entryFrame m #[(.ref x0)] 2 = mkF m 0 #[vA x0, .unset] [] := by first | (simp [entryFrame, mkF, argsToLocals, Value.category, maxLocals]; done) | rfl
abbrev m_16 : MethodName := (⟨"java/util/ImmutableCollections", "listCopy", "(Ljava/util/Collection;)Ljava/util/List;"⟩ : MethodName)
def Q_lc0 (Z : State) (a_ : Addr) (el : Addr) (h0 : Heap) (n0 : Nat) (v : Option Value) (h : Heap) (L : List Loc) : Prop := (v = some (.ref el)) ∧ (Fr n0 L) ∧ (h = h0)
theorem rm_lc0 (l : Launch) (Z : State) (a0 : Array Value) (hw : HW Z a0) (ws : List Jvm.Cond) (a_ : Addr) (el : Addr) (h0 : Heap) (n0 : Nat) (Z0 : n0 ≤ h0.size) (P0 : Old Z n0 h0) (P1 : sta2 Z (.ref el)) (P2 : Exa Z h0 a_ "java/util/ArrayList") (P3 : fld2 Z h0 a_ (.int 0)) :
    MF l Z m_16 jdk_56_method_3_code 2 (some (.object "java/util/List")) ws (oR 1 0 0 12) #[(.ref a_)] h0 (Q_lc0 Z a_ el h0 n0) := by
  refine own_body (cls := "java/util/ImmutableCollections") (plainFor_of_name pn_7) rfl (fun p e s m below meth c s₁ hx hby hml hown hnm hret hZ X0 e0 => ?_)
  have N0 := Fr.nil n0
  have lt1 := own_l P2.lt
  have lt2 := own_l P3.lt
  obtain ⟨T3, X3, e3, st3⟩ := instNo X0 hx hZ hown (w_121 hw) e0 P2 (own_nsno (w_122 hw) (w_170 hw) (NS.step (w_122 hw) (NS.step (w_123 hw) (NS.step (w_124 hw) (own_nsroot (w_125 hw) (w_170 hw) (by decide)) (by decide)) (by decide)) (by decide)) (by decide)) (g := (mkF m 1 #[vA a_, .unset] [(.ref a_)])) rfl rfl (hb hby d123)
  obtain ⟨T4, X4, e4, st4⟩ := instNo X3 hx hZ hown (w_126 hw) e3 P2 (own_nsno (w_122 hw) (w_346 hw) (NS.step (w_122 hw) (NS.step (w_123 hw) (NS.step (w_124 hw) (own_nsroot (w_125 hw) (w_346 hw) (by decide)) (by decide)) (by decide)) (by decide)) (by decide)) (g := (mkF m 8 #[vA a_, .unset] [(.ref a_)])) rfl rfl (hb hby d126)
  obtain ⟨cq5, kq5, qa5, qb5, qc5⟩ := isOf hZ e4 P2
  obtain ⟨_, _, ⟨T5, L5, k5, n5⟩, -, X5, ⟨Lc5, hQ5, l5, y5, z5⟩, st5⟩ := X4.interfaceBack hx (xi := m_15) (y := m_13) (C := "java/util/ArrayList") hown (mvT hZ (w_127 hw)) (mvT hZ (w_128 hw)) (mvT hZ (w_129 hw)) (mvT hZ (w_130 hw)) (mvT hZ (w_131 hw)) (mvT hZ (w_132 hw)) (mvT hZ (w_133 hw)) (mvT hZ (w_134 hw)) (by decide) (backOf (W := 0) (rm_em0 l Z a0 hw [] a_ h0 n0 (by omega) P3) hZ (w_135 hw) (w_28 hw) (by decide) (by decide)) qa5 qb5 qc5 (g := (mkF m 32 #[vA a_, .unset] [(.ref a_)])) rfl (by rw [hml]; rfl) (Steps.refl _) (argsL := []) (rest := []) (lenOf pd_8 rfl) rfl (Nat.le_of_eq rfl) (hb hby d129) (fun _ _ => ⟨rfl, e4, (by decide : 0 + 0 ≤ _), (by decide : 0 + 0 ≤ _)⟩)
  dsimp only [Pt.U, Pt.locs, Pt.cells, Pt.slots] at X5 l5 y5 z5 st5 hQ5
  rw [l5, y5, z5] at X5
  obtain ⟨rfl, Nq5, Kq5⟩ := hQ5
  have N5 := Fr.app N0 Nq5
  obtain ⟨_, _, ⟨T6, L6, k6, n6⟩, -, X6, ⟨Lc6, hQ6, l6, y6, z6⟩, st6⟩ := Jvm.LawKit.callS X5 hx (y := m_14) hown (mvT hZ (w_198 hw)) (mvT hZ (w_199 hw)) (mvT hZ (w_115 hw)) (mvT hZ (w_200 hw)) (by decide) (backOf (W := 0) (rm_of0 l Z a0 hw [] el h0 n0 (by omega) P0 P1) hZ (w_200 hw) (w_115 hw) (by decide) (by decide)) (g := (mkF m 40 #[vA a_, .unset] [])) rfl (by rw [hml]; rfl) (argsL := []) (rest := []) (lenOf pd_9 rfl) rfl (Nat.le_of_eq rfl) (hb hby d131) (fun _ _ => ⟨rfl, Kq5, (by decide : 0 + 0 ≤ _), (by decide : 0 + 0 ≤ _)⟩)
  dsimp only [Pt.U, Pt.locs, Pt.cells, Pt.slots] at X6 l6 y6 z6 st6 hQ6
  rw [l6, y6, z6] at X6
  obtain ⟨rfl, Nq6, Kq6⟩ := hQ6
  have N6 := Fr.app N5 Nq6
  refine ⟨_, _, _, _, some (.ref el), X6, by decide, by decide, nofun, ?_, fun fs hr => castTop (ef_8 m a_) ?_⟩
  · show Q_lc0 Z a_ el h0 n0 _ T6.heap _
    rw [(Kq6 : T6.heap = h0)]
    exact ⟨rfl, N6, rfl⟩
  · show Steps _ _ _ (s₁.setTop (mkF m 0 #[vA a_, .unset] [])) _
    refine XS.aloadN X0.here hx rfl (hb hby d122) rfl rfl ?_
    refine st3 _ ?_
    show Steps _ _ _ (T3.setTop (mkF m 4 #[vA a_, .unset] [(.int 0)])) _
    refine XS.ifNo X3.here hx rfl (hb hby d124) rfl ((if0 _ _).trans (teq ((by decide) : (0 : Int32) = (0 : Int32))).2) ?_
    refine XS.aloadN X3.here hx rfl (hb hby d125) rfl rfl ?_
    refine st4 _ ?_
    show Steps _ _ _ (T4.setTop (mkF m 11 #[vA a_, .unset] [(.int 0)])) _
    refine XS.ifYes X4.here hx rfl (pc0 := 11) (pc' := 31) rfl (hb hby d127) rfl ((if0 _ _).trans (teq ((by decide) : (0 : Int32) = (0 : Int32))).1) (by decide) (by decide) ?_
    refine XS.aloadN X4.here hx rfl (hb hby d128) rfl rfl ?_
    refine st5.trans ?_
    show Steps _ _ _ (T5.setTop (mkF m 37 #[vA a_, .unset] [(.int 1)])) _
    refine XS.ifNo X5.here hx rfl (hb hby d130) rfl ((if0 _ _).trans (feq ((by decide) : ¬ ((1 : Int32) = (0 : Int32)))).1) ?_
    refine st6 _ ?_
    show Steps _ _ _ (T6.setTop (mkF m 43 #[vA a_, .unset] [(.ref el)])) _
    exact retOut X6 hx hret (own_narrow_ref rfl) (Or.inr (Or.inr (Or.inr (Or.inr ⟨rfl, rfl, rfl⟩)))) (hb hby d132) hr
theorem d133 : decode jdk_40_method_48_code 0 = .ok (.aload_n 0, 1) := by decide +kernel
theorem w_117 {Z : State} {a0 : Array Value} (hw : HW Z a0) : (Jvm.Cond.methodLink "java/util/List" (112 : Nat) m_16).before a0 Z = true := hw _ (List.mem_of_getElem? (i := 117) rfl)
theorem w_120 {Z : State} {a0 : Array Value} (hw : HW Z a0) : (Jvm.Cond.code m_16 jdk_56_method_3_code (2 : Nat) (Option.some (FieldType.object "java/util/List"))).before a0 Z = true := hw _ (List.mem_of_getElem? (i := 120) rfl)
theorem w_119 {Z : State} {a0 : Array Value} (hw : HW Z a0) : (Jvm.Cond.initialized "java/util/ImmutableCollections").before a0 Z = true := hw _ (List.mem_of_getElem? (i := 119) rfl)
theorem pd_10 : parseMethodDescriptor "(Ljava/util/Collection;)Ljava/util/List;" = some ⟨[(.object "java/util/Collection")], some (.object "java/util/List")⟩ := by decide +kernel
theorem d134 : decode jdk_40_method_48_code 1 = .ok (.invokestatic 112, 3) := by decide +kernel
theorem w_118 {Z : State} {a0 : Array Value} (hw : HW Z a0) : (Jvm.Cond.static m_16).before a0 Z = true := hw _ (List.mem_of_getElem? (i := 118) rfl)
theorem d135 : decode jdk_40_method_48_code 4 = .ok (.areturn, 1) := by decide +kernel
abbrev m_17 : MethodName := (⟨"java/util/List", "copyOf", "(Ljava/util/Collection;)Ljava/util/List;"⟩ : MethodName)
def Q_cp0 (Z : State) (a_ : Addr) (el : Addr) (h0 : Heap) (n0 : Nat) (v : Option Value) (h : Heap) (L : List Loc) : Prop := (v = some (.ref el)) ∧ (Fr n0 L) ∧ (h = h0)
theorem rm_cp0 (l : Launch) (Z : State) (a0 : Array Value) (hw : HW Z a0) (ws : List Jvm.Cond) (a_ : Addr) (el : Addr) (h0 : Heap) (n0 : Nat) (Z0 : n0 ≤ h0.size) (P0 : Old Z n0 h0) (P1 : sta2 Z (.ref el)) (P2 : Exa Z h0 a_ "java/util/ArrayList") (P3 : fld2 Z h0 a_ (.int 0)) :
    MF l Z m_17 jdk_40_method_48_code 1 (some (.object "java/util/List")) ws (oR 2 0 0 25) #[(.ref a_)] h0 (Q_cp0 Z a_ el h0 n0) := by
  refine own_body (cls := "java/util/List") (plainFor_of_name pn_6) rfl (fun p e s m below meth c s₁ hx hby hml hown hnm hret hZ X0 e0 => ?_)
  have N0 := Fr.nil n0
  have lt1 := own_l P2.lt
  have lt2 := own_l P3.lt
  obtain ⟨_, _, ⟨T3, L3, k3, n3⟩, -, X3, ⟨Lc3, hQ3, l3, y3, z3⟩, st3⟩ := Jvm.LawKit.callS X0 hx (y := m_16) hown (mvT hZ (w_117 hw)) (mvT hZ (w_118 hw)) (mvT hZ (w_119 hw)) (mvT hZ (w_120 hw)) (by decide) (backOf (W := 0) (rm_lc0 l Z a0 hw [] a_ el h0 n0 (by omega) P0 P1 P2 P3) hZ (w_120 hw) (w_119 hw) (by decide) (by decide)) (g := (mkF m 1 #[vA a_] [(.ref a_)])) rfl (by rw [hml]; rfl) (argsL := [(.ref a_)]) (rest := []) (lenOf pd_10 rfl) rfl (Nat.le_of_eq rfl) (hb hby d134) (fun _ _ => ⟨rfl, e0, (by decide : 0 + 0 ≤ _), (by decide : 0 + 0 ≤ _)⟩)
  dsimp only [Pt.U, Pt.locs, Pt.cells, Pt.slots] at X3 l3 y3 z3 st3 hQ3
  rw [l3, y3, z3] at X3
  obtain ⟨rfl, Nq3, Kq3⟩ := hQ3
  have N3 := Fr.app N0 Nq3
  refine ⟨_, _, _, _, some (.ref el), X3, by decide, by decide, nofun, ?_, fun fs hr => castTop (ef_2 m a_) ?_⟩
  · show Q_cp0 Z a_ el h0 n0 _ T3.heap _
    rw [(Kq3 : T3.heap = h0)]
    exact ⟨rfl, N3, rfl⟩
  · show Steps _ _ _ (s₁.setTop (mkF m 0 #[vA a_] [])) _
    refine XS.aloadN X0.here hx rfl (hb hby d133) rfl rfl ?_
    refine st3 _ ?_
    show Steps _ _ _ (T3.setTop (mkF m 4 #[vA a_] [(.ref el)])) _
    exact retOut X3 hx hret (own_narrow_ref rfl) (Or.inr (Or.inr (Or.inr (Or.inr ⟨rfl, rfl, rfl⟩)))) (hb hby d135) hr
theorem d136 : decode jdk_47_method_1_code 0 = .ok (.aload_n 0, 1) := by decide +kernel
theorem w_188 {Z : State} {a0 : Array Value} (hw : HW Z a0) : (Jvm.Cond.methodLink "java/util/ImmutableCollections$AbstractImmutableCollection" (1 : Nat) m_5).before a0 Z = true := hw _ (List.mem_of_getElem? (i := 188) rfl)
theorem d137 : decode jdk_47_method_1_code 1 = .ok (.invokespecial 1, 3) := by decide +kernel
theorem d138 : decode jdk_47_method_1_code 4 = .ok (.return_, 1) := by decide +kernel
theorem pn_8 : plainName "java/util/ImmutableCollections$AbstractImmutableCollection" = true := by first | (simp [plainName, overriddenIn]; done) | decide +kernel
abbrev m_18 : MethodName := (⟨"java/util/ImmutableCollections$AbstractImmutableCollection", "<init>", "()V"⟩ : MethodName)
def Q_aic (Z : State) (a_ : Addr) (h0 : Heap) (n0 : Nat) (v : Option Value) (h : Heap) (L : List Loc) : Prop := (v = none) ∧ (Fr n0 L) ∧ (h = h0)
theorem rm_aic (l : Launch) (Z : State) (a0 : Array Value) (hw : HW Z a0) (ws : List Jvm.Cond) (a_ : Addr) (h0 : Heap) (n0 : Nat) (Z0 : n0 ≤ h0.size) :
    MF l Z m_18 jdk_47_method_1_code 1 none ws (oR 2 0 0 24) #[(.ref a_)] h0 (Q_aic Z a_ h0 n0) := by
  refine own_body (cls := "java/util/ImmutableCollections$AbstractImmutableCollection") (plainFor_of_name pn_8) rfl (fun p e s m below meth c s₁ hx hby hml hown hnm hret hZ X0 e0 => ?_)
  have N0 := Fr.nil n0
  obtain ⟨_, _, ⟨T1, L1, k1, n1⟩, -, X1, ⟨Lc1, hQ1, l1, y1, z1⟩, st1⟩ := X0.specialBack hx (y := m_5) rfl hown (mvT hZ (w_188 hw)) (mvT hZ (w_39 hw)) (mvT hZ (w_43 hw)) (by decide) (backOf (W := 0) (rm_aci l Z a0 hw [] a_ h0 n0 (by omega) ) hZ (w_43 hw) (w_42 hw) (by decide) (by decide)) (g := (mkF m 1 #[vA a_] [(.ref a_)])) rfl (by rw [hml]; rfl) (Steps.refl _) (a := a_) (argsL := []) (rest := []) (lenOf pd_3 rfl) rfl (Nat.le_of_eq rfl) (hb hby d137) (fun _ _ => ⟨rfl, e0, (by decide : 0 + 0 ≤ _), (by decide : 0 + 0 ≤ _)⟩)
  dsimp only [Pt.U, Pt.locs, Pt.cells, Pt.slots] at X1 l1 y1 z1 st1 hQ1
  rw [l1, y1, z1] at X1
  obtain ⟨rfl, Nq1, Kq1⟩ := hQ1
  have N1 := Fr.app N0 Nq1
  refine ⟨_, _, _, _, none, X1, by decide, by decide, fun _ => rfl, ?_, fun fs hr => castTop (ef_2 m a_) ?_⟩
  · show Q_aic Z a_ h0 n0 _ T1.heap _
    rw [(Kq1 : T1.heap = h0)]
    exact ⟨rfl, N1, rfl⟩
  · show Steps _ _ _ (s₁.setTop (mkF m 0 #[vA a_] [])) _
    refine XS.aloadN X0.here hx rfl (hb hby d136) rfl rfl ?_
    refine st1.trans ?_
    show Steps _ _ _ (T1.setTop (mkF m 4 #[vA a_] [])) _
    exact X1.returnOut hx hret (hb hby d138) hr
theorem d139 : decode jdk_46_method_1_code 0 = .ok (.aload_n 0, 1) := by decide +kernel
theorem w_182 {Z : State} {a0 : Array Value} (hw : HW Z a0) : (Jvm.Cond.methodLink "java/util/ImmutableCollections$AbstractImmutableList" (1 : Nat) m_18).before a0 Z = true := hw _ (List.mem_of_getElem? (i := 182) rfl)
theorem w_187 {Z : State} {a0 : Array Value} (hw : HW Z a0) : (Jvm.Cond.code m_18 jdk_47_method_1_code (1 : Nat) (Option.none : Option Jvm.ClassFile.FieldType)).before a0 Z = true := hw _ (List.mem_of_getElem? (i := 187) rfl)
theorem w_186 {Z : State} {a0 : Array Value} (hw : HW Z a0) : (Jvm.Cond.initialized "java/util/ImmutableCollections$AbstractImmutableCollection").before a0 Z = true := hw _ (List.mem_of_getElem? (i := 186) rfl)
theorem d140 : decode jdk_46_method_1_code 1 = .ok (.invokespecial 1, 3) := by decide +kernel
theorem w_183 {Z : State} {a0 : Array Value} (hw : HW Z a0) : (Jvm.Cond.instanceMethod m_18).before a0 Z = true := hw _ (List.mem_of_getElem? (i := 183) rfl)
theorem d141 : decode jdk_46_method_1_code 4 = .ok (.return_, 1) := by decide +kernel
theorem pn_9 : plainName "java/util/ImmutableCollections$AbstractImmutableList" = true := by first | (simp [plainName, overriddenIn]; done) | decide +kernel
abbrev m_19 : MethodName := (⟨"java/util/ImmutableCollections$AbstractImmutableList", "<init>", "()V"⟩ : MethodName)
def Q_ail (Z : State) (a_ : Addr) (h0 : Heap) (n0 : Nat) (v : Option Value) (h : Heap) (L : List Loc) : Prop := (v = none) ∧ (Fr n0 L) ∧ (h = h0)
theorem rm_ail (l : Launch) (Z : State) (a0 : Array Value) (hw : HW Z a0) (ws : List Jvm.Cond) (a_ : Addr) (h0 : Heap) (n0 : Nat) (Z0 : n0 ≤ h0.size) :
    MF l Z m_19 jdk_46_method_1_code 1 none ws (oR 3 0 0 36) #[(.ref a_)] h0 (Q_ail Z a_ h0 n0) := by
  refine own_body (cls := "java/util/ImmutableCollections$AbstractImmutableList") (plainFor_of_name pn_9) rfl (fun p e s m below meth c s₁ hx hby hml hown hnm hret hZ X0 e0 => ?_)
  have N0 := Fr.nil n0
  obtain ⟨_, _, ⟨T1, L1, k1, n1⟩, -, X1, ⟨Lc1, hQ1, l1, y1, z1⟩, st1⟩ := X0.specialBack hx (y := m_18) rfl hown (mvT hZ (w_182 hw)) (mvT hZ (w_183 hw)) (mvT hZ (w_187 hw)) (by decide) (backOf (W := 0) (rm_aic l Z a0 hw [] a_ h0 n0 (by omega) ) hZ (w_187 hw) (w_186 hw) (by decide) (by decide)) (g := (mkF m 1 #[vA a_] [(.ref a_)])) rfl (by rw [hml]; rfl) (Steps.refl _) (a := a_) (argsL := []) (rest := []) (lenOf pd_3 rfl) rfl (Nat.le_of_eq rfl) (hb hby d140) (fun _ _ => ⟨rfl, e0, (by decide : 0 + 0 ≤ _), (by decide : 0 + 0 ≤ _)⟩)
  dsimp only [Pt.U, Pt.locs, Pt.cells, Pt.slots] at X1 l1 y1 z1 st1 hQ1
  rw [l1, y1, z1] at X1
  obtain ⟨rfl, Nq1, Kq1⟩ := hQ1
  have N1 := Fr.app N0 Nq1
  refine ⟨_, _, _, _, none, X1, by decide, by decide, fun _ => rfl, ?_, fun fs hr => castTop (ef_2 m a_) ?_⟩
  · show Q_ail Z a_ h0 n0 _ T1.heap _
    rw [(Kq1 : T1.heap = h0)]
    exact ⟨rfl, N1, rfl⟩
  · show Steps _ _ _ (s₁.setTop (mkF m 0 #[vA a_] [])) _
    refine XS.aloadN X0.here hx rfl (hb hby d139) rfl rfl ?_
    refine st1.trans ?_
    show Steps _ _ _ (T1.setTop (mkF m 4 #[vA a_] [])) _
    exact X1.returnOut hx hret (hb hby d141) hr
theorem d142 : decode jdk_31_method_10_code 0 = .ok (.aload_n 0, 1) := by decide +kernel
theorem d143 : decode jdk_31_method_10_code 1 = .ok (.ifnonnull 11, 3) := by decide +kernel
theorem d144 : decode jdk_31_method_10_code 12 = .ok (.aload_n 0, 1) := by decide +kernel
theorem d145 : decode jdk_31_method_10_code 13 = .ok (.areturn, 1) := by decide +kernel
theorem pn_10 : plainName "java/util/Objects" = true := by first | (simp [plainName, overriddenIn]; done) | decide +kernel
abbrev m_20 : MethodName := (⟨"java/util/Objects", "requireNonNull", "(Ljava/lang/Object;)Ljava/lang/Object;"⟩ : MethodName)
def Q_rnn (Z : State) (it : Addr) (h0 : Heap) (n0 : Nat) (v : Option Value) (h : Heap) (L : List Loc) : Prop := (v = some (.ref it)) ∧ (Fr n0 L) ∧ (h = h0)
theorem rm_rnn (l : Launch) (Z : State) (a0 : Array Value) (hw : HW Z a0) (ws : List Jvm.Cond) (it : Addr) (h0 : Heap) (n0 : Nat) (Z0 : n0 ≤ h0.size) :
    MF l Z m_20 jdk_31_method_10_code 1 (some (.object "java/lang/Object")) ws (oR 0 0 0 0) #[(.ref it)] h0 (Q_rnn Z it h0 n0) := by
  refine own_body (cls := "java/util/Objects") (plainFor_of_name pn_10) rfl (fun p e s m below meth c s₁ hx hby hml hown hnm hret hZ X0 e0 => ?_)
  have N0 := Fr.nil n0
  refine ⟨_, _, _, _, some (.ref it), X0, by decide, by decide, nofun, ?_, fun fs hr => castTop (ef_2 m it) ?_⟩
  · show Q_rnn Z it h0 n0 _ s₁.heap _
    rw [(e0 : s₁.heap = h0)]
    exact ⟨rfl, N0, rfl⟩
  · show Steps _ _ _ (s₁.setTop (mkF m 0 #[vA it] [])) _
    refine XS.aloadN X0.here hx rfl (hb hby d142) rfl rfl ?_
    refine XS.ifnonnullYes X0.here hx rfl (pc0 := 1) (pc' := 12) rfl (hb hby d143) rfl (by decide) (by decide) ?_
    refine XS.aloadN X0.here hx rfl (hb hby d144) rfl rfl ?_
    exact retOut X0 hx hret (own_narrow_ref rfl) (Or.inr (Or.inr (Or.inr (Or.inr ⟨rfl, rfl, rfl⟩)))) (hb hby d145) hr
theorem d146 : decode jdk_44_method_1_code 0 = .ok (.aload_n 0, 1) := by decide +kernel
theorem w_176 {Z : State} {a0 : Array Value} (hw : HW Z a0) : (Jvm.Cond.methodLink "java/util/ImmutableCollections$List12" (1 : Nat) m_19).before a0 Z = true := hw _ (List.mem_of_getElem? (i := 176) rfl)
theorem w_181 {Z : State} {a0 : Array Value} (hw : HW Z a0) : (Jvm.Cond.code m_19 jdk_46_method_1_code (1 : Nat) (Option.none : Option Jvm.ClassFile.FieldType)).before a0 Z = true := hw _ (List.mem_of_getElem? (i := 181) rfl)
theorem w_180 {Z : State} {a0 : Array Value} (hw : HW Z a0) : (Jvm.Cond.initialized "java/util/ImmutableCollections$AbstractImmutableList").before a0 Z = true := hw _ (List.mem_of_getElem? (i := 180) rfl)
theorem d147 : decode jdk_44_method_1_code 1 = .ok (.invokespecial 1, 3) := by decide +kernel
theorem w_177 {Z : State} {a0 : Array Value} (hw : HW Z a0) : (Jvm.Cond.instanceMethod m_19).before a0 Z = true := hw _ (List.mem_of_getElem? (i := 177) rfl)
theorem d148 : decode jdk_44_method_1_code 4 = .ok (.aload_n 0, 1) := by decide +kernel
theorem d149 : decode jdk_44_method_1_code 5 = .ok (.aload_n 1, 1) := by decide +kernel
theorem w_190 {Z : State} {a0 : Array Value} (hw : HW Z a0) : (Jvm.Cond.methodLink "java/util/ImmutableCollections$List12" (7 : Nat) m_20).before a0 Z = true := hw _ (List.mem_of_getElem? (i := 190) rfl)
theorem w_193 {Z : State} {a0 : Array Value} (hw : HW Z a0) : (Jvm.Cond.code m_20 jdk_31_method_10_code (1 : Nat) (Option.some (FieldType.object "java/lang/Object"))).before a0 Z = true := hw _ (List.mem_of_getElem? (i := 193) rfl)
theorem w_192 {Z : State} {a0 : Array Value} (hw : HW Z a0) : (Jvm.Cond.initialized "java/util/Objects").before a0 Z = true := hw _ (List.mem_of_getElem? (i := 192) rfl)
theorem pd_11 : parseMethodDescriptor "(Ljava/lang/Object;)Ljava/lang/Object;" = some ⟨[(.object "java/lang/Object")], some (.object "java/lang/Object")⟩ := by decide +kernel
theorem d150 : decode jdk_44_method_1_code 6 = .ok (.invokestatic 7, 3) := by decide +kernel
theorem w_191 {Z : State} {a0 : Array Value} (hw : HW Z a0) : (Jvm.Cond.static m_20).before a0 Z = true := hw _ (List.mem_of_getElem? (i := 191) rfl)
theorem w_194 {Z : State} {a0 : Array Value} (hw : HW Z a0) : (Jvm.Cond.fieldLink "java/util/ImmutableCollections$List12" (13 : Nat) "java/util/ImmutableCollections$List12" "e0" "Ljava/lang/Object;").before a0 Z = true := hw _ (List.mem_of_getElem? (i := 194) rfl)
theorem w_195 {Z : State} {a0 : Array Value} (hw : HW Z a0) : (Jvm.Cond.laysFinal "java/util/ImmutableCollections$List12" "java/util/ImmutableCollections$List12" "e0" "Ljava/lang/Object;").before a0 Z = true := hw _ (List.mem_of_getElem? (i := 195) rfl)
theorem d151 : decode jdk_44_method_1_code 9 = .ok (.putfield 13, 3) := by decide +kernel
theorem d152 : decode jdk_44_method_1_code 12 = .ok (.aload_n 0, 1) := by decide +kernel
theorem w_340 {Z : State} {a0 : Array Value} (hw : HW Z a0) : (Jvm.Cond.fieldLinkNest "java/util/ImmutableCollections$List12" (19 : Nat) "java/util/ImmutableCollections" "EMPTY" "Ljava/lang/Object;" "java/util/ImmutableCollections").before a0 Z = true := hw _ (List.mem_of_getElem? (i := 340) rfl)
theorem d153 : decode jdk_44_method_1_code 13 = .ok (.getstatic 19, 3) := by decide +kernel
theorem w_196 {Z : State} {a0 : Array Value} (hw : HW Z a0) : (Jvm.Cond.fieldLink "java/util/ImmutableCollections$List12" (24 : Nat) "java/util/ImmutableCollections$List12" "e1" "Ljava/lang/Object;").before a0 Z = true := hw _ (List.mem_of_getElem? (i := 196) rfl)
theorem w_197 {Z : State} {a0 : Array Value} (hw : HW Z a0) : (Jvm.Cond.laysFinal "java/util/ImmutableCollections$List12" "java/util/ImmutableCollections$List12" "e1" "Ljava/lang/Object;").before a0 Z = true := hw _ (List.mem_of_getElem? (i := 197) rfl)
theorem d154 : decode jdk_44_method_1_code 16 = .ok (.putfield 24, 3) := by decide +kernel
theorem d155 : decode jdk_44_method_1_code 19 = .ok (.return_, 1) := by decide +kernel
theorem pn_11 : plainName "java/util/ImmutableCollections$List12" = true := by first | (simp [plainName, overriddenIn]; done) | decide +kernel
abbrev m_21 : MethodName := (⟨"java/util/ImmutableCollections$List12", "<init>", "(Ljava/lang/Object;)V"⟩ : MethodName)
def Q_l12a (Z : State) (a_ : Addr) (it : Addr) (em : Addr) (h0 : Heap) (n0 : Nat) (v : Option Value) (h : Heap) (L : List Loc) : Prop := (v = none) ∧ (Fr n0 L) ∧ (Keep h0 h [a_]) ∧ (Exa Z h a_ "java/util/ImmutableCollections$List12")
theorem rm_l12a (l : Launch) (Z : State) (a0 : Array Value) (hw : HW Z a0) (ws : List Jvm.Cond) (a_ : Addr) (it : Addr) (em : Addr) (h0 : Heap) (n0 : Nat) (Z0 : n0 ≤ h0.size) (P0 : Old Z n0 h0) (P1 : sta3 Z (.ref em)) (P2 : Exa Z h0 a_ "java/util/ImmutableCollections$List12") (P3 : fld8 Z h0 a_ .null) (P4 : fld9 Z h0 a_ .null) (P5 : n0 ≤ a_) :
    MF l Z m_21 jdk_44_method_1_code 2 none ws (oR 4 0 0 48) #[(.ref a_), (.ref it)] h0 (Q_l12a Z a_ it em h0 n0) := by
  refine own_body (cls := "java/util/ImmutableCollections$List12") (plainFor_of_name pn_11) rfl (fun p e s m below meth c s₁ hx hby hml hown hnm hret hZ X0 e0 => ?_)
  have N0 := Fr.nil n0
  have K0 := Keep.refl h0 [a_]
  have lt1 := own_l P2.lt
  have lt2 := own_l P3.lt
  have lt3 := own_l P4.lt
  obtain ⟨_, _, ⟨T4, L4, k4, n4⟩, -, X4, ⟨Lc4, hQ4, l4, y4, z4⟩, st4⟩ := X0.specialBack hx (y := m_19) rfl hown (mvT hZ (w_176 hw)) (mvT hZ (w_177 hw)) (mvT hZ (w_181 hw)) (by decide) (backOf (W := 0) (rm_ail l Z a0 hw [] a_ h0 n0 (by omega) ) hZ (w_181 hw) (w_180 hw) (by decide) (by decide)) (g := (mkF m 1 #[vA a_, vA it] [(.ref a_)])) rfl (by rw [hml]; rfl) (Steps.refl _) (a := a_) (argsL := []) (rest := []) (lenOf pd_3 rfl) rfl (Nat.le_of_eq rfl) (hb hby d147) (fun _ _ => ⟨rfl, e0, (by decide : 0 + 0 ≤ _), (by decide : 0 + 0 ≤ _)⟩)
  dsimp only [Pt.U, Pt.locs, Pt.cells, Pt.slots] at X4 l4 y4 z4 st4 hQ4
  rw [l4, y4, z4] at X4
  obtain ⟨rfl, Nq4, Kq4⟩ := hQ4
  have N4 := Fr.app N0 Nq4
  obtain ⟨_, _, ⟨T5, L5, k5, n5⟩, -, X5, ⟨Lc5, hQ5, l5, y5, z5⟩, st5⟩ := Jvm.LawKit.callS X4 hx (y := m_20) hown (mvT hZ (w_190 hw)) (mvT hZ (w_191 hw)) (mvT hZ (w_192 hw)) (mvT hZ (w_193 hw)) (by decide) (backOf (W := 1) (rm_rnn l Z a0 hw [] it h0 n0 (by omega) ) hZ (w_193 hw) (w_192 hw) (by decide) (by decide)) (g := (mkF m 6 #[vA a_, vA it] [(.ref it), (.ref a_)])) rfl (by rw [hml]; rfl) (argsL := [(.ref it)]) (rest := [(.ref a_)]) (lenOf pd_11 rfl) rfl (Nat.le_of_eq rfl) (hb hby d150) (fun _ _ => ⟨rfl, Kq4, (by decide : 0 + 0 ≤ _), (by decide : 0 + 0 ≤ _)⟩)
  dsimp only [Pt.U, Pt.locs, Pt.cells, Pt.slots] at X5 l5 y5 z5 st5 hQ5
  rw [l5, y5, z5] at X5
  obtain ⟨rfl, Nq5, Kq5⟩ := hQ5
  have N5 := Fr.app N4 Nq5
  obtain ⟨T6, h6, X6, e6, W6, st6⟩ := putF X5 hx hZ hown (host := "") (Or.inl (w_194 hw)) Via.refl Kq5 P3 P2 (Or.inr ⟨(w_195 hw), rfl, hnm⟩) (w_170 hw) (ty := (.object "java/lang/Object")) (by decide) rfl rfl (g := (mkF m 9 #[vA a_, vA it] [(.ref it), (.ref a_)])) rfl rfl (hb hby d151)
  have F6 := P3.same W6
  have z6 := W6.size
  have K6 := K0.wr W6 (Or.inl (List.mem_of_getElem? (i := 0) rfl))
  have N6 := Fr.snoc X6 N5 (by omega)
  have f8 := P0.wr W6 (by omega)
  obtain ⟨T7, X7, e7, st7⟩ := getS2 X6 hx hZ hown (Or.inr (w_340 hw)) Via.refl e6 (P1.ext f8.2) (g := (mkF m 13 #[vA a_, vA it] [(.ref a_)])) rfl (hb hby d153)
  have f10 := P4.other W6 (Or.inr (slot_ne (a0 := a0) (t := (.object "java/lang/Object")) (t' := (.object "java/lang/Object")) (Or.inr (w_197 hw)) (Or.inr (w_195 hw)) (by decide) (by decide) (by decide)))
  have f11 := P2.wr W6
  obtain ⟨T9, h9, X9, e9, W9, st9⟩ := putF X7 hx hZ hown (host := "") (Or.inl (w_196 hw)) Via.refl e7 f10 f11 (Or.inr ⟨(w_197 hw), rfl, hnm⟩) (w_170 hw) (ty := (.object "java/lang/Object")) (by decide) rfl rfl (g := (mkF m 16 #[vA a_, vA it] [(.ref em), (.ref a_)])) rfl rfl (hb hby d154)
  have F9 := f10.same W9
  have z9 := W9.size
  have K9 := K6.wr W9 (Or.inl (List.mem_of_getElem? (i := 0) rfl))
  have N9 := Fr.snoc X9 N6 (by omega)
  have f12 := f11.wr W9
  refine ⟨_, _, _, _, none, X9, by decide, by decide, fun _ => rfl, ?_, fun fs hr => castTop (ef_6 m a_ it) ?_⟩
  · show Q_l12a Z a_ it em h0 n0 _ T9.heap _
    rw [(e9 : T9.heap = h9)]
    exact ⟨rfl, N9, K9, f12⟩
  · show Steps _ _ _ (s₁.setTop (mkF m 0 #[vA a_, vA it] [])) _
    refine XS.aloadN X0.here hx rfl (hb hby d146) rfl rfl ?_
    refine st4.trans ?_
    show Steps _ _ _ (T4.setTop (mkF m 4 #[vA a_, vA it] [])) _
    refine XS.aloadN X4.here hx rfl (hb hby d148) rfl rfl ?_
    refine XS.aloadN X4.here hx rfl (hb hby d149) rfl rfl ?_
    refine st5 _ ?_
    show Steps _ _ _ (T5.setTop (mkF m 9 #[vA a_, vA it] [(.ref it), (.ref a_)])) _
    refine st6 _ ?_
    show Steps _ _ _ (T6.setTop (mkF m 12 #[vA a_, vA it] [])) _
    refine XS.aloadN X6.here hx rfl (hb hby d152) rfl rfl ?_
    refine st7 _ ?_
    show Steps _ _ _ (T7.setTop (mkF m 16 #[vA a_, vA it] [(.ref em), (.ref a_)])) _
    refine st9 _ ?_
    show Steps _ _ _ (T9.setTop (mkF m 19 #[vA a_, vA it] [])) _
    exact X9.returnOut hx hret (hb hby d155) hr
theorem d156 : decode jdk_44_method_2_code 0 = .ok (.aload_n 0, 1) := by decide +kernel
theorem d157 : decode jdk_44_method_2_code 1 = .ok (.invokespecial 1, 3) := by decide +kernel
theorem d158 : decode jdk_44_method_2_code 4 = .ok (.aload_n 0, 1) := by decide +kernel
theorem d159 : decode jdk_44_method_2_code 5 = .ok (.aload_n 1, 1) := by decide +kernel
theorem d160 : decode jdk_44_method_2_code 6 = .ok (.invokestatic 7, 3) := by decide +kernel
theorem d161 : decode jdk_44_method_2_code 9 = .ok (.putfield 13, 3) := by decide +kernel
theorem d162 : decode jdk_44_method_2_code 12 = .ok (.aload_n 0, 1) := by decide +kernel
theorem d163 : decode jdk_44_method_2_code 13 = .ok (.aload_n 2, 1) := by decide +kernel
theorem d164 : decode jdk_44_method_2_code 14 = .ok (.invokestatic 7, 3) := by decide +kernel
theorem d165 : decode jdk_44_method_2_code 17 = .ok (.putfield 24, 3) := by decide +kernel
theorem d166 : decode jdk_44_method_2_code 20 = .ok (.return_, 1) := by decide +kernel
theorem ef_9 (m : MethodId) (x0 : Addr) (x1 : Addr) (x2 : Addr) : entryFrame m #[(.ref x0), (.ref x1), (.ref x2)] 3 = mkF m 0 #[vA x0, vA x1, vA x2] [] := by first | (simp [entryFrame, mkF, argsToLocals, Value.category, maxLocals]; done) | rfl
abbrev m_22 : MethodName := (⟨"java/util/ImmutableCollections$List12", "<init>", "(Ljava/lang/Object;Ljava/lang/Object;)V"⟩ : MethodName)
def Q_l12b (Z : State) (a_ : Addr) (it : Addr) (iu : Addr) (h0 : Heap) (n0 : Nat) (v : Option Value) (h : Heap) (L : List Loc) : Prop := (v = none) ∧ (Fr n0 L) ∧ (Keep h0 h [a_]) ∧ (Exa Z h a_ "java/util/ImmutableCollections$List12")
theorem rm_l12b (l : Launch) (Z : State) (a0 : Array Value) (hw : HW Z a0) (ws : List Jvm.Cond) (a_ : Addr) (it : Addr) (iu : Addr) (h0 : Heap) (n0 : Nat) (Z0 : n0 ≤ h0.size) (P0 : Exa Z h0 a_ "java/util/ImmutableCollections$List12") (P1 : fld8 Z h0 a_ .null) (P2 : fld9 Z h0 a_ .null) (P3 : n0 ≤ a_) :
    MF l Z m_22 jdk_44_method_2_code 3 none ws (oR 4 0 0 48) #[(.ref a_), (.ref it), (.ref iu)] h0 (Q_l12b Z a_ it iu h0 n0) := by
  refine own_body (cls := "java/util/ImmutableCollections$List12") (plainFor_of_name pn_11) rfl (fun p e s m below meth c s₁ hx hby hml hown hnm hret hZ X0 e0 => ?_)
  have N0 := Fr.nil n0
  have K0 := Keep.refl h0 [a_]
  have lt1 := own_l P0.lt
  have lt2 := own_l P1.lt
  have lt3 := own_l P2.lt
  obtain ⟨_, _, ⟨T4, L4, k4, n4⟩, -, X4, ⟨Lc4, hQ4, l4, y4, z4⟩, st4⟩ := X0.specialBack hx (y := m_19) rfl hown (mvT hZ (w_176 hw)) (mvT hZ (w_177 hw)) (mvT hZ (w_181 hw)) (by decide) (backOf (W := 0) (rm_ail l Z a0 hw [] a_ h0 n0 (by omega) ) hZ (w_181 hw) (w_180 hw) (by decide) (by decide)) (g := (mkF m 1 #[vA a_, vA it, vA iu] [(.ref a_)])) rfl (by rw [hml]; rfl) (Steps.refl _) (a := a_) (argsL := []) (rest := []) (lenOf pd_3 rfl) rfl (Nat.le_of_eq rfl) (hb hby d157) (fun _ _ => ⟨rfl, e0, (by decide : 0 + 0 ≤ _), (by decide : 0 + 0 ≤ _)⟩)
  dsimp only [Pt.U, Pt.locs, Pt.cells, Pt.slots] at X4 l4 y4 z4 st4 hQ4
  rw [l4, y4, z4] at X4
  obtain ⟨rfl, Nq4, Kq4⟩ := hQ4
  have N4 := Fr.app N0 Nq4
  obtain ⟨_, _, ⟨T5, L5, k5, n5⟩, -, X5, ⟨Lc5, hQ5, l5, y5, z5⟩, st5⟩ := Jvm.LawKit.callS X4 hx (y := m_20) hown (mvT hZ (w_190 hw)) (mvT hZ (w_191 hw)) (mvT hZ (w_192 hw)) (mvT hZ (w_193 hw)) (by decide) (backOf (W := 1) (rm_rnn l Z a0 hw [] it h0 n0 (by omega) ) hZ (w_193 hw) (w_192 hw) (by decide) (by decide)) (g := (mkF m 6 #[vA a_, vA it, vA iu] [(.ref it), (.ref a_)])) rfl (by rw [hml]; rfl) (argsL := [(.ref it)]) (rest := [(.ref a_)]) (lenOf pd_11 rfl) rfl (Nat.le_of_eq rfl) (hb hby d160) (fun _ _ => ⟨rfl, Kq4, (by decide : 0 + 0 ≤ _), (by decide : 0 + 0 ≤ _)⟩)
  dsimp only [Pt.U, Pt.locs, Pt.cells, Pt.slots] at X5 l5 y5 z5 st5 hQ5
  rw [l5, y5, z5] at X5
  obtain ⟨rfl, Nq5, Kq5⟩ := hQ5
  have N5 := Fr.app N4 Nq5
  obtain ⟨T6, h6, X6, e6, W6, st6⟩ := putF X5 hx hZ hown (host := "") (Or.inl (w_194 hw)) Via.refl Kq5 P1 P0 (Or.inr ⟨(w_195 hw), rfl, hnm⟩) (w_170 hw) (ty := (.object "java/lang/Object")) (by decide) rfl rfl (g := (mkF m 9 #[vA a_, vA it, vA iu] [(.ref it), (.ref a_)])) rfl rfl (hb hby d161)
  have F6 := P1.same W6
  have z6 := W6.size
  have K6 := K0.wr W6 (Or.inl (List.mem_of_getElem? (i := 0) rfl))
  have N6 := Fr.snoc X6 N5 (by omega)
  obtain ⟨_, _, ⟨T7, L7, k7, n7⟩, -, X7, ⟨Lc7, hQ7, l7, y7, z7⟩, st7⟩ := Jvm.LawKit.callS X6 hx (y := m_20) hown (mvT hZ (w_190 hw)) (mvT hZ (w_191 hw)) (mvT hZ (w_192 hw)) (mvT hZ (w_193 hw)) (by decide) (backOf (W := 1) (rm_rnn l Z a0 hw [] iu h6 n0 (by omega) ) hZ (w_193 hw) (w_192 hw) (by decide) (by decide)) (g := (mkF m 14 #[vA a_, vA it, vA iu] [(.ref iu), (.ref a_)])) rfl (by rw [hml]; rfl) (argsL := [(.ref iu)]) (rest := [(.ref a_)]) (lenOf pd_11 rfl) rfl (Nat.le_of_eq rfl) (hb hby d164) (fun _ _ => ⟨rfl, e6, (by decide : 0 + 0 ≤ _), (by decide : 0 + 0 ≤ _)⟩)
  dsimp only [Pt.U, Pt.locs, Pt.cells, Pt.slots] at X7 l7 y7 z7 st7 hQ7
  rw [l7, y7, z7] at X7
  obtain ⟨rfl, Nq7, Kq7⟩ := hQ7
  have N7 := Fr.app N6 Nq7
  have f9 := P2.other W6 (Or.inr (slot_ne (a0 := a0) (t := (.object "java/lang/Object")) (t' := (.object "java/lang/Object")) (Or.inr (w_197 hw)) (Or.inr (w_195 hw)) (by decide) (by decide) (by decide)))
  have f10 := P0.wr W6
  obtain ⟨T8, h8, X8, e8, W8, st8⟩ := putF X7 hx hZ hown (host := "") (Or.inl (w_196 hw)) Via.refl Kq7 f9 f10 (Or.inr ⟨(w_197 hw), rfl, hnm⟩) (w_170 hw) (ty := (.object "java/lang/Object")) (by decide) rfl rfl (g := (mkF m 17 #[vA a_, vA it, vA iu] [(.ref iu), (.ref a_)])) rfl rfl (hb hby d165)
  have F8 := f9.same W8
  have z8 := W8.size
  have K8 := K6.wr W8 (Or.inl (List.mem_of_getElem? (i := 0) rfl))
  have N8 := Fr.snoc X8 N7 (by omega)
  have f11 := f10.wr W8
  refine ⟨_, _, _, _, none, X8, by decide, by decide, fun _ => rfl, ?_, fun fs hr => castTop (ef_9 m a_ it iu) ?_⟩
  · show Q_l12b Z a_ it iu h0 n0 _ T8.heap _
    rw [(e8 : T8.heap = h8)]
    exact ⟨rfl, N8, K8, f11⟩
  · show Steps _ _ _ (s₁.setTop (mkF m 0 #[vA a_, vA it, vA iu] [])) _
    refine XS.aloadN X0.here hx rfl (hb hby d156) rfl rfl ?_
    refine st4.trans ?_
    show Steps _ _ _ (T4.setTop (mkF m 4 #[vA a_, vA it, vA iu] [])) _
    refine XS.aloadN X4.here hx rfl (hb hby d158) rfl rfl ?_
    refine XS.aloadN X4.here hx rfl (hb hby d159) rfl rfl ?_
    refine st5 _ ?_
    show Steps _ _ _ (T5.setTop (mkF m 9 #[vA a_, vA it, vA iu] [(.ref it), (.ref a_)])) _
    refine st6 _ ?_
    show Steps _ _ _ (T6.setTop (mkF m 12 #[vA a_, vA it, vA iu] [])) _
    refine XS.aloadN X6.here hx rfl (hb hby d162) rfl rfl ?_
    refine XS.aloadN X6.here hx rfl (hb hby d163) rfl rfl ?_
    refine st7 _ ?_
    show Steps _ _ _ (T7.setTop (mkF m 17 #[vA a_, vA it, vA iu] [(.ref iu), (.ref a_)])) _
    refine st8 _ ?_
    show Steps _ _ _ (T8.setTop (mkF m 20 #[vA a_, vA it, vA iu] [])) _
    exact X8.returnOut hx hret (hb hby d166) hr
theorem d167 : decode jdk_45_method_1_code 0 = .ok (.aload_n 0, 1) := by decide +kernel
theorem w_352 {Z : State} {a0 : Array Value} (hw : HW Z a0) : (Jvm.Cond.methodLink "java/util/ImmutableCollections$ListN" (1 : Nat) m_19).before a0 Z = true := hw _ (List.mem_of_getElem? (i := 352) rfl)
theorem d168 : decode jdk_45_method_1_code 1 = .ok (.invokespecial 1, 3) := by decide +kernel
theorem d169 : decode jdk_45_method_1_code 4 = .ok (.aload_n 0, 1) := by decide +kernel
theorem d170 : decode jdk_45_method_1_code 5 = .ok (.aload_n 1, 1) := by decide +kernel
theorem w_356 {Z : State} {a0 : Array Value} (hw : HW Z a0) : (Jvm.Cond.fieldLink "java/util/ImmutableCollections$ListN" (7 : Nat) "java/util/ImmutableCollections$ListN" "elements" "[Ljava/lang/Object;").before a0 Z = true := hw _ (List.mem_of_getElem? (i := 356) rfl)
theorem w_357 {Z : State} {a0 : Array Value} (hw : HW Z a0) : (Jvm.Cond.laysFinal "java/util/ImmutableCollections$ListN" "java/util/ImmutableCollections$ListN" "elements" "[Ljava/lang/Object;").before a0 Z = true := hw _ (List.mem_of_getElem? (i := 357) rfl)
theorem d171 : decode jdk_45_method_1_code 6 = .ok (.putfield 7, 3) := by decide +kernel
theorem d172 : decode jdk_45_method_1_code 9 = .ok (.aload_n 0, 1) := by decide +kernel
theorem d173 : decode jdk_45_method_1_code 10 = .ok (.iload_n 2, 1) := by decide +kernel
theorem w_358 {Z : State} {a0 : Array Value} (hw : HW Z a0) : (Jvm.Cond.fieldLink "java/util/ImmutableCollections$ListN" (13 : Nat) "java/util/ImmutableCollections$ListN" "allowNulls" "Z").before a0 Z = true := hw _ (List.mem_of_getElem? (i := 358) rfl)
theorem w_359 {Z : State} {a0 : Array Value} (hw : HW Z a0) : (Jvm.Cond.laysFinal "java/util/ImmutableCollections$ListN" "java/util/ImmutableCollections$ListN" "allowNulls" "Z").before a0 Z = true := hw _ (List.mem_of_getElem? (i := 359) rfl)
theorem d174 : decode jdk_45_method_1_code 11 = .ok (.putfield 13, 3) := by decide +kernel
theorem d175 : decode jdk_45_method_1_code 14 = .ok (.return_, 1) := by decide +kernel
theorem pn_12 : plainName "java/util/ImmutableCollections$ListN" = true := by first | (simp [plainName, overriddenIn]; done) | decide +kernel
abbrev m_23 : MethodName := (⟨"java/util/ImmutableCollections$ListN", "<init>", "([Ljava/lang/Object;Z)V"⟩ : MethodName)
def Q_lni (Z : State) (a_ : Addr) (v_ : Addr) (h0 : Heap) (n0 : Nat) (v : Option Value) (h : Heap) (L : List Loc) : Prop := (v = none) ∧ (Fr n0 L) ∧ (Keep h0 h [a_]) ∧ (Exa Z h a_ "java/util/ImmutableCollections$ListN") ∧ (fld10 Z h a_ (.ref v_))
theorem rm_lni (l : Launch) (Z : State) (a0 : Array Value) (hw : HW Z a0) (ws : List Jvm.Cond) (a_ : Addr) (v_ : Addr) (h0 : Heap) (n0 : Nat) (Z0 : n0 ≤ h0.size) (P0 : Exa Z h0 a_ "java/util/ImmutableCollections$ListN") (P1 : fld10 Z h0 a_ .null) (P2 : Fld Z h0 a_ "java/util/ImmutableCollections$ListN" "allowNulls" "Z" (.int 0)) (P3 : n0 ≤ a_) :
    MF l Z m_23 jdk_45_method_1_code 3 none ws (oR 4 0 0 48) #[(.ref a_), (.ref v_), (.int 0)] h0 (Q_lni Z a_ v_ h0 n0) := by
  refine own_body (cls := "java/util/ImmutableCollections$ListN") (plainFor_of_name pn_12) rfl (fun p e s m below meth c s₁ hx hby hml hown hnm hret hZ X0 e0 => ?_)
  have N0 := Fr.nil n0
  have K0 := Keep.refl h0 [a_]
  have lt1 := own_l P0.lt
  have lt2 := own_l P1.lt
  have lt3 := own_l P2.lt
  obtain ⟨_, _, ⟨T4, L4, k4, n4⟩, -, X4, ⟨Lc4, hQ4, l4, y4, z4⟩, st4⟩ := X0.specialBack hx (y := m_19) rfl hown (mvT hZ (w_352 hw)) (mvT hZ (w_177 hw)) (mvT hZ (w_181 hw)) (by decide) (backOf (W := 0) (rm_ail l Z a0 hw [] a_ h0 n0 (by omega) ) hZ (w_181 hw) (w_180 hw) (by decide) (by decide)) (g := (mkF m 1 #[vA a_, vA v_, vI 0] [(.ref a_)])) rfl (by rw [hml]; rfl) (Steps.refl _) (a := a_) (argsL := []) (rest := []) (lenOf pd_3 rfl) rfl (Nat.le_of_eq rfl) (hb hby d168) (fun _ _ => ⟨rfl, e0, (by decide : 0 + 0 ≤ _), (by decide : 0 + 0 ≤ _)⟩)
  dsimp only [Pt.U, Pt.locs, Pt.cells, Pt.slots] at X4 l4 y4 z4 st4 hQ4
  rw [l4, y4, z4] at X4
  obtain ⟨rfl, Nq4, Kq4⟩ := hQ4
  have N4 := Fr.app N0 Nq4
  obtain ⟨T5, h5, X5, e5, W5, st5⟩ := putF X4 hx hZ hown (host := "") (Or.inl (w_356 hw)) Via.refl Kq4 P1 P0 (Or.inr ⟨(w_357 hw), rfl, hnm⟩) (w_346 hw) (ty := (.array (.object "java/lang/Object"))) (by decide) rfl rfl (g := (mkF m 6 #[vA a_, vA v_, vI 0] [(.ref v_), (.ref a_)])) rfl rfl (hb hby d171)
  have F5 := P1.same W5
  have z5 := W5.size
  have K5 := K0.wr W5 (Or.inl (List.mem_of_getElem? (i := 0) rfl))
  have N5 := Fr.snoc X5 N4 (by omega)
  have f7 := P2.other W5 (Or.inr (slot_ne (a0 := a0) (t := .boolean) (t' := (.array (.object "java/lang/Object"))) (Or.inr (w_359 hw)) (Or.inr (w_357 hw)) (by decide) (by decide) (by decide)))
  have f8 := P0.wr W5
  obtain ⟨T6, h6, X6, e6, W6, st6⟩ := putFN X5 hx hZ hown (w_358 hw) Via.refl e5 f7 f8 (Or.inr ⟨(w_359 hw), rfl, hnm⟩) (w_346 hw) (ty := .boolean) (v' := (.int 0)) (by decide) rfl rfl (g := (mkF m 11 #[vA a_, vA v_, vI 0] [(.int 0), (.ref a_)])) rfl rfl (hb hby d174)
  have F6 := f7.same W6
  have z6 := W6.size
  have K6 := K5.wr W6 (Or.inl (List.mem_of_getElem? (i := 0) rfl))
  have N6 := Fr.snoc X6 N5 (by omega)
  have f9 := f8.wr W6
  have f10 := F5.other W6 (Or.inr (slot_ne (a0 := a0) (t := (.array (.object "java/lang/Object"))) (t' := .boolean) (Or.inr (w_357 hw)) (Or.inr (w_359 hw)) (by decide) (by decide) (by decide)))
  refine ⟨_, _, _, _, none, X6, by decide, by decide, fun _ => rfl, ?_, fun fs hr => castTop (ef_1 m a_ v_ (0 : Int32)) ?_⟩
  · show Q_lni Z a_ v_ h0 n0 _ T6.heap _
    rw [(e6 : T6.heap = h6)]
    exact ⟨rfl, N6, K6, f9, f10⟩
  · show Steps _ _ _ (s₁.setTop (mkF m 0 #[vA a_, vA v_, vI 0] [])) _
    refine XS.aloadN X0.here hx rfl (hb hby d167) rfl rfl ?_
    refine st4.trans ?_
    show Steps _ _ _ (T4.setTop (mkF m 4 #[vA a_, vA v_, vI 0] [])) _
    refine XS.aloadN X4.here hx rfl (hb hby d169) rfl rfl ?_
    refine XS.aloadN X4.here hx rfl (hb hby d170) rfl rfl ?_
    refine st5 _ ?_
    show Steps _ _ _ (T5.setTop (mkF m 9 #[vA a_, vA v_, vI 0] [])) _
    refine XS.aloadN X5.here hx rfl (hb hby d172) rfl rfl ?_
    refine XS.iloadN X5.here hx rfl (hb hby d173) rfl ?_
    refine st6 _ ?_
    show Steps _ _ _ (T6.setTop (mkF m 14 #[vA a_, vA v_, vI 0] [])) _
    exact X6.returnOut hx hret (hb hby d175) hr
theorem d176 : decode jdk_29_method_69_code 0 = .ok (.iload_n 0, 1) := by decide +kernel
theorem d177 : decode jdk_29_method_69_code 1 = .ok (.iload_n 1, 1) := by decide +kernel
theorem d178 : decode jdk_29_method_69_code 2 = .ok (.if_icmp .gt 7, 3) := by decide +kernel
theorem d179 : decode jdk_29_method_69_code 9 = .ok (.iload_n 1, 1) := by decide +kernel
theorem d180 : decode jdk_29_method_69_code 10 = .ok (.ireturn, 1) := by decide +kernel
theorem pn_13 : plainFor (⟨"java/lang/Math", "min", "(II)I"⟩ : MethodName) = true := by first | (simp [plainFor, overriddenIn]; done) | decide +kernel
abbrev m_24 : MethodName := (⟨"java/lang/Math", "min", "(II)I"⟩ : MethodName)
def Q_min1 (Z : State) (h0 : Heap) (n0 : Nat) (v : Option Value) (h : Heap) (L : List Loc) : Prop := (v = some (.int 1)) ∧ (Fr n0 L) ∧ (h = h0)
theorem rm_min1 (l : Launch) (Z : State) (a0 : Array Value) (hw : HW Z a0) (ws : List Jvm.Cond) (h0 : Heap) (n0 : Nat) (Z0 : n0 ≤ h0.size) :
    MF l Z m_24 jdk_29_method_69_code 2 (some .int) ws (oR 0 0 0 0) #[(.int 10), (.int 1)] h0 (Q_min1 Z  h0 n0) := by
  refine own_body (cls := "java/lang/Math") pn_13 rfl (fun p e s m below meth c s₁ hx hby hml hown hnm hret hZ X0 e0 => ?_)
  have N0 := Fr.nil n0
  refine ⟨_, _, _, _, some (.int 1), X0, by decide, by decide, nofun, ?_, fun fs hr => castTop (ef_3 m (10 : Int32) (1 : Int32)) ?_⟩
  · show Q_min1 Z  h0 n0 _ s₁.heap _
    rw [(e0 : s₁.heap = h0)]
    exact ⟨rfl, N0, rfl⟩
  · show Steps _ _ _ (s₁.setTop (mkF m 0 #[vI 10, vI 1] [])) _
    refine XS.iloadN X0.here hx rfl (hb hby d176) rfl ?_
    refine XS.iloadN X0.here hx rfl (hb hby d177) rfl ?_
    refine XS.icmpYes X0.here hx rfl (pc0 := 2) (pc' := 9) rfl (hb hby d178) rfl (tlt ((by decide) : (1 : Int32) < (10 : Int32))).2.2.1 (by decide) (by decide) ?_
    refine XS.iloadN X0.here hx rfl (hb hby d179) rfl ?_
    exact retI X0 hx hret (hb hby d180) hr
theorem d181 : decode jdk_65_method_120_code 0 = .ok (.aload_n 2, 1) := by decide +kernel
theorem w_157 {Z : State} {a0 : Array Value} (hw : HW Z a0) : (Jvm.Cond.classLink "java/util/Arrays" (110 : Nat) "[Ljava/lang/Object;").before a0 Z = true := hw _ (List.mem_of_getElem? (i := 157) rfl)
theorem d182 : decode jdk_65_method_120_code 1 = .ok (.ldc 110, 2) := by decide +kernel
theorem d183 : decode jdk_65_method_120_code 3 = .ok (.if_acmp .ne 10, 3) := by decide +kernel
theorem d184 : decode jdk_65_method_120_code 6 = .ok (.iload_n 1, 1) := by decide +kernel
theorem w_158 {Z : State} {a0 : Array Value} (hw : HW Z a0) : (Jvm.Cond.classLink "java/util/Arrays" (2 : Nat) "java/lang/Object").before a0 Z = true := hw _ (List.mem_of_getElem? (i := 158) rfl)
theorem d185 : decode jdk_65_method_120_code 7 = .ok (.anewarray 2, 3) := by decide +kernel
theorem d186 : decode jdk_65_method_120_code 10 = .ok (.goto 14, 3) := by decide +kernel
theorem d187 : decode jdk_65_method_120_code 24 = .ok (.astore_n 3, 1) := by decide +kernel
theorem d188 : decode jdk_65_method_120_code 25 = .ok (.aload_n 0, 1) := by decide +kernel
theorem d189 : decode jdk_65_method_120_code 26 = .ok (.iconst 0, 1) := by decide +kernel
theorem d190 : decode jdk_65_method_120_code 27 = .ok (.aload_n 3, 1) := by decide +kernel
theorem d191 : decode jdk_65_method_120_code 28 = .ok (.iconst 0, 1) := by decide +kernel
theorem d192 : decode jdk_65_method_120_code 29 = .ok (.aload_n 0, 1) := by decide +kernel
theorem d193 : decode jdk_65_method_120_code 30 = .ok (.arraylength, 1) := by decide +kernel
theorem d194 : decode jdk_65_method_120_code 31 = .ok (.iload_n 1, 1) := by decide +kernel
theorem w_159 {Z : State} {a0 : Array Value} (hw : HW Z a0) : (Jvm.Cond.methodLink "java/util/Arrays" (304 : Nat) m_24).before a0 Z = true := hw _ (List.mem_of_getElem? (i := 159) rfl)
theorem w_161 {Z : State} {a0 : Array Value} (hw : HW Z a0) : (Jvm.Cond.code m_24 jdk_29_method_69_code (2 : Nat) (Option.some FieldType.int)).before a0 Z = true := hw _ (List.mem_of_getElem? (i := 161) rfl)
theorem d195 : decode jdk_65_method_120_code 32 = .ok (.invokestatic 304, 3) := by decide +kernel
theorem w_160 {Z : State} {a0 : Array Value} (hw : HW Z a0) : (Jvm.Cond.static m_24).before a0 Z = true := hw _ (List.mem_of_getElem? (i := 160) rfl)
abbrev m_25 : MethodName := (⟨"java/lang/System", "arraycopy", "(Ljava/lang/Object;ILjava/lang/Object;II)V"⟩ : MethodName)
theorem w_162 {Z : State} {a0 : Array Value} (hw : HW Z a0) : (Jvm.Cond.methodLink "java/util/Arrays" (150 : Nat) m_25).before a0 Z = true := hw _ (List.mem_of_getElem? (i := 162) rfl)
theorem w_165 {Z : State} {a0 : Array Value} (hw : HW Z a0) : (Jvm.Cond.native m_25).before a0 Z = true := hw _ (List.mem_of_getElem? (i := 165) rfl)
theorem w_163 {Z : State} {a0 : Array Value} (hw : HW Z a0) : (Jvm.Cond.static m_25).before a0 Z = true := hw _ (List.mem_of_getElem? (i := 163) rfl)
theorem w_164 {Z : State} {a0 : Array Value} (hw : HW Z a0) : (Jvm.Cond.initialized "java/lang/System").before a0 Z = true := hw _ (List.mem_of_getElem? (i := 164) rfl)
theorem d196 : decode jdk_65_method_120_code 35 = .ok (.invokestatic 150, 3) := by decide +kernel
theorem d197 : decode jdk_65_method_120_code 38 = .ok (.aload_n 3, 1) := by decide +kernel
theorem d198 : decode jdk_65_method_120_code 39 = .ok (.areturn, 1) := by decide +kernel
theorem pn_14 : plainName "java/util/Arrays" = true := by first | (simp [plainName, overriddenIn]; done) | decide +kernel
theorem ef_10 (m : MethodId) (x0 : Addr) (x1 : Int32) (x2 : Addr) : entryFrame m #[(.ref x0), (.int x1), (.ref x2)] 4 = mkF m 0 #[vA x0, vI x1, vA x2, .unset] [] := by first | (simp [entryFrame, mkF, argsToLocals, Value.category, maxLocals]; done) | rfl
abbrev m_26 : MethodName := (⟨"java/util/Arrays", "copyOf", "([Ljava/lang/Object;ILjava/lang/Class;)[Ljava/lang/Object;"⟩ : MethodName)
def Q_acp3_1 (Z : State) (v_ : Addr) (kv : ClassId) (i0t : Addr) (mo : Addr) (h0 : Heap) (n0 : Nat) (v : Option Value) (h : Heap) (L : List Loc) : Prop := ∃ (b : Addr) (k : ClassId), (v = some (.ref b)) ∧ (Fr n0 L) ∧ (Keep h0 h []) ∧ (h0.size ≤ b) ∧ (Arv Z h b k (.object "java/lang/Object") (1 : Int32) [(.ref i0t)] .null)
theorem rm_acp3_1 (l : Launch) (Z : State) (a0 : Array Value) (hw : HW Z a0) (ws : List Jvm.Cond) (v_ : Addr) (kv : ClassId) (i0t : Addr) (mo : Addr) (h0 : Heap) (n0 : Nat) (Z0 : n0 ≤ h0.size) (P0 : Mi Z "[Ljava/lang/Object;" mo) (P1 : Arv Z h0 v_ kv (.object "java/lang/Object") (10 : Int32) [(.ref i0t), .null, .null, .null, .null, .null, .null, .null, .null, .null] .null) (P2 : Exa Z h0 i0t "java/lang/String") :
    MF l Z m_26 jdk_65_method_120_code 4 (some (.array (.object "java/lang/Object"))) ws (oR 1 1 1 18) #[(.ref v_), (.int 1), (.ref mo)] h0 (Q_acp3_1 Z v_ kv i0t mo h0 n0) := by
  refine own_body (cls := "java/util/Arrays") (plainFor_of_name pn_14) rfl (fun p e s m below meth c s₁ hx hby hml hown hnm hret hZ X0 e0 => ?_)
  have N0 := Fr.nil n0
  have K0 := Keep.refl h0 []
  have lt1 := own_l P1.lt
  have lt2 := own_l P2.lt
  obtain ⟨T3, X3, e3, st3⟩ := own_ldcM X0 hx hZ hown (w_157 hw) e0 P0 (g := (mkF m 1 #[vA v_, vI 1, vA mo, .unset] [(.ref mo)])) rfl (hb hby d182)
  obtain ⟨T4, h4, k4, X4, e4, E4, A4, AE4, O4, st4⟩ := newRE X3 hx hZ hown (w_158 hw) (w_83 hw) e3 (g := (mkF m 7 #[vA v_, vI 1, vA mo, .unset] [(.int 1)])) rfl (hb hby d185) rfl (by decide) (cap := 1) (by decide) (by decide) (by decide) (by decide) (ad := "[Ljava/lang/Object;") (by decide)
  obtain ⟨b4, g4⟩ : ∃ z, z = h0.size := ⟨_, rfl⟩
  rw [← g4] at A4 AE4 st4
  have z4 := E4.1
  have K4 := K0.ext E4
  have V4 : Arv Z h4 b4 k4 (.object "java/lang/Object") (1 : Int32) [.null] .null := (Arv.new A4 (by decide)).pad (pad_rep [] .null 1)
  have lt5 := own_l V4.lt
  have f7 := P1.ext E4
  obtain ⟨cl6, Ar6, q6, S6, M6, H6, G6⟩ := id f7
  obtain ⟨_, _, ⟨T8, L8, k8, n8⟩, -, X8, ⟨Lc8, hQ8, l8, y8, z8⟩, st8⟩ := Jvm.LawKit.callS X4 hx (y := m_24) hown (mvT hZ (w_159 hw)) (mvT hZ (w_160 hw)) (mvT hZ (w_80 hw)) (mvT hZ (w_161 hw)) (by decide) (backOf (W := 4) (rm_min1 l Z a0 hw []  h4 n0 (by omega) ) hZ (w_161 hw) (w_80 hw) (by decide) (by decide)) (g := (mkF m 32 #[vA v_, vI 1, vA mo, vA b4] [(.int 1), (.int 10), (.int 0), (.ref b4), (.int 0), (.ref v_)])) rfl (by rw [hml]; rfl) (argsL := [(.int 10), (.int 1)]) (rest := [(.int 0), (.ref b4), (.int 0), (.ref v_)]) (lenOf pd_4 rfl) rfl (Nat.le_of_eq rfl) (hb hby d195) (fun _ _ => ⟨rfl, e4, (by decide : 1 + 0 ≤ _), (by decide : 1 + 0 ≤ _)⟩)
  dsimp only [Pt.U, Pt.locs, Pt.cells, Pt.slots] at X8 l8 y8 z8 st8 hQ8
  rw [l8, y8, z8] at X8
  obtain ⟨rfl, Nq8, Kq8⟩ := hQ8
  have N8 := Fr.app N0 Nq8
  obtain ⟨cl9, Ar9, q9, S9, M9, H9, G9⟩ := id V4
  have f10 := P2.ext E4
  obtain ⟨T9, h9, L9, X9, e9, N9, Kq9, V9, st9⟩ := cpA X8 hx hZ hown (w_162 hw) (w_165 hw) (w_163 hw) (w_164 hw) Kq8 f7 V4 (Or.inr ⟨rfl, rfl, ⟨(Sto.ofV Ar9 q9 O4 (Ins.of_exa f10 (w_84 hw))), trivial⟩⟩) (us := [(.ref i0t)]) (sp := 0) (dp := 0) (nn := (1 : Int32)) (by decide) (by decide) (by decide) (by decide) (by decide) rfl (by decide) N8 (by omega) (g := (mkF m 35 #[vA v_, vI 1, vA mo, vA b4] [(.int 1), (.int 0), (.ref b4), (.int 0), (.ref v_)])) rfl (by rw [hml]; rfl) rfl (hb hby d196) (by decide) (W := 0) (Nat.le_of_eq rfl) (by decide)
  replace V9 : Arv Z h9 b4 k4 (.object "java/lang/Object") (1 : Int32) [(.ref i0t)] .null := V9
  have z9' := Kq9.1
  have K9 := K4.trans Kq9 (allS (Or.inr (by omega)) all0)
  refine ⟨_, _, _, _, some (.ref b4), X9, by decide, by decide, nofun, ?_, fun fs hr => castTop (ef_10 m v_ (1 : Int32) mo) ?_⟩
  · show Q_acp3_1 Z v_ kv i0t mo h0 n0 _ T9.heap _
    rw [(e9 : T9.heap = h9)]
    exact ⟨b4, k4, rfl, N9, K9, (by omega), V9⟩
  · show Steps _ _ _ (s₁.setTop (mkF m 0 #[vA v_, vI 1, vA mo, .unset] [])) _
    refine XS.aloadN X0.here hx rfl (hb hby d181) rfl rfl ?_
    refine st3 _ ?_
    show Steps _ _ _ (T3.setTop (mkF m 3 #[vA v_, vI 1, vA mo, .unset] [(.ref mo), (.ref mo)])) _
    refine Jvm.RoadKit.acmp (g := (mkF m 3 #[vA v_, vI 1, vA mo, .unset] [(.ref mo), (.ref mo)])) X3 hx rfl rfl rfl (pc0 := 3) (pc' := 6) (same := true) rfl (hb hby d183) rfl (decide_eq_true rfl) (by decide) (by decide) ?_
    show Steps _ _ _ (T3.setTop (mkF m 6 #[vA v_, vI 1, vA mo, .unset] [])) _
    refine XS.iloadN X3.here hx rfl (hb hby d184) rfl ?_
    refine st4 _ ?_
    show Steps _ _ _ (T4.setTop (mkF m 10 #[vA v_, vI 1, vA mo, .unset] [(.ref b4)])) _
    refine XS.goto X4.here hx rfl (pc0 := 10) (pc' := 24) rfl (hb hby d186) (by decide) (by decide) ?_
    refine XS.astoreN X4.here hx rfl (hb hby d187) rfl rfl (l' := #[vA v_, vI 1, vA mo, vA b4]) rfl ?_
    refine XS.aloadN X4.here hx rfl (hb hby d188) rfl rfl ?_
    refine XS.iconst X4.here hx rfl (hb hby d189) ?_
    refine XS.aloadN X4.here hx rfl (hb hby d190) rfl rfl ?_
    refine XS.iconst X4.here hx rfl (hb hby d191) ?_
    refine XS.aloadN X4.here hx rfl (hb hby d192) rfl rfl ?_
    refine X4.arraylength hx (by rw [e4]; exact Ar6.1) (State.isArrayOf_alike hZ.alike Ar6.2.1) (g := (mkF m 30 #[vA v_, vI 1, vA mo, vA b4] [(.ref v_), (.int 0), (.ref b4), (.int 0), (.ref v_)])) rfl rfl (hb hby d193) _ ?_
    rw [len_of S6 M6]
    show Steps _ _ _ (T4.setTop (mkF m 31 #[vA v_, vI 1, vA mo, vA b4] [(.int 10), (.int 0), (.ref b4), (.int 0), (.ref v_)])) _
    refine XS.iloadN X4.here hx rfl (hb hby d194) rfl ?_
    refine st8 _ ?_
    show Steps _ _ _ (T8.setTop (mkF m 35 #[vA v_, vI 1, vA mo, vA b4] [(.int 1), (.int 0), (.ref b4), (.int 0), (.ref v_)])) _
    refine st9 _ ?_
    show Steps _ _ _ (T9.setTop (mkF m 38 #[vA v_, vI 1, vA mo, vA b4] [])) _
    refine XS.aloadN X9.here hx rfl (hb hby d197) rfl rfl ?_
    exact retOut X9 hx hret (own_narrow_ref rfl) (Or.inr (Or.inr (Or.inr (Or.inr ⟨rfl, rfl, rfl⟩)))) (hb hby d198) hr
theorem d199 : decode jdk_65_method_119_code 0 = .ok (.aload_n 0, 1) := by decide +kernel
theorem d200 : decode jdk_65_method_119_code 1 = .ok (.iload_n 1, 1) := by decide +kernel
theorem d201 : decode jdk_65_method_119_code 2 = .ok (.aload_n 0, 1) := by decide +kernel
abbrev m_27 : MethodName := (⟨"java/lang/Object", "getClass", "()Ljava/lang/Class;"⟩ : MethodName)
theorem w_148 {Z : State} {a0 : Array Value} (hw : HW Z a0) : (Jvm.Cond.methodLink "java/util/Arrays" (86 : Nat) m_27).before a0 Z = true := hw _ (List.mem_of_getElem? (i := 148) rfl)
theorem w_149 {Z : State} {a0 : Array Value} (hw : HW Z a0) : (Jvm.Cond.declares m_27).before a0 Z = true := hw _ (List.mem_of_getElem? (i := 149) rfl)
theorem w_151 {Z : State} {a0 : Array Value} (hw : HW Z a0) : (Jvm.Cond.selects "[Ljava/lang/Object;" m_27 m_27).before a0 Z = true := hw _ (List.mem_of_getElem? (i := 151) rfl)
theorem w_150 {Z : State} {a0 : Array Value} (hw : HW Z a0) : (Jvm.Cond.instanceMethod m_27).before a0 Z = true := hw _ (List.mem_of_getElem? (i := 150) rfl)
theorem w_152 {Z : State} {a0 : Array Value} (hw : HW Z a0) : (Jvm.Cond.native m_27).before a0 Z = true := hw _ (List.mem_of_getElem? (i := 152) rfl)
theorem d202 : decode jdk_65_method_119_code 3 = .ok (.invokevirtual 86, 3) := by decide +kernel
theorem w_154 {Z : State} {a0 : Array Value} (hw : HW Z a0) : (Jvm.Cond.methodLink "java/util/Arrays" (300 : Nat) m_26).before a0 Z = true := hw _ (List.mem_of_getElem? (i := 154) rfl)
theorem w_156 {Z : State} {a0 : Array Value} (hw : HW Z a0) : (Jvm.Cond.code m_26 jdk_65_method_120_code (4 : Nat) (Option.some (FieldType.array (FieldType.object "java/lang/Object")))).before a0 Z = true := hw _ (List.mem_of_getElem? (i := 156) rfl)
theorem w_146 {Z : State} {a0 : Array Value} (hw : HW Z a0) : (Jvm.Cond.initialized "java/util/Arrays").before a0 Z = true := hw _ (List.mem_of_getElem? (i := 146) rfl)
theorem pd_12 : parseMethodDescriptor "([Ljava/lang/Object;ILjava/lang/Class;)[Ljava/lang/Object;" = some ⟨[(.array (.object "java/lang/Object")), .int, (.object "java/lang/Class")], some (.array (.object "java/lang/Object"))⟩ := by decide +kernel
theorem d203 : decode jdk_65_method_119_code 6 = .ok (.invokestatic 300, 3) := by decide +kernel
theorem w_155 {Z : State} {a0 : Array Value} (hw : HW Z a0) : (Jvm.Cond.static m_26).before a0 Z = true := hw _ (List.mem_of_getElem? (i := 155) rfl)
theorem d204 : decode jdk_65_method_119_code 9 = .ok (.areturn, 1) := by decide +kernel
theorem ef_11 (m : MethodId) (x0 : Addr) (x1 : Int32) : entryFrame m #[(.ref x0), (.int x1)] 2 = mkF m 0 #[vA x0, vI x1] [] := by first | (simp [entryFrame, mkF, argsToLocals, Value.category, maxLocals]; done) | rfl
abbrev m_28 : MethodName := (⟨"java/util/Arrays", "copyOf", "([Ljava/lang/Object;I)[Ljava/lang/Object;"⟩ : MethodName)
def Q_acp2_1 (Z : State) (v_ : Addr) (kv : ClassId) (i0t : Addr) (mo : Addr) (h0 : Heap) (n0 : Nat) (v : Option Value) (h : Heap) (L : List Loc) : Prop := ∃ (b : Addr) (k : ClassId), (v = some (.ref b)) ∧ (Fr n0 L) ∧ (Keep h0 h []) ∧ (h0.size ≤ b) ∧ (Arv Z h b k (.object "java/lang/Object") (1 : Int32) [(.ref i0t)] .null)
theorem rm_acp2_1 (l : Launch) (Z : State) (a0 : Array Value) (hw : HW Z a0) (ws : List Jvm.Cond) (v_ : Addr) (kv : ClassId) (i0t : Addr) (mo : Addr) (h0 : Heap) (n0 : Nat) (Z0 : n0 ≤ h0.size) (P0 : Mi Z "[Ljava/lang/Object;" mo) (P1 : Exa Z h0 v_ "[Ljava/lang/Object;") (P2 : Arv Z h0 v_ kv (.object "java/lang/Object") (10 : Int32) [(.ref i0t), .null, .null, .null, .null, .null, .null, .null, .null, .null] .null) (P3 : Exa Z h0 i0t "java/lang/String") :
    MF l Z m_28 jdk_65_method_119_code 2 (some (.array (.object "java/lang/Object"))) ws (oR 2 1 1 33) #[(.ref v_), (.int 1)] h0 (Q_acp2_1 Z v_ kv i0t mo h0 n0) := by
  refine own_body (cls := "java/util/Arrays") (plainFor_of_name pn_14) rfl (fun p e s m below meth c s₁ hx hby hml hown hnm hret hZ X0 e0 => ?_)
  have N0 := Fr.nil n0
  have K0 := Keep.refl h0 []
  have lt1 := own_l P1.lt
  have lt2 := own_l P2.lt
  have lt3 := own_l P3.lt
  obtain ⟨T4, X4, e4, st4⟩ := own_gcls X0 hx hZ hown (w_148 hw) (w_149 hw) (w_151 hw) (w_150 hw) (w_152 hw) e0 P1 P0 (g := (mkF m 3 #[vA v_, vI 1] [(.ref v_), (.int 1), (.ref v_)])) rfl (by rw [hml]; rfl) rfl (hb hby d202) (by decide) (W := 2) (Nat.le_of_eq rfl) (by decide)
  obtain ⟨_, _, ⟨T5, L5, k5, n5⟩, -, X5, ⟨Lc5, hQ5, l5, y5, z5⟩, st5⟩ := Jvm.LawKit.callS X4 hx (y := m_26) hown (mvT hZ (w_154 hw)) (mvT hZ (w_155 hw)) (mvT hZ (w_146 hw)) (mvT hZ (w_156 hw)) (by decide) (backOf (W := 0) (rm_acp3_1 l Z a0 hw [] v_ kv i0t mo h0 n0 (by omega) P0 P2 P3) hZ (w_156 hw) (w_146 hw) (by decide) (by decide)) (g := (mkF m 6 #[vA v_, vI 1] [(.ref mo), (.int 1), (.ref v_)])) rfl (by rw [hml]; rfl) (argsL := [(.ref v_), (.int 1), (.ref mo)]) (rest := []) (lenOf pd_12 rfl) rfl (Nat.le_of_eq rfl) (hb hby d203) (fun _ _ => ⟨rfl, e4, (by decide : 0 + 1 ≤ _), (by decide : 0 + 1 ≤ _)⟩)
  dsimp only [Pt.U, Pt.locs, Pt.cells, Pt.slots] at X5 l5 y5 z5 st5 hQ5
  rw [l5, y5, z5] at X5
  obtain ⟨x5_b, x5_k, rfl, Nq5, Kq5, r5_0, r5_1⟩ := hQ5
  have N5 := Fr.app N0 Nq5
  have z5' := Kq5.1
  have K5 := K0.trans Kq5 all0
  have lt6 := own_l r5_1.lt
  refine ⟨_, _, _, _, some (.ref x5_b), X5, by decide, by decide, nofun, ?_, fun fs hr => castTop (ef_11 m v_ (1 : Int32)) ?_⟩
  · show Q_acp2_1 Z v_ kv i0t mo h0 n0 _ T5.heap _
    exact ⟨x5_b, x5_k, rfl, N5, K5, (by omega), r5_1⟩
  · show Steps _ _ _ (s₁.setTop (mkF m 0 #[vA v_, vI 1] [])) _
    refine XS.aloadN X0.here hx rfl (hb hby d199) rfl rfl ?_
    refine XS.iloadN X0.here hx rfl (hb hby d200) rfl ?_
    refine XS.aloadN X0.here hx rfl (hb hby d201) rfl rfl ?_
    refine st4 _ ?_
    show Steps _ _ _ (T4.setTop (mkF m 6 #[vA v_, vI 1] [(.ref mo), (.int 1), (.ref v_)])) _
    refine st5 _ ?_
    show Steps _ _ _ (T5.setTop (mkF m 9 #[vA v_, vI 1] [(.ref x5_b)])) _
    exact retOut X5 hx hret (own_narrow_ref rfl) (Or.inr (Or.inr (Or.inr (Or.inr ⟨rfl, rfl, rfl⟩)))) (hb hby d204) hr
theorem d205 : decode jdk_38_method_16_code 0 = .ok (.aload_n 0, 1) := by decide +kernel
theorem d206 : decode jdk_38_method_16_code 1 = .ok (.getfield 9, 3) := by decide +kernel
theorem d207 : decode jdk_38_method_16_code 4 = .ok (.aload_n 0, 1) := by decide +kernel
theorem d208 : decode jdk_38_method_16_code 5 = .ok (.getfield 48, 3) := by decide +kernel
theorem w_144 {Z : State} {a0 : Array Value} (hw : HW Z a0) : (Jvm.Cond.methodLink "java/util/ArrayList" (66 : Nat) m_28).before a0 Z = true := hw _ (List.mem_of_getElem? (i := 144) rfl)
theorem w_147 {Z : State} {a0 : Array Value} (hw : HW Z a0) : (Jvm.Cond.code m_28 jdk_65_method_119_code (2 : Nat) (Option.some (FieldType.array (FieldType.object "java/lang/Object")))).before a0 Z = true := hw _ (List.mem_of_getElem? (i := 147) rfl)
theorem pd_13 : parseMethodDescriptor "([Ljava/lang/Object;I)[Ljava/lang/Object;" = some ⟨[(.array (.object "java/lang/Object")), .int], some (.array (.object "java/lang/Object"))⟩ := by decide +kernel
theorem d209 : decode jdk_38_method_16_code 8 = .ok (.invokestatic 66, 3) := by decide +kernel
theorem w_145 {Z : State} {a0 : Array Value} (hw : HW Z a0) : (Jvm.Cond.static m_28).before a0 Z = true := hw _ (List.mem_of_getElem? (i := 145) rfl)
theorem d210 : decode jdk_38_method_16_code 11 = .ok (.areturn, 1) := by decide +kernel
abbrev m_29 : MethodName := (⟨"java/util/ArrayList", "toArray", "()[Ljava/lang/Object;"⟩ : MethodName)
def Q_toA1 (Z : State) (a_ : Addr) (v_ : Addr) (kv : ClassId) (i0t : Addr) (mo : Addr) (h0 : Heap) (n0 : Nat) (v : Option Value) (h : Heap) (L : List Loc) : Prop := ∃ (b : Addr) (k : ClassId), (v = some (.ref b)) ∧ (Fr n0 L) ∧ (Keep h0 h []) ∧ (h0.size ≤ b) ∧ (Arv Z h b k (.object "java/lang/Object") (1 : Int32) [(.ref i0t)] .null)
theorem rm_toA1 (l : Launch) (Z : State) (a0 : Array Value) (hw : HW Z a0) (ws : List Jvm.Cond) (a_ : Addr) (v_ : Addr) (kv : ClassId) (i0t : Addr) (mo : Addr) (h0 : Heap) (n0 : Nat) (Z0 : n0 ≤ h0.size) (P0 : Mi Z "[Ljava/lang/Object;" mo) (P1 : Exa Z h0 a_ "java/util/ArrayList") (P2 : fld2 Z h0 a_ (.int 1)) (P3 : fld3 Z h0 a_ (.ref v_)) (P4 : Exa Z h0 v_ "[Ljava/lang/Object;") (P5 : Arv Z h0 v_ kv (.object "java/lang/Object") (10 : Int32) [(.ref i0t), .null, .null, .null, .null, .null, .null, .null, .null, .null] .null) (P6 : Exa Z h0 i0t "java/lang/String") :
    MF l Z m_29 jdk_38_method_16_code 1 (some (.array (.object "java/lang/Object"))) ws (oR 3 1 1 46) #[(.ref a_)] h0 (Q_toA1 Z a_ v_ kv i0t mo h0 n0) := by
  refine own_body (cls := "java/util/ArrayList") (plainFor_of_name pn_4) rfl (fun p e s m below meth c s₁ hx hby hml hown hnm hret hZ X0 e0 => ?_)
  have N0 := Fr.nil n0
  have K0 := Keep.refl h0 []
  have lt1 := own_l P1.lt
  have lt2 := own_l P2.lt
  have lt3 := own_l P3.lt
  have lt4 := own_l P4.lt
  have lt5 := own_l P5.lt
  have lt6 := own_l P6.lt
  obtain ⟨T7, X7, e7, st7⟩ := getF X0 hx hZ hown (host := "") (Or.inl (w_48 hw)) Via.refl e0 P3 (g := (mkF m 1 #[vA a_] [(.ref a_)])) rfl rfl (hb hby d206)
  obtain ⟨T8, X8, e8, st8⟩ := getF X7 hx hZ hown (host := "") (Or.inl (w_61 hw)) Via.refl e7 P2 (g := (mkF m 5 #[vA a_] [(.ref a_), (.ref v_)])) rfl rfl (hb hby d208)
  obtain ⟨_, _, ⟨T9, L9, k9, n9⟩, -, X9, ⟨Lc9, hQ9, l9, y9, z9⟩, st9⟩ := Jvm.LawKit.callS X8 hx (y := m_28) hown (mvT hZ (w_144 hw)) (mvT hZ (w_145 hw)) (mvT hZ (w_146 hw)) (mvT hZ (w_147 hw)) (by decide) (backOf (W := 0) (rm_acp2_1 l Z a0 hw [] v_ kv i0t mo h0 n0 (by omega) P0 P4 P5 P6) hZ (w_147 hw) (w_146 hw) (by decide) (by decide)) (g := (mkF m 8 #[vA a_] [(.int 1), (.ref v_)])) rfl (by rw [hml]; rfl) (argsL := [(.ref v_), (.int 1)]) (rest := []) (lenOf pd_13 rfl) rfl (Nat.le_of_eq rfl) (hb hby d209) (fun _ _ => ⟨rfl, e8, (by decide : 0 + 1 ≤ _), (by decide : 0 + 1 ≤ _)⟩)
  dsimp only [Pt.U, Pt.locs, Pt.cells, Pt.slots] at X9 l9 y9 z9 st9 hQ9
  rw [l9, y9, z9] at X9
  obtain ⟨x9_b, x9_k, rfl, Nq9, Kq9, r9_0, r9_1⟩ := hQ9
  have N9 := Fr.app N0 Nq9
  have z9' := Kq9.1
  have K9 := K0.trans Kq9 all0
  have lt10 := own_l r9_1.lt
  refine ⟨_, _, _, _, some (.ref x9_b), X9, by decide, by decide, nofun, ?_, fun fs hr => castTop (ef_2 m a_) ?_⟩
  · show Q_toA1 Z a_ v_ kv i0t mo h0 n0 _ T9.heap _
    exact ⟨x9_b, x9_k, rfl, N9, K9, (by omega), r9_1⟩
  · show Steps _ _ _ (s₁.setTop (mkF m 0 #[vA a_] [])) _
    refine XS.aloadN X0.here hx rfl (hb hby d205) rfl rfl ?_
    refine st7 _ ?_
    show Steps _ _ _ (T7.setTop (mkF m 4 #[vA a_] [(.ref v_)])) _
    refine XS.aloadN X7.here hx rfl (hb hby d207) rfl rfl ?_
    refine st8 _ ?_
    show Steps _ _ _ (T8.setTop (mkF m 8 #[vA a_] [(.int 1), (.ref v_)])) _
    refine st9 _ ?_
    show Steps _ _ _ (T9.setTop (mkF m 11 #[vA a_] [(.ref x9_b)])) _
    exact retOut X9 hx hret (own_narrow_ref rfl) (Or.inr (Or.inr (Or.inr (Or.inr ⟨rfl, rfl, rfl⟩)))) (hb hby d210) hr
theorem d211 : decode jdk_40_method_47_code 0 = .ok (.aload_n 0, 1) := by decide +kernel
theorem d212 : decode jdk_40_method_47_code 1 = .ok (.arraylength, 1) := by decide +kernel
theorem d213 : decode jdk_40_method_47_code 2 = .ok (.tableswitch 57 0 2 #[26, 32, 43], 26) := by decide +kernel
theorem w_169 {Z : State} {a0 : Array Value} (hw : HW Z a0) : (Jvm.Cond.classLink "java/util/List" (96 : Nat) "java/util/ImmutableCollections$List12").before a0 Z = true := hw _ (List.mem_of_getElem? (i := 169) rfl)
theorem w_171 {Z : State} {a0 : Array Value} (hw : HW Z a0) : (Jvm.Cond.initialized "java/util/ImmutableCollections$List12").before a0 Z = true := hw _ (List.mem_of_getElem? (i := 171) rfl)
theorem d214 : decode jdk_40_method_47_code 34 = .ok (.new 96, 3) := by decide +kernel
theorem d215 : decode jdk_40_method_47_code 37 = .ok (.dup, 1) := by decide +kernel
theorem d216 : decode jdk_40_method_47_code 38 = .ok (.aload_n 0, 1) := by decide +kernel
theorem d217 : decode jdk_40_method_47_code 39 = .ok (.iconst 0, 1) := by decide +kernel
theorem d218 : decode jdk_40_method_47_code 40 = .ok (.aaload, 1) := by decide +kernel
theorem w_337 {Z : State} {a0 : Array Value} (hw : HW Z a0) : (Jvm.Cond.methodLink "java/util/List" (98 : Nat) m_21).before a0 Z = true := hw _ (List.mem_of_getElem? (i := 337) rfl)
theorem w_339 {Z : State} {a0 : Array Value} (hw : HW Z a0) : (Jvm.Cond.code m_21 jdk_44_method_1_code (2 : Nat) (Option.none : Option Jvm.ClassFile.FieldType)).before a0 Z = true := hw _ (List.mem_of_getElem? (i := 339) rfl)
theorem pd_14 : parseMethodDescriptor "(Ljava/lang/Object;)V" = some ⟨[(.object "java/lang/Object")], none⟩ := by decide +kernel
theorem d219 : decode jdk_40_method_47_code 41 = .ok (.invokespecial 98, 3) := by decide +kernel
theorem w_338 {Z : State} {a0 : Array Value} (hw : HW Z a0) : (Jvm.Cond.instanceMethod m_21).before a0 Z = true := hw _ (List.mem_of_getElem? (i := 338) rfl)
theorem d220 : decode jdk_40_method_47_code 44 = .ok (.areturn, 1) := by decide +kernel
abbrev m_30 : MethodName := (⟨"java/util/List", "of", "([Ljava/lang/Object;)Ljava/util/List;"⟩ : MethodName)
def Q_of1 (Z : State) (v_ : Addr) (kv : ClassId) (i0t : Addr) (em : Addr) (h0 : Heap) (n0 : Nat) (v : Option Value) (h : Heap) (L : List Loc) : Prop := ∃ (r : Addr), (v = some (.ref r)) ∧ (Fr n0 L) ∧ (Keep h0 h []) ∧ (h0.size ≤ r) ∧ (Exa Z h r "java/util/ImmutableCollections$List12")
theorem rm_of1 (l : Launch) (Z : State) (a0 : Array Value) (hw : HW Z a0) (ws : List Jvm.Cond) (v_ : Addr) (kv : ClassId) (i0t : Addr) (em : Addr) (h0 : Heap) (n0 : Nat) (Z0 : n0 ≤ h0.size) (P0 : Old Z n0 h0) (P1 : sta3 Z (.ref em)) (P2 : Arv Z h0 v_ kv (.object "java/lang/Object") (1 : Int32) [(.ref i0t)] .null) (P3 : Exa Z h0 i0t "java/lang/String") :
    MF l Z m_30 jdk_40_method_47_code 2 (some (.object "java/util/List")) ws (oR 5 1 2 62) #[(.ref v_)] h0 (Q_of1 Z v_ kv i0t em h0 n0) := by
  refine own_body (cls := "java/util/List") (plainFor_of_name pn_6) rfl (fun p e s m below meth c s₁ hx hby hml hown hnm hret hZ X0 e0 => ?_)
  have N0 := Fr.nil n0
  have K0 := Keep.refl h0 []
  have lt1 := own_l P2.lt
  have lt2 := own_l P3.lt
  obtain ⟨cl3, Ar3, q3, S3, M3, H3, G3⟩ := id P2
  obtain ⟨T4, h4, X4, e4, E4, A4, D4, -, st4⟩ := newO X0 hx hZ hown (w_169 hw) (w_170 hw) (w_171 hw) e0 (g := (mkF m 34 #[vA v_, .unset] [])) rfl (hb hby d214) (by decide) (by decide)
  obtain ⟨b4, g4⟩ : ∃ z, z = h0.size := ⟨_, rfl⟩
  rw [← g4] at A4 D4 st4
  have z4 := E4.1
  have K4 := K0.ext E4
  have lt5 := own_l A4.lt
  have F4_195 : Fld Z h4 b4 "java/util/ImmutableCollections$List12" "e0" "Ljava/lang/Object;" .null := D4 (Or.inr (w_195 hw)) (ty := (.object "java/lang/Object")) (by decide)
  have F4_197 : Fld Z h4 b4 "java/util/ImmutableCollections$List12" "e1" "Ljava/lang/Object;" .null := D4 (Or.inr (w_197 hw)) (ty := (.object "java/lang/Object")) (by decide)
  have f7 := P2.ext E4
  obtain ⟨cl6, Ar6, q6, S6, M6, H6, G6⟩ := id f7
  have hin6 : ¬ ((0 : Int32) < 0 ∨ cl6.slots.size ≤ ((0 : Int32)).toNatClampNeg) := inb_of S6 ⟨by decide, by decide⟩
  have hat6 : cl6.slots[((0 : Int32)).toNatClampNeg]? = some (.ref i0t) := Has.at H6 hin6 rfl
  have f9 := P0.ext E4
  obtain ⟨_, _, ⟨T8, L8, k8, n8⟩, -, X8, ⟨Lc8, hQ8, l8, y8, z8⟩, st8⟩ := X4.specialBack hx (y := m_21) rfl hown (mvT hZ (w_337 hw)) (mvT hZ (w_338 hw)) (mvT hZ (w_339 hw)) (by decide) (backOf (W := 1) (rm_l12a l Z a0 hw [] b4 i0t em h4 n0 (by omega) f9 P1 A4 F4_195 F4_197 (by omega)) hZ (w_339 hw) (w_171 hw) (by decide) (by decide)) (g := (mkF m 41 #[vA v_, .unset] [(.ref i0t), (.ref b4), (.ref b4)])) rfl (by rw [hml]; rfl) (Steps.refl _) (a := b4) (argsL := [(.ref i0t)]) (rest := [(.ref b4)]) (lenOf pd_14 rfl) rfl (Nat.le_of_eq rfl) (hb hby d219) (fun _ _ => ⟨rfl, e4, (by decide : 1 + 0 ≤ _), (by decide : 2 + 0 ≤ _)⟩)
  dsimp only [Pt.U, Pt.locs, Pt.cells, Pt.slots] at X8 l8 y8 z8 st8 hQ8
  rw [l8, y8, z8] at X8
  obtain ⟨rfl, Nq8, Kq8, r8_0⟩ := hQ8
  have N8 := Fr.app N0 Nq8
  have z8' := Kq8.1
  have K8 := K4.trans Kq8 (allS (Or.inr (by omega)) all0)
  have lt10 := own_l r8_0.lt
  refine ⟨_, _, _, _, some (.ref b4), X8, by decide, by decide, nofun, ?_, fun fs hr => castTop (ef_8 m v_) ?_⟩
  · show Q_of1 Z v_ kv i0t em h0 n0 _ T8.heap _
    exact ⟨b4, rfl, N8, K8, (by omega), r8_0⟩
  · show Steps _ _ _ (s₁.setTop (mkF m 0 #[vA v_, .unset] [])) _
    refine XS.aloadN X0.here hx rfl (hb hby d211) rfl rfl ?_
    refine X0.arraylength hx (by rw [e0]; exact Ar3.1) (State.isArrayOf_alike hZ.alike Ar3.2.1) (g := (mkF m 1 #[vA v_, .unset] [(.ref v_)])) rfl rfl (hb hby d212) _ ?_
    rw [len_of S3 M3]
    show Steps _ _ _ (s₁.setTop (mkF m 2 #[vA v_, .unset] [(.int 1)])) _
    refine XS.tswIn X0.here hx rfl (pc0 := 2) (pc' := 34) rfl (hb hby d213) rfl (by decide) (o := 32) (by decide) (by decide) (by decide) ?_
    refine st4 _ ?_
    show Steps _ _ _ (T4.setTop (mkF m 37 #[vA v_, .unset] [(.ref b4)])) _
    refine XS.dup X4.here hx rfl (hb hby d215) rfl rfl ?_
    refine XS.aloadN X4.here hx rfl (hb hby d216) rfl rfl ?_
    refine XS.iconst X4.here hx rfl (hb hby d217) ?_
    refine X4.aaload hx (j := (0 : Int32)) (v := (.ref i0t)) (by rw [e4]; exact Ar6.1) (State.isArrayOf_alike hZ.alike Ar6.2.1) rfl Ar6.2.2 hin6 hat6 (g := (mkF m 40 #[vA v_, .unset] [(.int 0), (.ref v_), (.ref b4), (.ref b4)])) rfl rfl (hb hby d218) _ ?_
    show Steps _ _ _ (T4.setTop (mkF m 41 #[vA v_, .unset] [(.ref i0t), (.ref b4), (.ref b4)])) _
    refine st8.trans ?_
    show Steps _ _ _ (T8.setTop (mkF m 44 #[vA v_, .unset] [(.ref b4)])) _
    exact retOut X8 hx hret (own_narrow_ref rfl) (Or.inr (Or.inr (Or.inr (Or.inr ⟨rfl, rfl, rfl⟩)))) (hb hby d220) hr
theorem d221 : decode jdk_56_method_3_code 44 = .ok (.aload_n 0, 1) := by decide +kernel
abbrev m_31 : MethodName := (⟨"java/util/Collection", "toArray", "()[Ljava/lang/Object;"⟩ : MethodName)
theorem w_136 {Z : State} {a0 : Array Value} (hw : HW Z a0) : (Jvm.Cond.methodLink "java/util/ImmutableCollections" (30 : Nat) m_31).before a0 Z = true := hw _ (List.mem_of_getElem? (i := 136) rfl)
theorem w_143 {Z : State} {a0 : Array Value} (hw : HW Z a0) : (Jvm.Cond.code m_29 jdk_38_method_16_code (1 : Nat) (Option.some (FieldType.array (FieldType.object "java/lang/Object")))).before a0 Z = true := hw _ (List.mem_of_getElem? (i := 143) rfl)
theorem d222 : decode jdk_56_method_3_code 45 = .ok (.invokeinterface 30 1, 5) := by decide +kernel
theorem w_137 {Z : State} {a0 : Array Value} (hw : HW Z a0) : (Jvm.Cond.declares m_31).before a0 Z = true := hw _ (List.mem_of_getElem? (i := 137) rfl)
theorem w_138 {Z : State} {a0 : Array Value} (hw : HW Z a0) : (Jvm.Cond.interfaceMethod "java/util/Collection" "java/util/Collection" "toArray" "()[Ljava/lang/Object;").before a0 Z = true := hw _ (List.mem_of_getElem? (i := 138) rfl)
theorem w_139 {Z : State} {a0 : Array Value} (hw : HW Z a0) : (Jvm.Cond.selects "java/util/ArrayList" m_31 m_29).before a0 Z = true := hw _ (List.mem_of_getElem? (i := 139) rfl)
theorem w_140 {Z : State} {a0 : Array Value} (hw : HW Z a0) : (Jvm.Cond.instanceMethod m_29).before a0 Z = true := hw _ (List.mem_of_getElem? (i := 140) rfl)
theorem w_141 {Z : State} {a0 : Array Value} (hw : HW Z a0) : (Jvm.Cond.publicMethod m_29).before a0 Z = true := hw _ (List.mem_of_getElem? (i := 141) rfl)
theorem w_142 {Z : State} {a0 : Array Value} (hw : HW Z a0) : (Jvm.Cond.unhidden "java/util/ArrayList" "toArray" "()[Ljava/lang/Object;").before a0 Z = true := hw _ (List.mem_of_getElem? (i := 142) rfl)
theorem w_166 {Z : State} {a0 : Array Value} (hw : HW Z a0) : (Jvm.Cond.methodLink "java/util/ImmutableCollections" (34 : Nat) m_30).before a0 Z = true := hw _ (List.mem_of_getElem? (i := 166) rfl)
theorem w_168 {Z : State} {a0 : Array Value} (hw : HW Z a0) : (Jvm.Cond.code m_30 jdk_40_method_47_code (2 : Nat) (Option.some (FieldType.object "java/util/List"))).before a0 Z = true := hw _ (List.mem_of_getElem? (i := 168) rfl)
theorem pd_15 : parseMethodDescriptor "([Ljava/lang/Object;)Ljava/util/List;" = some ⟨[(.array (.object "java/lang/Object"))], some (.object "java/util/List")⟩ := by decide +kernel
theorem d223 : decode jdk_56_method_3_code 50 = .ok (.invokestatic 34, 3) := by decide +kernel
theorem w_167 {Z : State} {a0 : Array Value} (hw : HW Z a0) : (Jvm.Cond.static m_30).before a0 Z = true := hw _ (List.mem_of_getElem? (i := 167) rfl)
theorem d224 : decode jdk_56_method_3_code 53 = .ok (.areturn, 1) := by decide +kernel
def Q_lc1 (Z : State) (a_ : Addr) (v_ : Addr) (kv : ClassId) (i0t : Addr) (mo : Addr) (em : Addr) (h0 : Heap) (n0 : Nat) (v : Option Value) (h : Heap) (L : List Loc) : Prop := ∃ (r : Addr), (v = some (.ref r)) ∧ (Fr n0 L) ∧ (Keep h0 h []) ∧ (h0.size ≤ r) ∧ (Exa Z h r "java/util/ImmutableCollections$List12")
theorem rm_lc1 (l : Launch) (Z : State) (a0 : Array Value) (hw : HW Z a0) (ws : List Jvm.Cond) (a_ : Addr) (v_ : Addr) (kv : ClassId) (i0t : Addr) (mo : Addr) (em : Addr) (h0 : Heap) (n0 : Nat) (Z0 : n0 ≤ h0.size) (P0 : Old Z n0 h0) (P1 : sta3 Z (.ref em)) (P2 : Mi Z "[Ljava/lang/Object;" mo) (P3 : Exa Z h0 a_ "java/util/ArrayList") (P4 : fld2 Z h0 a_ (.int 1)) (P5 : fld3 Z h0 a_ (.ref v_)) (P6 : Exa Z h0 v_ "[Ljava/lang/Object;") (P7 : Arv Z h0 v_ kv (.object "java/lang/Object") (10 : Int32) [(.ref i0t), .null, .null, .null, .null, .null, .null, .null, .null, .null] .null) (P8 : Exa Z h0 i0t "java/lang/String") :
    MF l Z m_16 jdk_56_method_3_code 2 (some (.object "java/util/List")) ws (oR 6 2 3 75) #[(.ref a_)] h0 (Q_lc1 Z a_ v_ kv i0t mo em h0 n0) := by
  refine own_body (cls := "java/util/ImmutableCollections") (plainFor_of_name pn_7) rfl (fun p e s m below meth c s₁ hx hby hml hown hnm hret hZ X0 e0 => ?_)
  have N0 := Fr.nil n0
  have K0 := Keep.refl h0 []
  have lt1 := own_l P3.lt
  have lt2 := own_l P4.lt
  have lt3 := own_l P5.lt
  have lt4 := own_l P6.lt
  have lt5 := own_l P7.lt
  have lt6 := own_l P8.lt
  obtain ⟨T7, X7, e7, st7⟩ := instNo X0 hx hZ hown (w_121 hw) e0 P3 (own_nsno (w_122 hw) (w_170 hw) (NS.step (w_122 hw) (NS.step (w_123 hw) (NS.step (w_124 hw) (own_nsroot (w_125 hw) (w_170 hw) (by decide)) (by decide)) (by decide)) (by decide)) (by decide)) (g := (mkF m 1 #[vA a_, .unset] [(.ref a_)])) rfl rfl (hb hby d123)
  obtain ⟨T8, X8, e8, st8⟩ := instNo X7 hx hZ hown (w_126 hw) e7 P3 (own_nsno (w_122 hw) (w_346 hw) (NS.step (w_122 hw) (NS.step (w_123 hw) (NS.step (w_124 hw) (own_nsroot (w_125 hw) (w_346 hw) (by decide)) (by decide)) (by decide)) (by decide)) (by decide)) (g := (mkF m 8 #[vA a_, .unset] [(.ref a_)])) rfl rfl (hb hby d126)
  obtain ⟨cq9, kq9, qa9, qb9, qc9⟩ := isOf hZ e8 P3
  obtain ⟨_, _, ⟨T9, L9, k9, n9⟩, -, X9, ⟨Lc9, hQ9, l9, y9, z9⟩, st9⟩ := X8.interfaceBack hx (xi := m_15) (y := m_13) (C := "java/util/ArrayList") hown (mvT hZ (w_127 hw)) (mvT hZ (w_128 hw)) (mvT hZ (w_129 hw)) (mvT hZ (w_130 hw)) (mvT hZ (w_131 hw)) (mvT hZ (w_132 hw)) (mvT hZ (w_133 hw)) (mvT hZ (w_134 hw)) (by decide) (backOf (W := 0) (rm_em1 l Z a0 hw [] a_ h0 n0 (by omega) P4) hZ (w_135 hw) (w_28 hw) (by decide) (by decide)) qa9 qb9 qc9 (g := (mkF m 32 #[vA a_, .unset] [(.ref a_)])) rfl (by rw [hml]; rfl) (Steps.refl _) (argsL := []) (rest := []) (lenOf pd_8 rfl) rfl (Nat.le_of_eq rfl) (hb hby d129) (fun _ _ => ⟨rfl, e8, (by decide : 0 + 0 ≤ _), (by decide : 0 + 0 ≤ _)⟩)
  dsimp only [Pt.U, Pt.locs, Pt.cells, Pt.slots] at X9 l9 y9 z9 st9 hQ9
  rw [l9, y9, z9] at X9
  obtain ⟨rfl, Nq9, Kq9⟩ := hQ9
  have N9 := Fr.app N0 Nq9
  obtain ⟨cq10, kq10, qa10, qb10, qc10⟩ := isOf hZ Kq9 P3
  obtain ⟨_, _, ⟨T10, L10, k10, n10⟩, -, X10, ⟨Lc10, hQ10, l10, y10, z10⟩, st10⟩ := X9.interfaceBack hx (xi := m_31) (y := m_29) (C := "java/util/ArrayList") hown (mvT hZ (w_136 hw)) (mvT hZ (w_137 hw)) (mvT hZ (w_138 hw)) (mvT hZ (w_139 hw)) (mvT hZ (w_140 hw)) (mvT hZ (w_141 hw)) (mvT hZ (w_142 hw)) (mvT hZ (w_134 hw)) (by decide) (backOf (W := 0) (rm_toA1 l Z a0 hw [] a_ v_ kv i0t mo h0 n0 (by omega) P2 P3 P4 P5 P6 P7 P8) hZ (w_143 hw) (w_28 hw) (by decide) (by decide)) qa10 qb10 qc10 (g := (mkF m 45 #[vA a_, .unset] [(.ref a_)])) rfl (by rw [hml]; rfl) (Steps.refl _) (argsL := []) (rest := []) (lenOf pd_6 rfl) rfl (Nat.le_of_eq rfl) (hb hby d222) (fun _ _ => ⟨rfl, Kq9, (by decide : 0 + 1 ≤ _), (by decide : 0 + 1 ≤ _)⟩)
  dsimp only [Pt.U, Pt.locs, Pt.cells, Pt.slots] at X10 l10 y10 z10 st10 hQ10
  rw [l10, y10, z10] at X10
  obtain ⟨x10_b, x10_k, rfl, Nq10, Kq10, r10_0, r10_1⟩ := hQ10
  have N10 := Fr.app N9 Nq10
  have z10' := Kq10.1
  have K10 := K0.trans Kq10 all0
  have lt11 := own_l r10_1.lt
  have f13 := P0.keep Kq10 all0
  have f14 := P8.keep Kq10
  obtain ⟨_, _, ⟨T12, L12, k12, n12⟩, -, X12, ⟨Lc12, hQ12, l12, y12, z12⟩, st12⟩ := Jvm.LawKit.callS X10 hx (y := m_30) hown (mvT hZ (w_166 hw)) (mvT hZ (w_167 hw)) (mvT hZ (w_115 hw)) (mvT hZ (w_168 hw)) (by decide) (backOf (W := 0) (rm_of1 l Z a0 hw [] x10_b x10_k i0t em T10.heap n0 (by omega) f13 P1 r10_1 f14) hZ (w_168 hw) (w_115 hw) (by decide) (by decide)) (g := (mkF m 50 #[vA a_, .unset] [(.ref x10_b)])) rfl (by rw [hml]; rfl) (argsL := [(.ref x10_b)]) (rest := []) (lenOf pd_15 rfl) rfl (Nat.le_of_eq rfl) (hb hby d223) (fun _ _ => ⟨rfl, rfl, (by decide : 1 + 1 ≤ _), (by decide : 1 + 2 ≤ _)⟩)
  dsimp only [Pt.U, Pt.locs, Pt.cells, Pt.slots] at X12 l12 y12 z12 st12 hQ12
  rw [l12, y12, z12] at X12
  obtain ⟨x12_r, rfl, Nq12, Kq12, r12_0, r12_1⟩ := hQ12
  have N12 := Fr.app N10 Nq12
  have z12' := Kq12.1
  have K12 := K10.trans Kq12 all0
  have lt15 := own_l r12_1.lt
  refine ⟨_, _, _, _, some (.ref x12_r), X12, by decide, by decide, nofun, ?_, fun fs hr => castTop (ef_8 m a_) ?_⟩
  · show Q_lc1 Z a_ v_ kv i0t mo em h0 n0 _ T12.heap _
    exact ⟨x12_r, rfl, N12, K12, (by omega), r12_1⟩
  · show Steps _ _ _ (s₁.setTop (mkF m 0 #[vA a_, .unset] [])) _
    refine XS.aloadN X0.here hx rfl (hb hby d122) rfl rfl ?_
    refine st7 _ ?_
    show Steps _ _ _ (T7.setTop (mkF m 4 #[vA a_, .unset] [(.int 0)])) _
    refine XS.ifNo X7.here hx rfl (hb hby d124) rfl ((if0 _ _).trans (teq ((by decide) : (0 : Int32) = (0 : Int32))).2) ?_
    refine XS.aloadN X7.here hx rfl (hb hby d125) rfl rfl ?_
    refine st8 _ ?_
    show Steps _ _ _ (T8.setTop (mkF m 11 #[vA a_, .unset] [(.int 0)])) _
    refine XS.ifYes X8.here hx rfl (pc0 := 11) (pc' := 31) rfl (hb hby d127) rfl ((if0 _ _).trans (teq ((by decide) : (0 : Int32) = (0 : Int32))).1) (by decide) (by decide) ?_
    refine XS.aloadN X8.here hx rfl (hb hby d128) rfl rfl ?_
    refine st9.trans ?_
    show Steps _ _ _ (T9.setTop (mkF m 37 #[vA a_, .unset] [(.int 0)])) _
    refine XS.ifYes X9.here hx rfl (pc0 := 37) (pc' := 44) rfl (hb hby d130) rfl ((if0 _ _).trans (teq ((by decide) : (0 : Int32) = (0 : Int32))).1) (by decide) (by decide) ?_
    refine XS.aloadN X9.here hx rfl (hb hby d221) rfl rfl ?_
    refine st10.trans ?_
    show Steps _ _ _ (T10.setTop (mkF m 50 #[vA a_, .unset] [(.ref x10_b)])) _
    refine st12 _ ?_
    show Steps _ _ _ (T12.setTop (mkF m 53 #[vA a_, .unset] [(.ref x12_r)])) _
    exact retOut X12 hx hret (own_narrow_ref rfl) (Or.inr (Or.inr (Or.inr (Or.inr ⟨rfl, rfl, rfl⟩)))) (hb hby d224) hr
def Q_cp1 (Z : State) (a_ : Addr) (v_ : Addr) (kv : ClassId) (i0t : Addr) (mo : Addr) (em : Addr) (h0 : Heap) (n0 : Nat) (v : Option Value) (h : Heap) (L : List Loc) : Prop := ∃ (r : Addr), (v = some (.ref r)) ∧ (Fr n0 L) ∧ (Keep h0 h []) ∧ (h0.size ≤ r) ∧ (Exa Z h r "java/util/ImmutableCollections$List12")
theorem rm_cp1 (l : Launch) (Z : State) (a0 : Array Value) (hw : HW Z a0) (ws : List Jvm.Cond) (a_ : Addr) (v_ : Addr) (kv : ClassId) (i0t : Addr) (mo : Addr) (em : Addr) (h0 : Heap) (n0 : Nat) (Z0 : n0 ≤ h0.size) (P0 : Old Z n0 h0) (P1 : sta3 Z (.ref em)) (P2 : Mi Z "[Ljava/lang/Object;" mo) (P3 : Exa Z h0 a_ "java/util/ArrayList") (P4 : fld2 Z h0 a_ (.int 1)) (P5 : fld3 Z h0 a_ (.ref v_)) (P6 : Exa Z h0 v_ "[Ljava/lang/Object;") (P7 : Arv Z h0 v_ kv (.object "java/lang/Object") (10 : Int32) [(.ref i0t), .null, .null, .null, .null, .null, .null, .null, .null, .null] .null) (P8 : Exa Z h0 i0t "java/lang/String") :
    MF l Z m_17 jdk_40_method_48_code 1 (some (.object "java/util/List")) ws (oR 7 2 3 88) #[(.ref a_)] h0 (Q_cp1 Z a_ v_ kv i0t mo em h0 n0) := by
  refine own_body (cls := "java/util/List") (plainFor_of_name pn_6) rfl (fun p e s m below meth c s₁ hx hby hml hown hnm hret hZ X0 e0 => ?_)
  have N0 := Fr.nil n0
  have K0 := Keep.refl h0 []
  have lt1 := own_l P3.lt
  have lt2 := own_l P4.lt
  have lt3 := own_l P5.lt
  have lt4 := own_l P6.lt
  have lt5 := own_l P7.lt
  have lt6 := own_l P8.lt
  obtain ⟨_, _, ⟨T7, L7, k7, n7⟩, -, X7, ⟨Lc7, hQ7, l7, y7, z7⟩, st7⟩ := Jvm.LawKit.callS X0 hx (y := m_16) hown (mvT hZ (w_117 hw)) (mvT hZ (w_118 hw)) (mvT hZ (w_119 hw)) (mvT hZ (w_120 hw)) (by decide) (backOf (W := 0) (rm_lc1 l Z a0 hw [] a_ v_ kv i0t mo em h0 n0 (by omega) P0 P1 P2 P3 P4 P5 P6 P7 P8) hZ (w_120 hw) (w_119 hw) (by decide) (by decide)) (g := (mkF m 1 #[vA a_] [(.ref a_)])) rfl (by rw [hml]; rfl) (argsL := [(.ref a_)]) (rest := []) (lenOf pd_10 rfl) rfl (Nat.le_of_eq rfl) (hb hby d134) (fun _ _ => ⟨rfl, e0, (by decide : 0 + 2 ≤ _), (by decide : 0 + 3 ≤ _)⟩)
  dsimp only [Pt.U, Pt.locs, Pt.cells, Pt.slots] at X7 l7 y7 z7 st7 hQ7
  rw [l7, y7, z7] at X7
  obtain ⟨x7_r, rfl, Nq7, Kq7, r7_0, r7_1⟩ := hQ7
  have N7 := Fr.app N0 Nq7
  have z7' := Kq7.1
  have K7 := K0.trans Kq7 all0
  have lt8 := own_l r7_1.lt
  refine ⟨_, _, _, _, some (.ref x7_r), X7, by decide, by decide, nofun, ?_, fun fs hr => castTop (ef_2 m a_) ?_⟩
  · show Q_cp1 Z a_ v_ kv i0t mo em h0 n0 _ T7.heap _
    exact ⟨x7_r, rfl, N7, K7, (by omega), r7_1⟩
  · show Steps _ _ _ (s₁.setTop (mkF m 0 #[vA a_] [])) _
    refine XS.aloadN X0.here hx rfl (hb hby d133) rfl rfl ?_
    refine st7 _ ?_
    show Steps _ _ _ (T7.setTop (mkF m 4 #[vA a_] [(.ref x7_r)])) _
    exact retOut X7 hx hret (own_narrow_ref rfl) (Or.inr (Or.inr (Or.inr (Or.inr ⟨rfl, rfl, rfl⟩)))) (hb hby d135) hr
def Q_min2 (Z : State) (h0 : Heap) (n0 : Nat) (v : Option Value) (h : Heap) (L : List Loc) : Prop := (v = some (.int 2)) ∧ (Fr n0 L) ∧ (h = h0)
theorem rm_min2 (l : Launch) (Z : State) (a0 : Array Value) (hw : HW Z a0) (ws : List Jvm.Cond) (h0 : Heap) (n0 : Nat) (Z0 : n0 ≤ h0.size) :
    MF l Z m_24 jdk_29_method_69_code 2 (some .int) ws (oR 0 0 0 0) #[(.int 10), (.int 2)] h0 (Q_min2 Z  h0 n0) := by
  refine own_body (cls := "java/lang/Math") pn_13 rfl (fun p e s m below meth c s₁ hx hby hml hown hnm hret hZ X0 e0 => ?_)
  have N0 := Fr.nil n0
  refine ⟨_, _, _, _, some (.int 2), X0, by decide, by decide, nofun, ?_, fun fs hr => castTop (ef_3 m (10 : Int32) (2 : Int32)) ?_⟩
  · show Q_min2 Z  h0 n0 _ s₁.heap _
    rw [(e0 : s₁.heap = h0)]
    exact ⟨rfl, N0, rfl⟩
  · show Steps _ _ _ (s₁.setTop (mkF m 0 #[vI 10, vI 2] [])) _
    refine XS.iloadN X0.here hx rfl (hb hby d176) rfl ?_
    refine XS.iloadN X0.here hx rfl (hb hby d177) rfl ?_
    refine XS.icmpYes X0.here hx rfl (pc0 := 2) (pc' := 9) rfl (hb hby d178) rfl (tlt ((by decide) : (2 : Int32) < (10 : Int32))).2.2.1 (by decide) (by decide) ?_
    refine XS.iloadN X0.here hx rfl (hb hby d179) rfl ?_
    exact retI X0 hx hret (hb hby d180) hr
def Q_acp3_2 (Z : State) (v_ : Addr) (kv : ClassId) (i0t : Addr) (i1t : Addr) (mo : Addr) (h0 : Heap) (n0 : Nat) (v : Option Value) (h : Heap) (L : List Loc) : Prop := ∃ (b : Addr) (k : ClassId), (v = some (.ref b)) ∧ (Fr n0 L) ∧ (Keep h0 h []) ∧ (h0.size ≤ b) ∧ (Arv Z h b k (.object "java/lang/Object") (2 : Int32) [(.ref i0t), (.ref i1t)] .null)
theorem rm_acp3_2 (l : Launch) (Z : State) (a0 : Array Value) (hw : HW Z a0) (ws : List Jvm.Cond) (v_ : Addr) (kv : ClassId) (i0t : Addr) (i1t : Addr) (mo : Addr) (h0 : Heap) (n0 : Nat) (Z0 : n0 ≤ h0.size) (P0 : Mi Z "[Ljava/lang/Object;" mo) (P1 : Arv Z h0 v_ kv (.object "java/lang/Object") (10 : Int32) [(.ref i0t), (.ref i1t), .null, .null, .null, .null, .null, .null, .null, .null] .null) (P2 : Exa Z h0 i0t "java/lang/String") (P3 : Exa Z h0 i1t "java/lang/String") :
    MF l Z m_26 jdk_65_method_120_code 4 (some (.array (.object "java/lang/Object"))) ws (oR 1 1 2 18) #[(.ref v_), (.int 2), (.ref mo)] h0 (Q_acp3_2 Z v_ kv i0t i1t mo h0 n0) := by
  refine own_body (cls := "java/util/Arrays") (plainFor_of_name pn_14) rfl (fun p e s m below meth c s₁ hx hby hml hown hnm hret hZ X0 e0 => ?_)
  have N0 := Fr.nil n0
  have K0 := Keep.refl h0 []
  have lt1 := own_l P1.lt
  have lt2 := own_l P2.lt
  have lt3 := own_l P3.lt
  obtain ⟨T4, X4, e4, st4⟩ := own_ldcM X0 hx hZ hown (w_157 hw) e0 P0 (g := (mkF m 1 #[vA v_, vI 2, vA mo, .unset] [(.ref mo)])) rfl (hb hby d182)
  obtain ⟨T5, h5, k5, X5, e5, E5, A5, AE5, O5, st5⟩ := newRE X4 hx hZ hown (w_158 hw) (w_83 hw) e4 (g := (mkF m 7 #[vA v_, vI 2, vA mo, .unset] [(.int 2)])) rfl (hb hby d185) rfl (by decide) (cap := 2) (by decide) (by decide) (by decide) (by decide) (ad := "[Ljava/lang/Object;") (by decide)
  obtain ⟨b5, g5⟩ : ∃ z, z = h0.size := ⟨_, rfl⟩
  rw [← g5] at A5 AE5 st5
  have z5 := E5.1
  have K5 := K0.ext E5
  have V5 : Arv Z h5 b5 k5 (.object "java/lang/Object") (2 : Int32) [.null, .null] .null := (Arv.new A5 (by decide)).pad (pad_rep [] .null 2)
  have lt6 := own_l V5.lt
  have f8 := P1.ext E5
  obtain ⟨cl7, Ar7, q7, S7, M7, H7, G7⟩ := id f8
  obtain ⟨_, _, ⟨T9, L9, k9, n9⟩, -, X9, ⟨Lc9, hQ9, l9, y9, z9⟩, st9⟩ := Jvm.LawKit.callS X5 hx (y := m_24) hown (mvT hZ (w_159 hw)) (mvT hZ (w_160 hw)) (mvT hZ (w_80 hw)) (mvT hZ (w_161 hw)) (by decide) (backOf (W := 4) (rm_min2 l Z a0 hw []  h5 n0 (by omega) ) hZ (w_161 hw) (w_80 hw) (by decide) (by decide)) (g := (mkF m 32 #[vA v_, vI 2, vA mo, vA b5] [(.int 2), (.int 10), (.int 0), (.ref b5), (.int 0), (.ref v_)])) rfl (by rw [hml]; rfl) (argsL := [(.int 10), (.int 2)]) (rest := [(.int 0), (.ref b5), (.int 0), (.ref v_)]) (lenOf pd_4 rfl) rfl (Nat.le_of_eq rfl) (hb hby d195) (fun _ _ => ⟨rfl, e5, (by decide : 1 + 0 ≤ _), (by decide : 2 + 0 ≤ _)⟩)
  dsimp only [Pt.U, Pt.locs, Pt.cells, Pt.slots] at X9 l9 y9 z9 st9 hQ9
  rw [l9, y9, z9] at X9
  obtain ⟨rfl, Nq9, Kq9⟩ := hQ9
  have N9 := Fr.app N0 Nq9
  obtain ⟨cl10, Ar10, q10, S10, M10, H10, G10⟩ := id V5
  have f11 := P3.ext E5
  have f12 := P2.ext E5
  obtain ⟨T10, h10, L10, X10, e10, N10, Kq10, V10, st10⟩ := cpA X9 hx hZ hown (w_162 hw) (w_165 hw) (w_163 hw) (w_164 hw) Kq9 f8 V5 (Or.inr ⟨rfl, rfl, ⟨(Sto.ofV Ar10 q10 O5 (Ins.of_exa f12 (w_84 hw))), ⟨(Sto.ofV Ar10 q10 O5 (Ins.of_exa f11 (w_84 hw))), trivial⟩⟩⟩) (us := [(.ref i0t), (.ref i1t)]) (sp := 0) (dp := 0) (nn := (2 : Int32)) (by decide) (by decide) (by decide) (by decide) (by decide) rfl (by decide) N9 (by omega) (g := (mkF m 35 #[vA v_, vI 2, vA mo, vA b5] [(.int 2), (.int 0), (.ref b5), (.int 0), (.ref v_)])) rfl (by rw [hml]; rfl) rfl (hb hby d196) (by decide) (W := 0) (Nat.le_of_eq rfl) (by decide)
  replace V10 : Arv Z h10 b5 k5 (.object "java/lang/Object") (2 : Int32) [(.ref i0t), (.ref i1t)] .null := V10
  have z10' := Kq10.1
  have K10 := K5.trans Kq10 (allS (Or.inr (by omega)) all0)
  refine ⟨_, _, _, _, some (.ref b5), X10, by decide, by decide, nofun, ?_, fun fs hr => castTop (ef_10 m v_ (2 : Int32) mo) ?_⟩
  · show Q_acp3_2 Z v_ kv i0t i1t mo h0 n0 _ T10.heap _
    rw [(e10 : T10.heap = h10)]
    exact ⟨b5, k5, rfl, N10, K10, (by omega), V10⟩
  · show Steps _ _ _ (s₁.setTop (mkF m 0 #[vA v_, vI 2, vA mo, .unset] [])) _
    refine XS.aloadN X0.here hx rfl (hb hby d181) rfl rfl ?_
    refine st4 _ ?_
    show Steps _ _ _ (T4.setTop (mkF m 3 #[vA v_, vI 2, vA mo, .unset] [(.ref mo), (.ref mo)])) _
    refine Jvm.RoadKit.acmp (g := (mkF m 3 #[vA v_, vI 2, vA mo, .unset] [(.ref mo), (.ref mo)])) X4 hx rfl rfl rfl (pc0 := 3) (pc' := 6) (same := true) rfl (hb hby d183) rfl (decide_eq_true rfl) (by decide) (by decide) ?_
    show Steps _ _ _ (T4.setTop (mkF m 6 #[vA v_, vI 2, vA mo, .unset] [])) _
    refine XS.iloadN X4.here hx rfl (hb hby d184) rfl ?_
    refine st5 _ ?_
    show Steps _ _ _ (T5.setTop (mkF m 10 #[vA v_, vI 2, vA mo, .unset] [(.ref b5)])) _
    refine XS.goto X5.here hx rfl (pc0 := 10) (pc' := 24) rfl (hb hby d186) (by decide) (by decide) ?_
    refine XS.astoreN X5.here hx rfl (hb hby d187) rfl rfl (l' := #[vA v_, vI 2, vA mo, vA b5]) rfl ?_
    refine XS.aloadN X5.here hx rfl (hb hby d188) rfl rfl ?_
    refine XS.iconst X5.here hx rfl (hb hby d189) ?_
    refine XS.aloadN X5.here hx rfl (hb hby d190) rfl rfl ?_
    refine XS.iconst X5.here hx rfl (hb hby d191) ?_
    refine XS.aloadN X5.here hx rfl (hb hby d192) rfl rfl ?_
    refine X5.arraylength hx (by rw [e5]; exact Ar7.1) (State.isArrayOf_alike hZ.alike Ar7.2.1) (g := (mkF m 30 #[vA v_, vI 2, vA mo, vA b5] [(.ref v_), (.int 0), (.ref b5), (.int 0), (.ref v_)])) rfl rfl (hb hby d193) _ ?_
    rw [len_of S7 M7]
    show Steps _ _ _ (T5.setTop (mkF m 31 #[vA v_, vI 2, vA mo, vA b5] [(.int 10), (.int 0), (.ref b5), (.int 0), (.ref v_)])) _
    refine XS.iloadN X5.here hx rfl (hb hby d194) rfl ?_
    refine st9 _ ?_
    show Steps _ _ _ (T9.setTop (mkF m 35 #[vA v_, vI 2, vA mo, vA b5] [(.int 2), (.int 0), (.ref b5), (.int 0), (.ref v_)])) _
    refine st10 _ ?_
    show Steps _ _ _ (T10.setTop (mkF m 38 #[vA v_, vI 2, vA mo, vA b5] [])) _
    refine XS.aloadN X10.here hx rfl (hb hby d197) rfl rfl ?_
    exact retOut X10 hx hret (own_narrow_ref rfl) (Or.inr (Or.inr (Or.inr (Or.inr ⟨rfl, rfl, rfl⟩)))) (hb hby d198) hr
def Q_acp2_2 (Z : State) (v_ : Addr) (kv : ClassId) (i0t : Addr) (i1t : Addr) (mo : Addr) (h0 : Heap) (n0 : Nat) (v : Option Value) (h : Heap) (L : List Loc) : Prop := ∃ (b : Addr) (k : ClassId), (v = some (.ref b)) ∧ (Fr n0 L) ∧ (Keep h0 h []) ∧ (h0.size ≤ b) ∧ (Arv Z h b k (.object "java/lang/Object") (2 : Int32) [(.ref i0t), (.ref i1t)] .null)
theorem rm_acp2_2 (l : Launch) (Z : State) (a0 : Array Value) (hw : HW Z a0) (ws : List Jvm.Cond) (v_ : Addr) (kv : ClassId) (i0t : Addr) (i1t : Addr) (mo : Addr) (h0 : Heap) (n0 : Nat) (Z0 : n0 ≤ h0.size) (P0 : Mi Z "[Ljava/lang/Object;" mo) (P1 : Exa Z h0 v_ "[Ljava/lang/Object;") (P2 : Arv Z h0 v_ kv (.object "java/lang/Object") (10 : Int32) [(.ref i0t), (.ref i1t), .null, .null, .null, .null, .null, .null, .null, .null] .null) (P3 : Exa Z h0 i0t "java/lang/String") (P4 : Exa Z h0 i1t "java/lang/String") :
    MF l Z m_28 jdk_65_method_119_code 2 (some (.array (.object "java/lang/Object"))) ws (oR 2 1 2 33) #[(.ref v_), (.int 2)] h0 (Q_acp2_2 Z v_ kv i0t i1t mo h0 n0) := by
  refine own_body (cls := "java/util/Arrays") (plainFor_of_name pn_14) rfl (fun p e s m below meth c s₁ hx hby hml hown hnm hret hZ X0 e0 => ?_)
  have N0 := Fr.nil n0
  have K0 := Keep.refl h0 []
  have lt1 := own_l P1.lt
  have lt2 := own_l P2.lt
  have lt3 := own_l P3.lt
  have lt4 := own_l P4.lt
  obtain ⟨T5, X5, e5, st5⟩ := own_gcls X0 hx hZ hown (w_148 hw) (w_149 hw) (w_151 hw) (w_150 hw) (w_152 hw) e0 P1 P0 (g := (mkF m 3 #[vA v_, vI 2] [(.ref v_), (.int 2), (.ref v_)])) rfl (by rw [hml]; rfl) rfl (hb hby d202) (by decide) (W := 2) (Nat.le_of_eq rfl) (by decide)
  obtain ⟨_, _, ⟨T6, L6, k6, n6⟩, -, X6, ⟨Lc6, hQ6, l6, y6, z6⟩, st6⟩ := Jvm.LawKit.callS X5 hx (y := m_26) hown (mvT hZ (w_154 hw)) (mvT hZ (w_155 hw)) (mvT hZ (w_146 hw)) (mvT hZ (w_156 hw)) (by decide) (backOf (W := 0) (rm_acp3_2 l Z a0 hw [] v_ kv i0t i1t mo h0 n0 (by omega) P0 P2 P3 P4) hZ (w_156 hw) (w_146 hw) (by decide) (by decide)) (g := (mkF m 6 #[vA v_, vI 2] [(.ref mo), (.int 2), (.ref v_)])) rfl (by rw [hml]; rfl) (argsL := [(.ref v_), (.int 2), (.ref mo)]) (rest := []) (lenOf pd_12 rfl) rfl (Nat.le_of_eq rfl) (hb hby d203) (fun _ _ => ⟨rfl, e5, (by decide : 0 + 1 ≤ _), (by decide : 0 + 2 ≤ _)⟩)
  dsimp only [Pt.U, Pt.locs, Pt.cells, Pt.slots] at X6 l6 y6 z6 st6 hQ6
  rw [l6, y6, z6] at X6
  obtain ⟨x6_b, x6_k, rfl, Nq6, Kq6, r6_0, r6_1⟩ := hQ6
  have N6 := Fr.app N0 Nq6
  have z6' := Kq6.1
  have K6 := K0.trans Kq6 all0
  have lt7 := own_l r6_1.lt
  refine ⟨_, _, _, _, some (.ref x6_b), X6, by decide, by decide, nofun, ?_, fun fs hr => castTop (ef_11 m v_ (2 : Int32)) ?_⟩
  · show Q_acp2_2 Z v_ kv i0t i1t mo h0 n0 _ T6.heap _
    exact ⟨x6_b, x6_k, rfl, N6, K6, (by omega), r6_1⟩
  · show Steps _ _ _ (s₁.setTop (mkF m 0 #[vA v_, vI 2] [])) _
    refine XS.aloadN X0.here hx rfl (hb hby d199) rfl rfl ?_
    refine XS.iloadN X0.here hx rfl (hb hby d200) rfl ?_
    refine XS.aloadN X0.here hx rfl (hb hby d201) rfl rfl ?_
    refine st5 _ ?_
    show Steps _ _ _ (T5.setTop (mkF m 6 #[vA v_, vI 2] [(.ref mo), (.int 2), (.ref v_)])) _
    refine st6 _ ?_
    show Steps _ _ _ (T6.setTop (mkF m 9 #[vA v_, vI 2] [(.ref x6_b)])) _
    exact retOut X6 hx hret (own_narrow_ref rfl) (Or.inr (Or.inr (Or.inr (Or.inr ⟨rfl, rfl, rfl⟩)))) (hb hby d204) hr
def Q_toA2 (Z : State) (a_ : Addr) (v_ : Addr) (kv : ClassId) (i0t : Addr) (i1t : Addr) (mo : Addr) (h0 : Heap) (n0 : Nat) (v : Option Value) (h : Heap) (L : List Loc) : Prop := ∃ (b : Addr) (k : ClassId), (v = some (.ref b)) ∧ (Fr n0 L) ∧ (Keep h0 h []) ∧ (h0.size ≤ b) ∧ (Arv Z h b k (.object "java/lang/Object") (2 : Int32) [(.ref i0t), (.ref i1t)] .null)
theorem rm_toA2 (l : Launch) (Z : State) (a0 : Array Value) (hw : HW Z a0) (ws : List Jvm.Cond) (a_ : Addr) (v_ : Addr) (kv : ClassId) (i0t : Addr) (i1t : Addr) (mo : Addr) (h0 : Heap) (n0 : Nat) (Z0 : n0 ≤ h0.size) (P0 : Mi Z "[Ljava/lang/Object;" mo) (P1 : Exa Z h0 a_ "java/util/ArrayList") (P2 : fld2 Z h0 a_ (.int 2)) (P3 : fld3 Z h0 a_ (.ref v_)) (P4 : Exa Z h0 v_ "[Ljava/lang/Object;") (P5 : Arv Z h0 v_ kv (.object "java/lang/Object") (10 : Int32) [(.ref i0t), (.ref i1t), .null, .null, .null, .null, .null, .null, .null, .null] .null) (P6 : Exa Z h0 i0t "java/lang/String") (P7 : Exa Z h0 i1t "java/lang/String") :
    MF l Z m_29 jdk_38_method_16_code 1 (some (.array (.object "java/lang/Object"))) ws (oR 3 1 2 46) #[(.ref a_)] h0 (Q_toA2 Z a_ v_ kv i0t i1t mo h0 n0) := by
  refine own_body (cls := "java/util/ArrayList") (plainFor_of_name pn_4) rfl (fun p e s m below meth c s₁ hx hby hml hown hnm hret hZ X0 e0 => ?_)
  have N0 := Fr.nil n0
  have K0 := Keep.refl h0 []
  have lt1 := own_l P1.lt
  have lt2 := own_l P2.lt
  have lt3 := own_l P3.lt
  have lt4 := own_l P4.lt
  have lt5 := own_l P5.lt
  have lt6 := own_l P6.lt
  have lt7 := own_l P7.lt
  obtain ⟨T8, X8, e8, st8⟩ := getF X0 hx hZ hown (host := "") (Or.inl (w_48 hw)) Via.refl e0 P3 (g := (mkF m 1 #[vA a_] [(.ref a_)])) rfl rfl (hb hby d206)
  obtain ⟨T9, X9, e9, st9⟩ := getF X8 hx hZ hown (host := "") (Or.inl (w_61 hw)) Via.refl e8 P2 (g := (mkF m 5 #[vA a_] [(.ref a_), (.ref v_)])) rfl rfl (hb hby d208)
  obtain ⟨_, _, ⟨T10, L10, k10, n10⟩, -, X10, ⟨Lc10, hQ10, l10, y10, z10⟩, st10⟩ := Jvm.LawKit.callS X9 hx (y := m_28) hown (mvT hZ (w_144 hw)) (mvT hZ (w_145 hw)) (mvT hZ (w_146 hw)) (mvT hZ (w_147 hw)) (by decide) (backOf (W := 0) (rm_acp2_2 l Z a0 hw [] v_ kv i0t i1t mo h0 n0 (by omega) P0 P4 P5 P6 P7) hZ (w_147 hw) (w_146 hw) (by decide) (by decide)) (g := (mkF m 8 #[vA a_] [(.int 2), (.ref v_)])) rfl (by rw [hml]; rfl) (argsL := [(.ref v_), (.int 2)]) (rest := []) (lenOf pd_13 rfl) rfl (Nat.le_of_eq rfl) (hb hby d209) (fun _ _ => ⟨rfl, e9, (by decide : 0 + 1 ≤ _), (by decide : 0 + 2 ≤ _)⟩)
  dsimp only [Pt.U, Pt.locs, Pt.cells, Pt.slots] at X10 l10 y10 z10 st10 hQ10
  rw [l10, y10, z10] at X10
  obtain ⟨x10_b, x10_k, rfl, Nq10, Kq10, r10_0, r10_1⟩ := hQ10
  have N10 := Fr.app N0 Nq10
  have z10' := Kq10.1
  have K10 := K0.trans Kq10 all0
  have lt11 := own_l r10_1.lt
  refine ⟨_, _, _, _, some (.ref x10_b), X10, by decide, by decide, nofun, ?_, fun fs hr => castTop (ef_2 m a_) ?_⟩
  · show Q_toA2 Z a_ v_ kv i0t i1t mo h0 n0 _ T10.heap _
    exact ⟨x10_b, x10_k, rfl, N10, K10, (by omega), r10_1⟩
  · show Steps _ _ _ (s₁.setTop (mkF m 0 #[vA a_] [])) _
    refine XS.aloadN X0.here hx rfl (hb hby d205) rfl rfl ?_
    refine st8 _ ?_
    show Steps _ _ _ (T8.setTop (mkF m 4 #[vA a_] [(.ref v_)])) _
    refine XS.aloadN X8.here hx rfl (hb hby d207) rfl rfl ?_
    refine st9 _ ?_
    show Steps _ _ _ (T9.setTop (mkF m 8 #[vA a_] [(.int 2), (.ref v_)])) _
    refine st10 _ ?_
    show Steps _ _ _ (T10.setTop (mkF m 11 #[vA a_] [(.ref x10_b)])) _
    exact retOut X10 hx hret (own_narrow_ref rfl) (Or.inr (Or.inr (Or.inr (Or.inr ⟨rfl, rfl, rfl⟩)))) (hb hby d210) hr
theorem d225 : decode jdk_40_method_47_code 45 = .ok (.new 96, 3) := by decide +kernel
theorem d226 : decode jdk_40_method_47_code 48 = .ok (.dup, 1) := by decide +kernel
theorem d227 : decode jdk_40_method_47_code 49 = .ok (.aload_n 0, 1) := by decide +kernel
theorem d228 : decode jdk_40_method_47_code 50 = .ok (.iconst 0, 1) := by decide +kernel
theorem d229 : decode jdk_40_method_47_code 51 = .ok (.aaload, 1) := by decide +kernel
theorem d230 : decode jdk_40_method_47_code 52 = .ok (.aload_n 0, 1) := by decide +kernel
theorem d231 : decode jdk_40_method_47_code 53 = .ok (.iconst 1, 1) := by decide +kernel
theorem d232 : decode jdk_40_method_47_code 54 = .ok (.aaload, 1) := by decide +kernel
theorem w_172 {Z : State} {a0 : Array Value} (hw : HW Z a0) : (Jvm.Cond.methodLink "java/util/List" (100 : Nat) m_22).before a0 Z = true := hw _ (List.mem_of_getElem? (i := 172) rfl)
theorem w_175 {Z : State} {a0 : Array Value} (hw : HW Z a0) : (Jvm.Cond.code m_22 jdk_44_method_2_code (3 : Nat) (Option.none : Option Jvm.ClassFile.FieldType)).before a0 Z = true := hw _ (List.mem_of_getElem? (i := 175) rfl)
theorem pd_16 : parseMethodDescriptor "(Ljava/lang/Object;Ljava/lang/Object;)V" = some ⟨[(.object "java/lang/Object"), (.object "java/lang/Object")], none⟩ := by decide +kernel
theorem d233 : decode jdk_40_method_47_code 55 = .ok (.invokespecial 100, 3) := by decide +kernel
theorem w_173 {Z : State} {a0 : Array Value} (hw : HW Z a0) : (Jvm.Cond.instanceMethod m_22).before a0 Z = true := hw _ (List.mem_of_getElem? (i := 173) rfl)
theorem d234 : decode jdk_40_method_47_code 58 = .ok (.areturn, 1) := by decide +kernel
def Q_of2 (Z : State) (v_ : Addr) (kv : ClassId) (i0t : Addr) (i1t : Addr) (h0 : Heap) (n0 : Nat) (v : Option Value) (h : Heap) (L : List Loc) : Prop := ∃ (r : Addr), (v = some (.ref r)) ∧ (Fr n0 L) ∧ (Keep h0 h []) ∧ (h0.size ≤ r) ∧ (Exa Z h r "java/util/ImmutableCollections$List12")
theorem rm_of2 (l : Launch) (Z : State) (a0 : Array Value) (hw : HW Z a0) (ws : List Jvm.Cond) (v_ : Addr) (kv : ClassId) (i0t : Addr) (i1t : Addr) (h0 : Heap) (n0 : Nat) (Z0 : n0 ≤ h0.size) (P0 : Arv Z h0 v_ kv (.object "java/lang/Object") (2 : Int32) [(.ref i0t), (.ref i1t)] .null) (P1 : Exa Z h0 i0t "java/lang/String") (P2 : Exa Z h0 i1t "java/lang/String") :
    MF l Z m_30 jdk_40_method_47_code 2 (some (.object "java/util/List")) ws (oR 5 1 2 63) #[(.ref v_)] h0 (Q_of2 Z v_ kv i0t i1t h0 n0) := by
  refine own_body (cls := "java/util/List") (plainFor_of_name pn_6) rfl (fun p e s m below meth c s₁ hx hby hml hown hnm hret hZ X0 e0 => ?_)
  have N0 := Fr.nil n0
  have K0 := Keep.refl h0 []
  have lt1 := own_l P0.lt
  have lt2 := own_l P1.lt
  have lt3 := own_l P2.lt
  obtain ⟨cl4, Ar4, q4, S4, M4, H4, G4⟩ := id P0
  obtain ⟨T5, h5, X5, e5, E5, A5, D5, -, st5⟩ := newO X0 hx hZ hown (w_169 hw) (w_170 hw) (w_171 hw) e0 (g := (mkF m 45 #[vA v_, .unset] [])) rfl (hb hby d225) (by decide) (by decide)
  obtain ⟨b5, g5⟩ : ∃ z, z = h0.size := ⟨_, rfl⟩
  rw [← g5] at A5 D5 st5
  have z5 := E5.1
  have K5 := K0.ext E5
  have lt6 := own_l A5.lt
  have F5_195 : Fld Z h5 b5 "java/util/ImmutableCollections$List12" "e0" "Ljava/lang/Object;" .null := D5 (Or.inr (w_195 hw)) (ty := (.object "java/lang/Object")) (by decide)
  have F5_197 : Fld Z h5 b5 "java/util/ImmutableCollections$List12" "e1" "Ljava/lang/Object;" .null := D5 (Or.inr (w_197 hw)) (ty := (.object "java/lang/Object")) (by decide)
  have f8 := P0.ext E5
  obtain ⟨cl7, Ar7, q7, S7, M7, H7, G7⟩ := id f8
  have hin7 : ¬ ((0 : Int32) < 0 ∨ cl7.slots.size ≤ ((0 : Int32)).toNatClampNeg) := inb_of S7 ⟨by decide, by decide⟩
  have hat7 : cl7.slots[((0 : Int32)).toNatClampNeg]? = some (.ref i0t) := Has.at H7 hin7 rfl
  obtain ⟨cl9, Ar9, q9, S9, M9, H9, G9⟩ := id f8
  have hin9 : ¬ ((1 : Int32) < 0 ∨ cl9.slots.size ≤ ((1 : Int32)).toNatClampNeg) := inb_of S9 ⟨by decide, by decide⟩
  have hat9 : cl9.slots[((1 : Int32)).toNatClampNeg]? = some (.ref i1t) := Has.at H9 hin9 rfl
  obtain ⟨_, _, ⟨T10, L10, k10, n10⟩, -, X10, ⟨Lc10, hQ10, l10, y10, z10⟩, st10⟩ := X5.specialBack hx (y := m_22) rfl hown (mvT hZ (w_172 hw)) (mvT hZ (w_173 hw)) (mvT hZ (w_175 hw)) (by decide) (backOf (W := 1) (rm_l12b l Z a0 hw [] b5 i0t i1t h5 n0 (by omega) A5 F5_195 F5_197 (by omega)) hZ (w_175 hw) (w_171 hw) (by decide) (by decide)) (g := (mkF m 55 #[vA v_, .unset] [(.ref i1t), (.ref i0t), (.ref b5), (.ref b5)])) rfl (by rw [hml]; rfl) (Steps.refl _) (a := b5) (argsL := [(.ref i0t), (.ref i1t)]) (rest := [(.ref b5)]) (lenOf pd_16 rfl) rfl (Nat.le_of_eq rfl) (hb hby d233) (fun _ _ => ⟨rfl, e5, (by decide : 1 + 0 ≤ _), (by decide : 2 + 0 ≤ _)⟩)
  dsimp only [Pt.U, Pt.locs, Pt.cells, Pt.slots] at X10 l10 y10 z10 st10 hQ10
  rw [l10, y10, z10] at X10
  obtain ⟨rfl, Nq10, Kq10, r10_0⟩ := hQ10
  have N10 := Fr.app N0 Nq10
  have z10' := Kq10.1
  have K10 := K5.trans Kq10 (allS (Or.inr (by omega)) all0)
  have lt11 := own_l r10_0.lt
  refine ⟨_, _, _, _, some (.ref b5), X10, by decide, by decide, nofun, ?_, fun fs hr => castTop (ef_8 m v_) ?_⟩
  · show Q_of2 Z v_ kv i0t i1t h0 n0 _ T10.heap _
    exact ⟨b5, rfl, N10, K10, (by omega), r10_0⟩
  · show Steps _ _ _ (s₁.setTop (mkF m 0 #[vA v_, .unset] [])) _
    refine XS.aloadN X0.here hx rfl (hb hby d211) rfl rfl ?_
    refine X0.arraylength hx (by rw [e0]; exact Ar4.1) (State.isArrayOf_alike hZ.alike Ar4.2.1) (g := (mkF m 1 #[vA v_, .unset] [(.ref v_)])) rfl rfl (hb hby d212) _ ?_
    rw [len_of S4 M4]
    show Steps _ _ _ (s₁.setTop (mkF m 2 #[vA v_, .unset] [(.int 2)])) _
    refine XS.tswIn X0.here hx rfl (pc0 := 2) (pc' := 45) rfl (hb hby d213) rfl (by decide) (o := 43) (by decide) (by decide) (by decide) ?_
    refine st5 _ ?_
    show Steps _ _ _ (T5.setTop (mkF m 48 #[vA v_, .unset] [(.ref b5)])) _
    refine XS.dup X5.here hx rfl (hb hby d226) rfl rfl ?_
    refine XS.aloadN X5.here hx rfl (hb hby d227) rfl rfl ?_
    refine XS.iconst X5.here hx rfl (hb hby d228) ?_
    refine X5.aaload hx (j := (0 : Int32)) (v := (.ref i0t)) (by rw [e5]; exact Ar7.1) (State.isArrayOf_alike hZ.alike Ar7.2.1) rfl Ar7.2.2 hin7 hat7 (g := (mkF m 51 #[vA v_, .unset] [(.int 0), (.ref v_), (.ref b5), (.ref b5)])) rfl rfl (hb hby d229) _ ?_
    show Steps _ _ _ (T5.setTop (mkF m 52 #[vA v_, .unset] [(.ref i0t), (.ref b5), (.ref b5)])) _
    refine XS.aloadN X5.here hx rfl (hb hby d230) rfl rfl ?_
    refine XS.iconst X5.here hx rfl (hb hby d231) ?_
    refine X5.aaload hx (j := (1 : Int32)) (v := (.ref i1t)) (by rw [e5]; exact Ar9.1) (State.isArrayOf_alike hZ.alike Ar9.2.1) rfl Ar9.2.2 hin9 hat9 (g := (mkF m 54 #[vA v_, .unset] [(.int 1), (.ref v_), (.ref i0t), (.ref b5), (.ref b5)])) rfl rfl (hb hby d232) _ ?_
    show Steps _ _ _ (T5.setTop (mkF m 55 #[vA v_, .unset] [(.ref i1t), (.ref i0t), (.ref b5), (.ref b5)])) _
    refine st10.trans ?_
    show Steps _ _ _ (T10.setTop (mkF m 58 #[vA v_, .unset] [(.ref b5)])) _
    exact retOut X10 hx hret (own_narrow_ref rfl) (Or.inr (Or.inr (Or.inr (Or.inr ⟨rfl, rfl, rfl⟩)))) (hb hby d234) hr
def Q_lc2 (Z : State) (a_ : Addr) (v_ : Addr) (kv : ClassId) (i0t : Addr) (i1t : Addr) (mo : Addr) (h0 : Heap) (n0 : Nat) (v : Option Value) (h : Heap) (L : List Loc) : Prop := ∃ (r : Addr), (v = some (.ref r)) ∧ (Fr n0 L) ∧ (Keep h0 h []) ∧ (h0.size ≤ r) ∧ (Exa Z h r "java/util/ImmutableCollections$List12")
theorem rm_lc2 (l : Launch) (Z : State) (a0 : Array Value) (hw : HW Z a0) (ws : List Jvm.Cond) (a_ : Addr) (v_ : Addr) (kv : ClassId) (i0t : Addr) (i1t : Addr) (mo : Addr) (h0 : Heap) (n0 : Nat) (Z0 : n0 ≤ h0.size) (P0 : Mi Z "[Ljava/lang/Object;" mo) (P1 : Exa Z h0 a_ "java/util/ArrayList") (P2 : fld2 Z h0 a_ (.int 2)) (P3 : fld3 Z h0 a_ (.ref v_)) (P4 : Exa Z h0 v_ "[Ljava/lang/Object;") (P5 : Arv Z h0 v_ kv (.object "java/lang/Object") (10 : Int32) [(.ref i0t), (.ref i1t), .null, .null, .null, .null, .null, .null, .null, .null] .null) (P6 : Exa Z h0 i0t "java/lang/String") (P7 : Exa Z h0 i1t "java/lang/String") :
    MF l Z m_16 jdk_56_method_3_code 2 (some (.object "java/util/List")) ws (oR 6 2 4 76) #[(.ref a_)] h0 (Q_lc2 Z a_ v_ kv i0t i1t mo h0 n0) := by
  refine own_body (cls := "java/util/ImmutableCollections") (plainFor_of_name pn_7) rfl (fun p e s m below meth c s₁ hx hby hml hown hnm hret hZ X0 e0 => ?_)
  have N0 := Fr.nil n0
  have K0 := Keep.refl h0 []
  have lt1 := own_l P1.lt
  have lt2 := own_l P2.lt
  have lt3 := own_l P3.lt
  have lt4 := own_l P4.lt
  have lt5 := own_l P5.lt
  have lt6 := own_l P6.lt
  have lt7 := own_l P7.lt
  obtain ⟨T8, X8, e8, st8⟩ := instNo X0 hx hZ hown (w_121 hw) e0 P1 (own_nsno (w_122 hw) (w_170 hw) (NS.step (w_122 hw) (NS.step (w_123 hw) (NS.step (w_124 hw) (own_nsroot (w_125 hw) (w_170 hw) (by decide)) (by decide)) (by decide)) (by decide)) (by decide)) (g := (mkF m 1 #[vA a_, .unset] [(.ref a_)])) rfl rfl (hb hby d123)
  obtain ⟨T9, X9, e9, st9⟩ := instNo X8 hx hZ hown (w_126 hw) e8 P1 (own_nsno (w_122 hw) (w_346 hw) (NS.step (w_122 hw) (NS.step (w_123 hw) (NS.step (w_124 hw) (own_nsroot (w_125 hw) (w_346 hw) (by decide)) (by decide)) (by decide)) (by decide)) (by decide)) (g := (mkF m 8 #[vA a_, .unset] [(.ref a_)])) rfl rfl (hb hby d126)
  obtain ⟨cq10, kq10, qa10, qb10, qc10⟩ := isOf hZ e9 P1
  obtain ⟨_, _, ⟨T10, L10, k10, n10⟩, -, X10, ⟨Lc10, hQ10, l10, y10, z10⟩, st10⟩ := X9.interfaceBack hx (xi := m_15) (y := m_13) (C := "java/util/ArrayList") hown (mvT hZ (w_127 hw)) (mvT hZ (w_128 hw)) (mvT hZ (w_129 hw)) (mvT hZ (w_130 hw)) (mvT hZ (w_131 hw)) (mvT hZ (w_132 hw)) (mvT hZ (w_133 hw)) (mvT hZ (w_134 hw)) (by decide) (backOf (W := 0) (rm_em2 l Z a0 hw [] a_ h0 n0 (by omega) P2) hZ (w_135 hw) (w_28 hw) (by decide) (by decide)) qa10 qb10 qc10 (g := (mkF m 32 #[vA a_, .unset] [(.ref a_)])) rfl (by rw [hml]; rfl) (Steps.refl _) (argsL := []) (rest := []) (lenOf pd_8 rfl) rfl (Nat.le_of_eq rfl) (hb hby d129) (fun _ _ => ⟨rfl, e9, (by decide : 0 + 0 ≤ _), (by decide : 0 + 0 ≤ _)⟩)
  dsimp only [Pt.U, Pt.locs, Pt.cells, Pt.slots] at X10 l10 y10 z10 st10 hQ10
  rw [l10, y10, z10] at X10
  obtain ⟨rfl, Nq10, Kq10⟩ := hQ10
  have N10 := Fr.app N0 Nq10
  obtain ⟨cq11, kq11, qa11, qb11, qc11⟩ := isOf hZ Kq10 P1
  obtain ⟨_, _, ⟨T11, L11, k11, n11⟩, -, X11, ⟨Lc11, hQ11, l11, y11, z11⟩, st11⟩ := X10.interfaceBack hx (xi := m_31) (y := m_29) (C := "java/util/ArrayList") hown (mvT hZ (w_136 hw)) (mvT hZ (w_137 hw)) (mvT hZ (w_138 hw)) (mvT hZ (w_139 hw)) (mvT hZ (w_140 hw)) (mvT hZ (w_141 hw)) (mvT hZ (w_142 hw)) (mvT hZ (w_134 hw)) (by decide) (backOf (W := 0) (rm_toA2 l Z a0 hw [] a_ v_ kv i0t i1t mo h0 n0 (by omega) P0 P1 P2 P3 P4 P5 P6 P7) hZ (w_143 hw) (w_28 hw) (by decide) (by decide)) qa11 qb11 qc11 (g := (mkF m 45 #[vA a_, .unset] [(.ref a_)])) rfl (by rw [hml]; rfl) (Steps.refl _) (argsL := []) (rest := []) (lenOf pd_6 rfl) rfl (Nat.le_of_eq rfl) (hb hby d222) (fun _ _ => ⟨rfl, Kq10, (by decide : 0 + 1 ≤ _), (by decide : 0 + 2 ≤ _)⟩)
  dsimp only [Pt.U, Pt.locs, Pt.cells, Pt.slots] at X11 l11 y11 z11 st11 hQ11
  rw [l11, y11, z11] at X11
  obtain ⟨x11_b, x11_k, rfl, Nq11, Kq11, r11_0, r11_1⟩ := hQ11
  have N11 := Fr.app N10 Nq11
  have z11' := Kq11.1
  have K11 := K0.trans Kq11 all0
  have lt12 := own_l r11_1.lt
  have f14 := P6.keep Kq11
  have f15 := P7.keep Kq11
  obtain ⟨_, _, ⟨T13, L13, k13, n13⟩, -, X13, ⟨Lc13, hQ13, l13, y13, z13⟩, st13⟩ := Jvm.LawKit.callS X11 hx (y := m_30) hown (mvT hZ (w_166 hw)) (mvT hZ (w_167 hw)) (mvT hZ (w_115 hw)) (mvT hZ (w_168 hw)) (by decide) (backOf (W := 0) (rm_of2 l Z a0 hw [] x11_b x11_k i0t i1t T11.heap n0 (by omega) r11_1 f14 f15) hZ (w_168 hw) (w_115 hw) (by decide) (by decide)) (g := (mkF m 50 #[vA a_, .unset] [(.ref x11_b)])) rfl (by rw [hml]; rfl) (argsL := [(.ref x11_b)]) (rest := []) (lenOf pd_15 rfl) rfl (Nat.le_of_eq rfl) (hb hby d223) (fun _ _ => ⟨rfl, rfl, (by decide : 1 + 1 ≤ _), (by decide : 2 + 2 ≤ _)⟩)
  dsimp only [Pt.U, Pt.locs, Pt.cells, Pt.slots] at X13 l13 y13 z13 st13 hQ13
  rw [l13, y13, z13] at X13
  obtain ⟨x13_r, rfl, Nq13, Kq13, r13_0, r13_1⟩ := hQ13
  have N13 := Fr.app N11 Nq13
  have z13' := Kq13.1
  have K13 := K11.trans Kq13 all0
  have lt16 := own_l r13_1.lt
  refine ⟨_, _, _, _, some (.ref x13_r), X13, by decide, by decide, nofun, ?_, fun fs hr => castTop (ef_8 m a_) ?_⟩
  · show Q_lc2 Z a_ v_ kv i0t i1t mo h0 n0 _ T13.heap _
    exact ⟨x13_r, rfl, N13, K13, (by omega), r13_1⟩
  · show Steps _ _ _ (s₁.setTop (mkF m 0 #[vA a_, .unset] [])) _
    refine XS.aloadN X0.here hx rfl (hb hby d122) rfl rfl ?_
    refine st8 _ ?_
    show Steps _ _ _ (T8.setTop (mkF m 4 #[vA a_, .unset] [(.int 0)])) _
    refine XS.ifNo X8.here hx rfl (hb hby d124) rfl ((if0 _ _).trans (teq ((by decide) : (0 : Int32) = (0 : Int32))).2) ?_
    refine XS.aloadN X8.here hx rfl (hb hby d125) rfl rfl ?_
    refine st9 _ ?_
    show Steps _ _ _ (T9.setTop (mkF m 11 #[vA a_, .unset] [(.int 0)])) _
    refine XS.ifYes X9.here hx rfl (pc0 := 11) (pc' := 31) rfl (hb hby d127) rfl ((if0 _ _).trans (teq ((by decide) : (0 : Int32) = (0 : Int32))).1) (by decide) (by decide) ?_
    refine XS.aloadN X9.here hx rfl (hb hby d128) rfl rfl ?_
    refine st10.trans ?_
    show Steps _ _ _ (T10.setTop (mkF m 37 #[vA a_, .unset] [(.int 0)])) _
    refine XS.ifYes X10.here hx rfl (pc0 := 37) (pc' := 44) rfl (hb hby d130) rfl ((if0 _ _).trans (teq ((by decide) : (0 : Int32) = (0 : Int32))).1) (by decide) (by decide) ?_
    refine XS.aloadN X10.here hx rfl (hb hby d221) rfl rfl ?_
    refine st11.trans ?_
    show Steps _ _ _ (T11.setTop (mkF m 50 #[vA a_, .unset] [(.ref x11_b)])) _
    refine st13 _ ?_
    show Steps _ _ _ (T13.setTop (mkF m 53 #[vA a_, .unset] [(.ref x13_r)])) _
    exact retOut X13 hx hret (own_narrow_ref rfl) (Or.inr (Or.inr (Or.inr (Or.inr ⟨rfl, rfl, rfl⟩)))) (hb hby d224) hr
def Q_cp2 (Z : State) (a_ : Addr) (v_ : Addr) (kv : ClassId) (i0t : Addr) (i1t : Addr) (mo : Addr) (h0 : Heap) (n0 : Nat) (v : Option Value) (h : Heap) (L : List Loc) : Prop := ∃ (r : Addr), (v = some (.ref r)) ∧ (Fr n0 L) ∧ (Keep h0 h []) ∧ (h0.size ≤ r) ∧ (Exa Z h r "java/util/ImmutableCollections$List12")
theorem rm_cp2 (l : Launch) (Z : State) (a0 : Array Value) (hw : HW Z a0) (ws : List Jvm.Cond) (a_ : Addr) (v_ : Addr) (kv : ClassId) (i0t : Addr) (i1t : Addr) (mo : Addr) (h0 : Heap) (n0 : Nat) (Z0 : n0 ≤ h0.size) (P0 : Mi Z "[Ljava/lang/Object;" mo) (P1 : Exa Z h0 a_ "java/util/ArrayList") (P2 : fld2 Z h0 a_ (.int 2)) (P3 : fld3 Z h0 a_ (.ref v_)) (P4 : Exa Z h0 v_ "[Ljava/lang/Object;") (P5 : Arv Z h0 v_ kv (.object "java/lang/Object") (10 : Int32) [(.ref i0t), (.ref i1t), .null, .null, .null, .null, .null, .null, .null, .null] .null) (P6 : Exa Z h0 i0t "java/lang/String") (P7 : Exa Z h0 i1t "java/lang/String") :
    MF l Z m_17 jdk_40_method_48_code 1 (some (.object "java/util/List")) ws (oR 7 2 4 89) #[(.ref a_)] h0 (Q_cp2 Z a_ v_ kv i0t i1t mo h0 n0) := by
  refine own_body (cls := "java/util/List") (plainFor_of_name pn_6) rfl (fun p e s m below meth c s₁ hx hby hml hown hnm hret hZ X0 e0 => ?_)
  have N0 := Fr.nil n0
  have K0 := Keep.refl h0 []
  have lt1 := own_l P1.lt
  have lt2 := own_l P2.lt
  have lt3 := own_l P3.lt
  have lt4 := own_l P4.lt
  have lt5 := own_l P5.lt
  have lt6 := own_l P6.lt
  have lt7 := own_l P7.lt
  obtain ⟨_, _, ⟨T8, L8, k8, n8⟩, -, X8, ⟨Lc8, hQ8, l8, y8, z8⟩, st8⟩ := Jvm.LawKit.callS X0 hx (y := m_16) hown (mvT hZ (w_117 hw)) (mvT hZ (w_118 hw)) (mvT hZ (w_119 hw)) (mvT hZ (w_120 hw)) (by decide) (backOf (W := 0) (rm_lc2 l Z a0 hw [] a_ v_ kv i0t i1t mo h0 n0 (by omega) P0 P1 P2 P3 P4 P5 P6 P7) hZ (w_120 hw) (w_119 hw) (by decide) (by decide)) (g := (mkF m 1 #[vA a_] [(.ref a_)])) rfl (by rw [hml]; rfl) (argsL := [(.ref a_)]) (rest := []) (lenOf pd_10 rfl) rfl (Nat.le_of_eq rfl) (hb hby d134) (fun _ _ => ⟨rfl, e0, (by decide : 0 + 2 ≤ _), (by decide : 0 + 4 ≤ _)⟩)
  dsimp only [Pt.U, Pt.locs, Pt.cells, Pt.slots] at X8 l8 y8 z8 st8 hQ8
  rw [l8, y8, z8] at X8
  obtain ⟨x8_r, rfl, Nq8, Kq8, r8_0, r8_1⟩ := hQ8
  have N8 := Fr.app N0 Nq8
  have z8' := Kq8.1
  have K8 := K0.trans Kq8 all0
  have lt9 := own_l r8_1.lt
  refine ⟨_, _, _, _, some (.ref x8_r), X8, by decide, by decide, nofun, ?_, fun fs hr => castTop (ef_2 m a_) ?_⟩
  · show Q_cp2 Z a_ v_ kv i0t i1t mo h0 n0 _ T8.heap _
    exact ⟨x8_r, rfl, N8, K8, (by omega), r8_1⟩
  · show Steps _ _ _ (s₁.setTop (mkF m 0 #[vA a_] [])) _
    refine XS.aloadN X0.here hx rfl (hb hby d133) rfl rfl ?_
    refine st8 _ ?_
    show Steps _ _ _ (T8.setTop (mkF m 4 #[vA a_] [(.ref x8_r)])) _
    exact retOut X8 hx hret (own_narrow_ref rfl) (Or.inr (Or.inr (Or.inr (Or.inr ⟨rfl, rfl, rfl⟩)))) (hb hby d135) hr
def Q_min3 (Z : State) (h0 : Heap) (n0 : Nat) (v : Option Value) (h : Heap) (L : List Loc) : Prop := (v = some (.int 3)) ∧ (Fr n0 L) ∧ (h = h0)
theorem rm_min3 (l : Launch) (Z : State) (a0 : Array Value) (hw : HW Z a0) (ws : List Jvm.Cond) (h0 : Heap) (n0 : Nat) (Z0 : n0 ≤ h0.size) :
    MF l Z m_24 jdk_29_method_69_code 2 (some .int) ws (oR 0 0 0 0) #[(.int 10), (.int 3)] h0 (Q_min3 Z  h0 n0) := by
  refine own_body (cls := "java/lang/Math") pn_13 rfl (fun p e s m below meth c s₁ hx hby hml hown hnm hret hZ X0 e0 => ?_)
  have N0 := Fr.nil n0
  refine ⟨_, _, _, _, some (.int 3), X0, by decide, by decide, nofun, ?_, fun fs hr => castTop (ef_3 m (10 : Int32) (3 : Int32)) ?_⟩
  · show Q_min3 Z  h0 n0 _ s₁.heap _
    rw [(e0 : s₁.heap = h0)]
    exact ⟨rfl, N0, rfl⟩
  · show Steps _ _ _ (s₁.setTop (mkF m 0 #[vI 10, vI 3] [])) _
    refine XS.iloadN X0.here hx rfl (hb hby d176) rfl ?_
    refine XS.iloadN X0.here hx rfl (hb hby d177) rfl ?_
    refine XS.icmpYes X0.here hx rfl (pc0 := 2) (pc' := 9) rfl (hb hby d178) rfl (tlt ((by decide) : (3 : Int32) < (10 : Int32))).2.2.1 (by decide) (by decide) ?_
    refine XS.iloadN X0.here hx rfl (hb hby d179) rfl ?_
    exact retI X0 hx hret (hb hby d180) hr
def Q_acp3_3 (Z : State) (v_ : Addr) (kv : ClassId) (i0t : Addr) (i1t : Addr) (i2t : Addr) (mo : Addr) (h0 : Heap) (n0 : Nat) (v : Option Value) (h : Heap) (L : List Loc) : Prop := ∃ (b : Addr) (k : ClassId), (v = some (.ref b)) ∧ (Fr n0 L) ∧ (Keep h0 h []) ∧ (h0.size ≤ b) ∧ (Arv Z h b k (.object "java/lang/Object") (3 : Int32) [(.ref i0t), (.ref i1t), (.ref i2t)] .null)
theorem rm_acp3_3 (l : Launch) (Z : State) (a0 : Array Value) (hw : HW Z a0) (ws : List Jvm.Cond) (v_ : Addr) (kv : ClassId) (i0t : Addr) (i1t : Addr) (i2t : Addr) (mo : Addr) (h0 : Heap) (n0 : Nat) (Z0 : n0 ≤ h0.size) (P0 : Mi Z "[Ljava/lang/Object;" mo) (P1 : Arv Z h0 v_ kv (.object "java/lang/Object") (10 : Int32) [(.ref i0t), (.ref i1t), (.ref i2t), .null, .null, .null, .null, .null, .null, .null] .null) (P2 : Exa Z h0 i0t "java/lang/String") (P3 : Exa Z h0 i1t "java/lang/String") (P4 : Exa Z h0 i2t "java/lang/String") :
    MF l Z m_26 jdk_65_method_120_code 4 (some (.array (.object "java/lang/Object"))) ws (oR 1 1 3 18) #[(.ref v_), (.int 3), (.ref mo)] h0 (Q_acp3_3 Z v_ kv i0t i1t i2t mo h0 n0) := by
  refine own_body (cls := "java/util/Arrays") (plainFor_of_name pn_14) rfl (fun p e s m below meth c s₁ hx hby hml hown hnm hret hZ X0 e0 => ?_)
  have N0 := Fr.nil n0
  have K0 := Keep.refl h0 []
  have lt1 := own_l P1.lt
  have lt2 := own_l P2.lt
  have lt3 := own_l P3.lt
  have lt4 := own_l P4.lt
  obtain ⟨T5, X5, e5, st5⟩ := own_ldcM X0 hx hZ hown (w_157 hw) e0 P0 (g := (mkF m 1 #[vA v_, vI 3, vA mo, .unset] [(.ref mo)])) rfl (hb hby d182)
  obtain ⟨T6, h6, k6, X6, e6, E6, A6, AE6, O6, st6⟩ := newRE X5 hx hZ hown (w_158 hw) (w_83 hw) e5 (g := (mkF m 7 #[vA v_, vI 3, vA mo, .unset] [(.int 3)])) rfl (hb hby d185) rfl (by decide) (cap := 3) (by decide) (by decide) (by decide) (by decide) (ad := "[Ljava/lang/Object;") (by decide)
  obtain ⟨b6, g6⟩ : ∃ z, z = h0.size := ⟨_, rfl⟩
  rw [← g6] at A6 AE6 st6
  have z6 := E6.1
  have K6 := K0.ext E6
  have V6 : Arv Z h6 b6 k6 (.object "java/lang/Object") (3 : Int32) [.null, .null, .null] .null := (Arv.new A6 (by decide)).pad (pad_rep [] .null 3)
  have lt7 := own_l V6.lt
  have f9 := P1.ext E6
  obtain ⟨cl8, Ar8, q8, S8, M8, H8, G8⟩ := id f9
  obtain ⟨_, _, ⟨T10, L10, k10, n10⟩, -, X10, ⟨Lc10, hQ10, l10, y10, z10⟩, st10⟩ := Jvm.LawKit.callS X6 hx (y := m_24) hown (mvT hZ (w_159 hw)) (mvT hZ (w_160 hw)) (mvT hZ (w_80 hw)) (mvT hZ (w_161 hw)) (by decide) (backOf (W := 4) (rm_min3 l Z a0 hw []  h6 n0 (by omega) ) hZ (w_161 hw) (w_80 hw) (by decide) (by decide)) (g := (mkF m 32 #[vA v_, vI 3, vA mo, vA b6] [(.int 3), (.int 10), (.int 0), (.ref b6), (.int 0), (.ref v_)])) rfl (by rw [hml]; rfl) (argsL := [(.int 10), (.int 3)]) (rest := [(.int 0), (.ref b6), (.int 0), (.ref v_)]) (lenOf pd_4 rfl) rfl (Nat.le_of_eq rfl) (hb hby d195) (fun _ _ => ⟨rfl, e6, (by decide : 1 + 0 ≤ _), (by decide : 3 + 0 ≤ _)⟩)
  dsimp only [Pt.U, Pt.locs, Pt.cells, Pt.slots] at X10 l10 y10 z10 st10 hQ10
  rw [l10, y10, z10] at X10
  obtain ⟨rfl, Nq10, Kq10⟩ := hQ10
  have N10 := Fr.app N0 Nq10
  obtain ⟨cl11, Ar11, q11, S11, M11, H11, G11⟩ := id V6
  have f12 := P4.ext E6
  have f13 := P3.ext E6
  have f14 := P2.ext E6
  obtain ⟨T11, h11, L11, X11, e11, N11, Kq11, V11, st11⟩ := cpA X10 hx hZ hown (w_162 hw) (w_165 hw) (w_163 hw) (w_164 hw) Kq10 f9 V6 (Or.inr ⟨rfl, rfl, ⟨(Sto.ofV Ar11 q11 O6 (Ins.of_exa f14 (w_84 hw))), ⟨(Sto.ofV Ar11 q11 O6 (Ins.of_exa f13 (w_84 hw))), ⟨(Sto.ofV Ar11 q11 O6 (Ins.of_exa f12 (w_84 hw))), trivial⟩⟩⟩⟩) (us := [(.ref i0t), (.ref i1t), (.ref i2t)]) (sp := 0) (dp := 0) (nn := (3 : Int32)) (by decide) (by decide) (by decide) (by decide) (by decide) rfl (by decide) N10 (by omega) (g := (mkF m 35 #[vA v_, vI 3, vA mo, vA b6] [(.int 3), (.int 0), (.ref b6), (.int 0), (.ref v_)])) rfl (by rw [hml]; rfl) rfl (hb hby d196) (by decide) (W := 0) (Nat.le_of_eq rfl) (by decide)
  replace V11 : Arv Z h11 b6 k6 (.object "java/lang/Object") (3 : Int32) [(.ref i0t), (.ref i1t), (.ref i2t)] .null := V11
  have z11' := Kq11.1
  have K11 := K6.trans Kq11 (allS (Or.inr (by omega)) all0)
  refine ⟨_, _, _, _, some (.ref b6), X11, by decide, by decide, nofun, ?_, fun fs hr => castTop (ef_10 m v_ (3 : Int32) mo) ?_⟩
  · show Q_acp3_3 Z v_ kv i0t i1t i2t mo h0 n0 _ T11.heap _
    rw [(e11 : T11.heap = h11)]
    exact ⟨b6, k6, rfl, N11, K11, (by omega), V11⟩
  · show Steps _ _ _ (s₁.setTop (mkF m 0 #[vA v_, vI 3, vA mo, .unset] [])) _
    refine XS.aloadN X0.here hx rfl (hb hby d181) rfl rfl ?_
    refine st5 _ ?_
    show Steps _ _ _ (T5.setTop (mkF m 3 #[vA v_, vI 3, vA mo, .unset] [(.ref mo), (.ref mo)])) _
    refine Jvm.RoadKit.acmp (g := (mkF m 3 #[vA v_, vI 3, vA mo, .unset] [(.ref mo), (.ref mo)])) X5 hx rfl rfl rfl (pc0 := 3) (pc' := 6) (same := true) rfl (hb hby d183) rfl (decide_eq_true rfl) (by decide) (by decide) ?_
    show Steps _ _ _ (T5.setTop (mkF m 6 #[vA v_, vI 3, vA mo, .unset] [])) _
    refine XS.iloadN X5.here hx rfl (hb hby d184) rfl ?_
    refine st6 _ ?_
    show Steps _ _ _ (T6.setTop (mkF m 10 #[vA v_, vI 3, vA mo, .unset] [(.ref b6)])) _
    refine XS.goto X6.here hx rfl (pc0 := 10) (pc' := 24) rfl (hb hby d186) (by decide) (by decide) ?_
    refine XS.astoreN X6.here hx rfl (hb hby d187) rfl rfl (l' := #[vA v_, vI 3, vA mo, vA b6]) rfl ?_
    refine XS.aloadN X6.here hx rfl (hb hby d188) rfl rfl ?_
    refine XS.iconst X6.here hx rfl (hb hby d189) ?_
    refine XS.aloadN X6.here hx rfl (hb hby d190) rfl rfl ?_
    refine XS.iconst X6.here hx rfl (hb hby d191) ?_
    refine XS.aloadN X6.here hx rfl (hb hby d192) rfl rfl ?_
    refine X6.arraylength hx (by rw [e6]; exact Ar8.1) (State.isArrayOf_alike hZ.alike Ar8.2.1) (g := (mkF m 30 #[vA v_, vI 3, vA mo, vA b6] [(.ref v_), (.int 0), (.ref b6), (.int 0), (.ref v_)])) rfl rfl (hb hby d193) _ ?_
    rw [len_of S8 M8]
    show Steps _ _ _ (T6.setTop (mkF m 31 #[vA v_, vI 3, vA mo, vA b6] [(.int 10), (.int 0), (.ref b6), (.int 0), (.ref v_)])) _
    refine XS.iloadN X6.here hx rfl (hb hby d194) rfl ?_
    refine st10 _ ?_
    show Steps _ _ _ (T10.setTop (mkF m 35 #[vA v_, vI 3, vA mo, vA b6] [(.int 3), (.int 0), (.ref b6), (.int 0), (.ref v_)])) _
    refine st11 _ ?_
    show Steps _ _ _ (T11.setTop (mkF m 38 #[vA v_, vI 3, vA mo, vA b6] [])) _
    refine XS.aloadN X11.here hx rfl (hb hby d197) rfl rfl ?_
    exact retOut X11 hx hret (own_narrow_ref rfl) (Or.inr (Or.inr (Or.inr (Or.inr ⟨rfl, rfl, rfl⟩)))) (hb hby d198) hr
def Q_acp2_3 (Z : State) (v_ : Addr) (kv : ClassId) (i0t : Addr) (i1t : Addr) (i2t : Addr) (mo : Addr) (h0 : Heap) (n0 : Nat) (v : Option Value) (h : Heap) (L : List Loc) : Prop := ∃ (b : Addr) (k : ClassId), (v = some (.ref b)) ∧ (Fr n0 L) ∧ (Keep h0 h []) ∧ (h0.size ≤ b) ∧ (Arv Z h b k (.object "java/lang/Object") (3 : Int32) [(.ref i0t), (.ref i1t), (.ref i2t)] .null)
theorem rm_acp2_3 (l : Launch) (Z : State) (a0 : Array Value) (hw : HW Z a0) (ws : List Jvm.Cond) (v_ : Addr) (kv : ClassId) (i0t : Addr) (i1t : Addr) (i2t : Addr) (mo : Addr) (h0 : Heap) (n0 : Nat) (Z0 : n0 ≤ h0.size) (P0 : Mi Z "[Ljava/lang/Object;" mo) (P1 : Exa Z h0 v_ "[Ljava/lang/Object;") (P2 : Arv Z h0 v_ kv (.object "java/lang/Object") (10 : Int32) [(.ref i0t), (.ref i1t), (.ref i2t), .null, .null, .null, .null, .null, .null, .null] .null) (P3 : Exa Z h0 i0t "java/lang/String") (P4 : Exa Z h0 i1t "java/lang/String") (P5 : Exa Z h0 i2t "java/lang/String") :
    MF l Z m_28 jdk_65_method_119_code 2 (some (.array (.object "java/lang/Object"))) ws (oR 2 1 3 33) #[(.ref v_), (.int 3)] h0 (Q_acp2_3 Z v_ kv i0t i1t i2t mo h0 n0) := by
  refine own_body (cls := "java/util/Arrays") (plainFor_of_name pn_14) rfl (fun p e s m below meth c s₁ hx hby hml hown hnm hret hZ X0 e0 => ?_)
  have N0 := Fr.nil n0
  have K0 := Keep.refl h0 []
  have lt1 := own_l P1.lt
  have lt2 := own_l P2.lt
  have lt3 := own_l P3.lt
  have lt4 := own_l P4.lt
  have lt5 := own_l P5.lt
  obtain ⟨T6, X6, e6, st6⟩ := own_gcls X0 hx hZ hown (w_148 hw) (w_149 hw) (w_151 hw) (w_150 hw) (w_152 hw) e0 P1 P0 (g := (mkF m 3 #[vA v_, vI 3] [(.ref v_), (.int 3), (.ref v_)])) rfl (by rw [hml]; rfl) rfl (hb hby d202) (by decide) (W := 2) (Nat.le_of_eq rfl) (by decide)
  obtain ⟨_, _, ⟨T7, L7, k7, n7⟩, -, X7, ⟨Lc7, hQ7, l7, y7, z7⟩, st7⟩ := Jvm.LawKit.callS X6 hx (y := m_26) hown (mvT hZ (w_154 hw)) (mvT hZ (w_155 hw)) (mvT hZ (w_146 hw)) (mvT hZ (w_156 hw)) (by decide) (backOf (W := 0) (rm_acp3_3 l Z a0 hw [] v_ kv i0t i1t i2t mo h0 n0 (by omega) P0 P2 P3 P4 P5) hZ (w_156 hw) (w_146 hw) (by decide) (by decide)) (g := (mkF m 6 #[vA v_, vI 3] [(.ref mo), (.int 3), (.ref v_)])) rfl (by rw [hml]; rfl) (argsL := [(.ref v_), (.int 3), (.ref mo)]) (rest := []) (lenOf pd_12 rfl) rfl (Nat.le_of_eq rfl) (hb hby d203) (fun _ _ => ⟨rfl, e6, (by decide : 0 + 1 ≤ _), (by decide : 0 + 3 ≤ _)⟩)
  dsimp only [Pt.U, Pt.locs, Pt.cells, Pt.slots] at X7 l7 y7 z7 st7 hQ7
  rw [l7, y7, z7] at X7
  obtain ⟨x7_b, x7_k, rfl, Nq7, Kq7, r7_0, r7_1⟩ := hQ7
  have N7 := Fr.app N0 Nq7
  have z7' := Kq7.1
  have K7 := K0.trans Kq7 all0
  have lt8 := own_l r7_1.lt
  refine ⟨_, _, _, _, some (.ref x7_b), X7, by decide, by decide, nofun, ?_, fun fs hr => castTop (ef_11 m v_ (3 : Int32)) ?_⟩
  · show Q_acp2_3 Z v_ kv i0t i1t i2t mo h0 n0 _ T7.heap _
    exact ⟨x7_b, x7_k, rfl, N7, K7, (by omega), r7_1⟩
  · show Steps _ _ _ (s₁.setTop (mkF m 0 #[vA v_, vI 3] [])) _
    refine XS.aloadN X0.here hx rfl (hb hby d199) rfl rfl ?_
    refine XS.iloadN X0.here hx rfl (hb hby d200) rfl ?_
    refine XS.aloadN X0.here hx rfl (hb hby d201) rfl rfl ?_
    refine st6 _ ?_
    show Steps _ _ _ (T6.setTop (mkF m 6 #[vA v_, vI 3] [(.ref mo), (.int 3), (.ref v_)])) _
    refine st7 _ ?_
    show Steps _ _ _ (T7.setTop (mkF m 9 #[vA v_, vI 3] [(.ref x7_b)])) _
    exact retOut X7 hx hret (own_narrow_ref rfl) (Or.inr (Or.inr (Or.inr (Or.inr ⟨rfl, rfl, rfl⟩)))) (hb hby d204) hr
def Q_toA3 (Z : State) (a_ : Addr) (v_ : Addr) (kv : ClassId) (i0t : Addr) (i1t : Addr) (i2t : Addr) (mo : Addr) (h0 : Heap) (n0 : Nat) (v : Option Value) (h : Heap) (L : List Loc) : Prop := ∃ (b : Addr) (k : ClassId), (v = some (.ref b)) ∧ (Fr n0 L) ∧ (Keep h0 h []) ∧ (h0.size ≤ b) ∧ (Arv Z h b k (.object "java/lang/Object") (3 : Int32) [(.ref i0t), (.ref i1t), (.ref i2t)] .null)
theorem rm_toA3 (l : Launch) (Z : State) (a0 : Array Value) (hw : HW Z a0) (ws : List Jvm.Cond) (a_ : Addr) (v_ : Addr) (kv : ClassId) (i0t : Addr) (i1t : Addr) (i2t : Addr) (mo : Addr) (h0 : Heap) (n0 : Nat) (Z0 : n0 ≤ h0.size) (P0 : Mi Z "[Ljava/lang/Object;" mo) (P1 : Exa Z h0 a_ "java/util/ArrayList") (P2 : fld2 Z h0 a_ (.int 3)) (P3 : fld3 Z h0 a_ (.ref v_)) (P4 : Exa Z h0 v_ "[Ljava/lang/Object;") (P5 : Arv Z h0 v_ kv (.object "java/lang/Object") (10 : Int32) [(.ref i0t), (.ref i1t), (.ref i2t), .null, .null, .null, .null, .null, .null, .null] .null) (P6 : Exa Z h0 i0t "java/lang/String") (P7 : Exa Z h0 i1t "java/lang/String") (P8 : Exa Z h0 i2t "java/lang/String") :
    MF l Z m_29 jdk_38_method_16_code 1 (some (.array (.object "java/lang/Object"))) ws (oR 3 1 3 46) #[(.ref a_)] h0 (Q_toA3 Z a_ v_ kv i0t i1t i2t mo h0 n0) := by
  refine own_body (cls := "java/util/ArrayList") (plainFor_of_name pn_4) rfl (fun p e s m below meth c s₁ hx hby hml hown hnm hret hZ X0 e0 => ?_)
  have N0 := Fr.nil n0
  have K0 := Keep.refl h0 []
  have lt1 := own_l P1.lt
  have lt2 := own_l P2.lt
  have lt3 := own_l P3.lt
  have lt4 := own_l P4.lt
  have lt5 := own_l P5.lt
  have lt6 := own_l P6.lt
  have lt7 := own_l P7.lt
  have lt8 := own_l P8.lt
  obtain ⟨T9, X9, e9, st9⟩ := getF X0 hx hZ hown (host := "") (Or.inl (w_48 hw)) Via.refl e0 P3 (g := (mkF m 1 #[vA a_] [(.ref a_)])) rfl rfl (hb hby d206)
  obtain ⟨T10, X10, e10, st10⟩ := getF X9 hx hZ hown (host := "") (Or.inl (w_61 hw)) Via.refl e9 P2 (g := (mkF m 5 #[vA a_] [(.ref a_), (.ref v_)])) rfl rfl (hb hby d208)
  obtain ⟨_, _, ⟨T11, L11, k11, n11⟩, -, X11, ⟨Lc11, hQ11, l11, y11, z11⟩, st11⟩ := Jvm.LawKit.callS X10 hx (y := m_28) hown (mvT hZ (w_144 hw)) (mvT hZ (w_145 hw)) (mvT hZ (w_146 hw)) (mvT hZ (w_147 hw)) (by decide) (backOf (W := 0) (rm_acp2_3 l Z a0 hw [] v_ kv i0t i1t i2t mo h0 n0 (by omega) P0 P4 P5 P6 P7 P8) hZ (w_147 hw) (w_146 hw) (by decide) (by decide)) (g := (mkF m 8 #[vA a_] [(.int 3), (.ref v_)])) rfl (by rw [hml]; rfl) (argsL := [(.ref v_), (.int 3)]) (rest := []) (lenOf pd_13 rfl) rfl (Nat.le_of_eq rfl) (hb hby d209) (fun _ _ => ⟨rfl, e10, (by decide : 0 + 1 ≤ _), (by decide : 0 + 3 ≤ _)⟩)
  dsimp only [Pt.U, Pt.locs, Pt.cells, Pt.slots] at X11 l11 y11 z11 st11 hQ11
  rw [l11, y11, z11] at X11
  obtain ⟨x11_b, x11_k, rfl, Nq11, Kq11, r11_0, r11_1⟩ := hQ11
  have N11 := Fr.app N0 Nq11
  have z11' := Kq11.1
  have K11 := K0.trans Kq11 all0
  have lt12 := own_l r11_1.lt
  refine ⟨_, _, _, _, some (.ref x11_b), X11, by decide, by decide, nofun, ?_, fun fs hr => castTop (ef_2 m a_) ?_⟩
  · show Q_toA3 Z a_ v_ kv i0t i1t i2t mo h0 n0 _ T11.heap _
    exact ⟨x11_b, x11_k, rfl, N11, K11, (by omega), r11_1⟩
  · show Steps _ _ _ (s₁.setTop (mkF m 0 #[vA a_] [])) _
    refine XS.aloadN X0.here hx rfl (hb hby d205) rfl rfl ?_
    refine st9 _ ?_
    show Steps _ _ _ (T9.setTop (mkF m 4 #[vA a_] [(.ref v_)])) _
    refine XS.aloadN X9.here hx rfl (hb hby d207) rfl rfl ?_
    refine st10 _ ?_
    show Steps _ _ _ (T10.setTop (mkF m 8 #[vA a_] [(.int 3), (.ref v_)])) _
    refine st11 _ ?_
    show Steps _ _ _ (T11.setTop (mkF m 11 #[vA a_] [(.ref x11_b)])) _
    exact retOut X11 hx hret (own_narrow_ref rfl) (Or.inr (Or.inr (Or.inr (Or.inr ⟨rfl, rfl, rfl⟩)))) (hb hby d210) hr
theorem d235 : decode jdk_56_method_4_code 0 = .ok (.aload_n 0, 1) := by decide +kernel
theorem d236 : decode jdk_56_method_4_code 1 = .ok (.arraylength, 1) := by decide +kernel
theorem w_344 {Z : State} {a0 : Array Value} (hw : HW Z a0) : (Jvm.Cond.classLink "java/util/ImmutableCollections" (2 : Nat) "java/lang/Object").before a0 Z = true := hw _ (List.mem_of_getElem? (i := 344) rfl)
theorem d237 : decode jdk_56_method_4_code 2 = .ok (.anewarray 2, 3) := by decide +kernel
theorem d238 : decode jdk_56_method_4_code 5 = .ok (.astore_n 1, 1) := by decide +kernel
theorem d239 : decode jdk_56_method_4_code 6 = .ok (.iconst 0, 1) := by decide +kernel
theorem d240 : decode jdk_56_method_4_code 7 = .ok (.istore_n 2, 1) := by decide +kernel
theorem d241 : decode jdk_56_method_4_code 8 = .ok (.iload_n 2, 1) := by decide +kernel
theorem d242 : decode jdk_56_method_4_code 9 = .ok (.aload_n 0, 1) := by decide +kernel
theorem d243 : decode jdk_56_method_4_code 10 = .ok (.arraylength, 1) := by decide +kernel
theorem d244 : decode jdk_56_method_4_code 11 = .ok (.if_icmp .ge 18, 3) := by decide +kernel
theorem d245 : decode jdk_56_method_4_code 14 = .ok (.aload_n 1, 1) := by decide +kernel
theorem d246 : decode jdk_56_method_4_code 15 = .ok (.iload_n 2, 1) := by decide +kernel
theorem d247 : decode jdk_56_method_4_code 16 = .ok (.aload_n 0, 1) := by decide +kernel
theorem d248 : decode jdk_56_method_4_code 17 = .ok (.iload_n 2, 1) := by decide +kernel
theorem d249 : decode jdk_56_method_4_code 18 = .ok (.aaload, 1) := by decide +kernel
theorem w_345 {Z : State} {a0 : Array Value} (hw : HW Z a0) : (Jvm.Cond.methodLink "java/util/ImmutableCollections" (37 : Nat) m_20).before a0 Z = true := hw _ (List.mem_of_getElem? (i := 345) rfl)
theorem d250 : decode jdk_56_method_4_code 19 = .ok (.invokestatic 37, 3) := by decide +kernel
theorem d251 : decode jdk_56_method_4_code 22 = .ok (.aastore, 1) := by decide +kernel
theorem d252 : decode jdk_56_method_4_code 23 = .ok (.iinc 2 1, 3) := by decide +kernel
theorem d253 : decode jdk_56_method_4_code 26 = .ok (.goto (-18), 3) := by decide +kernel
theorem w_347 {Z : State} {a0 : Array Value} (hw : HW Z a0) : (Jvm.Cond.initialized "java/util/ImmutableCollections$ListN").before a0 Z = true := hw _ (List.mem_of_getElem? (i := 347) rfl)
theorem d254 : decode jdk_56_method_4_code 29 = .ok (.new 12, 3) := by decide +kernel
theorem d255 : decode jdk_56_method_4_code 32 = .ok (.dup, 1) := by decide +kernel
theorem d256 : decode jdk_56_method_4_code 33 = .ok (.aload_n 1, 1) := by decide +kernel
theorem d257 : decode jdk_56_method_4_code 34 = .ok (.iconst 0, 1) := by decide +kernel
theorem w_348 {Z : State} {a0 : Array Value} (hw : HW Z a0) : (Jvm.Cond.methodLinkNest "java/util/ImmutableCollections" (43 : Nat) m_23 "java/util/ImmutableCollections").before a0 Z = true := hw _ (List.mem_of_getElem? (i := 348) rfl)
theorem w_351 {Z : State} {a0 : Array Value} (hw : HW Z a0) : (Jvm.Cond.code m_23 jdk_45_method_1_code (3 : Nat) (Option.none : Option Jvm.ClassFile.FieldType)).before a0 Z = true := hw _ (List.mem_of_getElem? (i := 351) rfl)
theorem pd_17 : parseMethodDescriptor "([Ljava/lang/Object;Z)V" = some ⟨[(.array (.object "java/lang/Object")), .boolean], none⟩ := by decide +kernel
theorem d258 : decode jdk_56_method_4_code 35 = .ok (.invokespecial 43, 3) := by decide +kernel
theorem w_349 {Z : State} {a0 : Array Value} (hw : HW Z a0) : (Jvm.Cond.instanceMethod m_23).before a0 Z = true := hw _ (List.mem_of_getElem? (i := 349) rfl)
theorem d259 : decode jdk_56_method_4_code 38 = .ok (.areturn, 1) := by decide +kernel
theorem ef_12 (m : MethodId) (x0 : Addr) : entryFrame m #[(.ref x0)] 3 = mkF m 0 #[vA x0, .unset, .unset] [] := by first | (simp [entryFrame, mkF, argsToLocals, Value.category, maxLocals]; done) | rfl
abbrev m_32 : MethodName := (⟨"java/util/ImmutableCollections", "listFromArray", "([Ljava/lang/Object;)Ljava/util/List;"⟩ : MethodName)
def Q_lfa (Z : State) (v_ : Addr) (kv : ClassId) (i0t : Addr) (i1t : Addr) (i2t : Addr) (h0 : Heap) (n0 : Nat) (v : Option Value) (h : Heap) (L : List Loc) : Prop := ∃ (r : Addr) (ea : Addr) (ke : ClassId), (v = some (.ref r)) ∧ (Fr n0 L) ∧ (Keep h0 h []) ∧ (h0.size ≤ r) ∧ (h0.size ≤ ea) ∧ (Exa Z h r "java/util/ImmutableCollections$ListN") ∧ (fld10 Z h r (.ref ea)) ∧ (Arv Z h ea ke (.object "java/lang/Object") (3 : Int32) [(.ref i0t), (.ref i1t), (.ref i2t)] .null)
theorem rm_lfa (l : Launch) (Z : State) (a0 : Array Value) (hw : HW Z a0) (ws : List Jvm.Cond) (v_ : Addr) (kv : ClassId) (i0t : Addr) (i1t : Addr) (i2t : Addr) (h0 : Heap) (n0 : Nat) (Z0 : n0 ≤ h0.size) (P0 : Arv Z h0 v_ kv (.object "java/lang/Object") (3 : Int32) [(.ref i0t), (.ref i1t), (.ref i2t)] .null) (P1 : Exa Z h0 i0t "java/lang/String") (P2 : Exa Z h0 i1t "java/lang/String") (P3 : Exa Z h0 i2t "java/lang/String") :
    MF l Z m_32 jdk_56_method_4_code 3 (some (.object "java/util/List")) ws (oR 5 2 5 63) #[(.ref v_)] h0 (Q_lfa Z v_ kv i0t i1t i2t h0 n0) := by
  refine own_body (cls := "java/util/ImmutableCollections") (plainFor_of_name pn_7) rfl (fun p e s m below meth c s₁ hx hby hml hown hnm hret hZ X0 e0 => ?_)
  have N0 := Fr.nil n0
  have K0 := Keep.refl h0 []
  have lt1 := own_l P0.lt
  have lt2 := own_l P1.lt
  have lt3 := own_l P2.lt
  have lt4 := own_l P3.lt
  obtain ⟨cl5, Ar5, q5, S5, M5, H5, G5⟩ := id P0
  obtain ⟨T6, h6, k6, X6, e6, E6, A6, AE6, O6, st6⟩ := newRE X0 hx hZ hown (w_344 hw) (w_83 hw) e0 (g := (mkF m 2 #[vA v_, .unset, .unset] [(.int 3)])) rfl (hb hby d237) rfl (by decide) (cap := 3) (by decide) (by decide) (by decide) (by decide) (ad := "[Ljava/lang/Object;") (by decide)
  obtain ⟨b6, g6⟩ : ∃ z, z = h0.size := ⟨_, rfl⟩
  rw [← g6] at A6 AE6 st6
  have z6 := E6.1
  have K6 := K0.ext E6
  have V6 : Arv Z h6 b6 k6 (.object "java/lang/Object") (3 : Int32) [.null, .null, .null] .null := (Arv.new A6 (by decide)).pad (pad_rep [] .null 3)
  have lt7 := own_l V6.lt
  have f9 := P0.ext E6
  obtain ⟨cl8, Ar8, q8, S8, M8, H8, G8⟩ := id f9
  obtain ⟨cl10, Ar10, q10, S10, M10, H10, G10⟩ := id f9
  have hin10 : ¬ ((0 : Int32) < 0 ∨ cl10.slots.size ≤ ((0 : Int32)).toNatClampNeg) := inb_of S10 ⟨by decide, by decide⟩
  have hat10 : cl10.slots[((0 : Int32)).toNatClampNeg]? = some (.ref i0t) := Has.at H10 hin10 rfl
  obtain ⟨_, _, ⟨T11, L11, k11, n11⟩, -, X11, ⟨Lc11, hQ11, l11, y11, z11⟩, st11⟩ := Jvm.LawKit.callS X6 hx (y := m_20) hown (mvT hZ (w_345 hw)) (mvT hZ (w_191 hw)) (mvT hZ (w_192 hw)) (mvT hZ (w_193 hw)) (by decide) (backOf (W := 2) (rm_rnn l Z a0 hw [] i0t h6 n0 (by omega) ) hZ (w_193 hw) (w_192 hw) (by decide) (by decide)) (g := (mkF m 19 #[vA v_, vA b6, vI 0] [(.ref i0t), (.int 0), (.ref b6)])) rfl (by rw [hml]; rfl) (argsL := [(.ref i0t)]) (rest := [(.int 0), (.ref b6)]) (lenOf pd_11 rfl) rfl (Nat.le_of_eq rfl) (hb hby d250) (fun _ _ => ⟨rfl, e6, (by decide : 1 + 0 ≤ _), (by decide : 3 + 0 ≤ _)⟩)
  dsimp only [Pt.U, Pt.locs, Pt.cells, Pt.slots] at X11 l11 y11 z11 st11 hQ11
  rw [l11, y11, z11] at X11
  obtain ⟨rfl, Nq11, Kq11⟩ := hQ11
  have N11 := Fr.app N0 Nq11
  have f13 := P1.ext E6
  obtain ⟨cl12, Ar12, q12, S12, M12, H12, G12⟩ := id V6
  have hin12 : ¬ ((0 : Int32) < 0 ∨ cl12.slots.size ≤ ((0 : Int32)).toNatClampNeg) := inb_of S12 ⟨by decide, by decide⟩
  obtain ⟨T12, h12, X12, e12, W12, st12⟩ := stR X11 hx hZ Kq11 Ar12 (j := (0 : Int32)) hin12 rfl (Sto.ofV Ar12 q12 O6 (Ins.of_exa f13 (w_84 hw))) (g := (mkF m 22 #[vA v_, vA b6, vI 0] [(.ref i0t), (.int 0), (.ref b6)])) rfl rfl (hb hby d251)
  have V12 : Arv Z h12 b6 k6 (.object "java/lang/Object") (3 : Int32) [(.ref i0t), .null, .null] .null := Arv.set Ar12 q12 S12 M12 H12 G12 rfl W12 0 rfl (Nat.le_of_ble_eq_true rfl)
  have z12 := W12.size
  have K12 := K6.wr W12 (Or.inr (by omega))
  have N12 := Fr.snoc X12 N11 (by omega)
  have f15 := f9.other W12 (own_ne (by omega))
  obtain ⟨cl14, Ar14, q14, S14, M14, H14, G14⟩ := id f15
  obtain ⟨cl16, Ar16, q16, S16, M16, H16, G16⟩ := id f15
  have hin16 : ¬ ((1 : Int32) < 0 ∨ cl16.slots.size ≤ ((1 : Int32)).toNatClampNeg) := inb_of S16 ⟨by decide, by decide⟩
  have hat16 : cl16.slots[((1 : Int32)).toNatClampNeg]? = some (.ref i1t) := Has.at H16 hin16 rfl
  obtain ⟨_, _, ⟨T17, L17, k17, n17⟩, -, X17, ⟨Lc17, hQ17, l17, y17, z17⟩, st17⟩ := Jvm.LawKit.callS X12 hx (y := m_20) hown (mvT hZ (w_345 hw)) (mvT hZ (w_191 hw)) (mvT hZ (w_192 hw)) (mvT hZ (w_193 hw)) (by decide) (backOf (W := 2) (rm_rnn l Z a0 hw [] i1t h12 n0 (by omega) ) hZ (w_193 hw) (w_192 hw) (by decide) (by decide)) (g := (mkF m 19 #[vA v_, vA b6, vI 1] [(.ref i1t), (.int 1), (.ref b6)])) rfl (by rw [hml]; rfl) (argsL := [(.ref i1t)]) (rest := [(.int 1), (.ref b6)]) (lenOf pd_11 rfl) rfl (Nat.le_of_eq rfl) (hb hby d250) (fun _ _ => ⟨rfl, e12, (by decide : 1 + 0 ≤ _), (by decide : 3 + 0 ≤ _)⟩)
  dsimp only [Pt.U, Pt.locs, Pt.cells, Pt.slots] at X17 l17 y17 z17 st17 hQ17
  rw [l17, y17, z17] at X17
  obtain ⟨rfl, Nq17, Kq17⟩ := hQ17
  have N17 := Fr.app N12 Nq17
  have f19 := P2.ext E6
  have f20 := f19.wr W12
  obtain ⟨cl18, Ar18, q18, S18, M18, H18, G18⟩ := id V12
  have hin18 : ¬ ((1 : Int32) < 0 ∨ cl18.slots.size ≤ ((1 : Int32)).toNatClampNeg) := inb_of S18 ⟨by decide, by decide⟩
  obtain ⟨T18, h18, X18, e18, W18, st18⟩ := stR X17 hx hZ Kq17 Ar18 (j := (1 : Int32)) hin18 rfl (Sto.ofV Ar18 q18 O6 (Ins.of_exa f20 (w_84 hw))) (g := (mkF m 22 #[vA v_, vA b6, vI 1] [(.ref i1t), (.int 1), (.ref b6)])) rfl rfl (hb hby d251)
  have V18 : Arv Z h18 b6 k6 (.object "java/lang/Object") (3 : Int32) [(.ref i0t), (.ref i1t), .null] .null := Arv.set Ar18 q18 S18 M18 H18 G18 rfl W18 1 rfl (Nat.le_of_ble_eq_true rfl)
  have z18 := W18.size
  have K18 := K12.wr W18 (Or.inr (by omega))
  have N18 := Fr.snoc X18 N17 (by omega)
  have f22 := f15.other W18 (own_ne (by omega))
  obtain ⟨cl21, Ar21, q21, S21, M21, H21, G21⟩ := id f22
  obtain ⟨cl23, Ar23, q23, S23, M23, H23, G23⟩ := id f22
  have hin23 : ¬ ((2 : Int32) < 0 ∨ cl23.slots.size ≤ ((2 : Int32)).toNatClampNeg) := inb_of S23 ⟨by decide, by decide⟩
  have hat23 : cl23.slots[((2 : Int32)).toNatClampNeg]? = some (.ref i2t) := Has.at H23 hin23 rfl
  obtain ⟨_, _, ⟨T24, L24, k24, n24⟩, -, X24, ⟨Lc24, hQ24, l24, y24, z24⟩, st24⟩ := Jvm.LawKit.callS X18 hx (y := m_20) hown (mvT hZ (w_345 hw)) (mvT hZ (w_191 hw)) (mvT hZ (w_192 hw)) (mvT hZ (w_193 hw)) (by decide) (backOf (W := 2) (rm_rnn l Z a0 hw [] i2t h18 n0 (by omega) ) hZ (w_193 hw) (w_192 hw) (by decide) (by decide)) (g := (mkF m 19 #[vA v_, vA b6, vI 2] [(.ref i2t), (.int 2), (.ref b6)])) rfl (by rw [hml]; rfl) (argsL := [(.ref i2t)]) (rest := [(.int 2), (.ref b6)]) (lenOf pd_11 rfl) rfl (Nat.le_of_eq rfl) (hb hby d250) (fun _ _ => ⟨rfl, e18, (by decide : 1 + 0 ≤ _), (by decide : 3 + 0 ≤ _)⟩)
  dsimp only [Pt.U, Pt.locs, Pt.cells, Pt.slots] at X24 l24 y24 z24 st24 hQ24
  rw [l24, y24, z24] at X24
  obtain ⟨rfl, Nq24, Kq24⟩ := hQ24
  have N24 := Fr.app N18 Nq24
  have f26 := P3.ext E6
  have f27 := f26.wr W12
  have f28 := f27.wr W18
  obtain ⟨cl25, Ar25, q25, S25, M25, H25, G25⟩ := id V18
  have hin25 : ¬ ((2 : Int32) < 0 ∨ cl25.slots.size ≤ ((2 : Int32)).toNatClampNeg) := inb_of S25 ⟨by decide, by decide⟩
  obtain ⟨T25, h25, X25, e25, W25, st25⟩ := stR X24 hx hZ Kq24 Ar25 (j := (2 : Int32)) hin25 rfl (Sto.ofV Ar25 q25 O6 (Ins.of_exa f28 (w_84 hw))) (g := (mkF m 22 #[vA v_, vA b6, vI 2] [(.ref i2t), (.int 2), (.ref b6)])) rfl rfl (hb hby d251)
  have V25 : Arv Z h25 b6 k6 (.object "java/lang/Object") (3 : Int32) [(.ref i0t), (.ref i1t), (.ref i2t)] .null := Arv.set Ar25 q25 S25 M25 H25 G25 rfl W25 2 rfl (Nat.le_of_ble_eq_true rfl)
  have z25 := W25.size
  have K25 := K18.wr W25 (Or.inr (by omega))
  have N25 := Fr.snoc X25 N24 (by omega)
  have f30 := f22.other W25 (own_ne (by omega))
  obtain ⟨cl29, Ar29, q29, S29, M29, H29, G29⟩ := id f30
  obtain ⟨T31, h31, X31, e31, E31, A31, D31, -, st31⟩ := newO X25 hx hZ hown (w_126 hw) (w_346 hw) (w_347 hw) e25 (g := (mkF m 29 #[vA v_, vA b6, vI 3] [])) rfl (hb hby d254) (by decide) (by decide)
  obtain ⟨b31, g31⟩ : ∃ z, z = h25.size := ⟨_, rfl⟩
  rw [← g31] at A31 D31 st31
  have z31 := E31.1
  have K31 := K25.ext E31
  have lt32 := own_l A31.lt
  have F31_357 : Fld Z h31 b31 "java/util/ImmutableCollections$ListN" "elements" "[Ljava/lang/Object;" .null := D31 (Or.inr (w_357 hw)) (ty := (.array (.object "java/lang/Object"))) (by decide)
  have F31_359 : Fld Z h31 b31 "java/util/ImmutableCollections$ListN" "allowNulls" "Z" (.int 0) := D31 (Or.inr (w_359 hw)) (ty := .boolean) (by decide)
  obtain ⟨_, _, ⟨T33, L33, k33, n33⟩, -, X33, ⟨Lc33, hQ33, l33, y33, z33⟩, st33⟩ := X31.specialBackNest hx (y := m_23) rfl hown (own_mvMN hZ (w_348 hw)) (mvT hZ (w_349 hw)) (mvT hZ (w_351 hw)) (by decide) (backOf (W := 1) (rm_lni l Z a0 hw [] b31 b6 h31 n0 (by omega) A31 F31_357 F31_359 (by omega)) hZ (w_351 hw) (w_347 hw) (by decide) (by decide)) (g := (mkF m 35 #[vA v_, vA b6, vI 3] [(.int 0), (.ref b6), (.ref b31), (.ref b31)])) rfl (by rw [hml]; rfl) (Steps.refl _) (a := b31) (argsL := [(.ref b6), (.int 0)]) (rest := [(.ref b31)]) (lenOf pd_17 rfl) rfl (Nat.le_of_eq rfl) (hb hby d258) (fun _ _ => ⟨rfl, e31, (by decide : 2 + 0 ≤ _), (by decide : 5 + 0 ≤ _)⟩)
  dsimp only [Pt.U, Pt.locs, Pt.cells, Pt.slots] at X33 l33 y33 z33 st33 hQ33
  rw [l33, y33, z33] at X33
  obtain ⟨rfl, Nq33, Kq33, r33_0, r33_1⟩ := hQ33
  have N33 := Fr.app N25 Nq33
  have z33' := Kq33.1
  have K33 := K31.trans Kq33 (allS (Or.inr (by omega)) all0)
  have lt34 := own_l r33_0.lt
  have lt35 := own_l r33_1.lt
  have f36 := V25.ext E31
  have f37 := f36.keep Kq33 (ninS (own_ne (by omega)) nin0)
  refine ⟨_, _, _, _, some (.ref b31), X33, by decide, by decide, nofun, ?_, fun fs hr => castTop (ef_12 m v_) ?_⟩
  · show Q_lfa Z v_ kv i0t i1t i2t h0 n0 _ T33.heap _
    exact ⟨b31, b6, k6, rfl, N33, K33, (by omega), (by omega), r33_0, r33_1, f37⟩
  · show Steps _ _ _ (s₁.setTop (mkF m 0 #[vA v_, .unset, .unset] [])) _
    refine XS.aloadN X0.here hx rfl (hb hby d235) rfl rfl ?_
    refine X0.arraylength hx (by rw [e0]; exact Ar5.1) (State.isArrayOf_alike hZ.alike Ar5.2.1) (g := (mkF m 1 #[vA v_, .unset, .unset] [(.ref v_)])) rfl rfl (hb hby d236) _ ?_
    rw [len_of S5 M5]
    show Steps _ _ _ (s₁.setTop (mkF m 2 #[vA v_, .unset, .unset] [(.int 3)])) _
    refine st6 _ ?_
    show Steps _ _ _ (T6.setTop (mkF m 5 #[vA v_, .unset, .unset] [(.ref b6)])) _
    refine XS.astoreN X6.here hx rfl (hb hby d238) rfl rfl (l' := #[vA v_, vA b6, .unset]) rfl ?_
    refine XS.iconst X6.here hx rfl (hb hby d239) ?_
    refine XS.istoreN X6.here hx rfl (hb hby d240) rfl (l' := #[vA v_, vA b6, vI 0]) rfl ?_
    refine XS.iloadN X6.here hx rfl (hb hby d241) rfl ?_
    refine XS.aloadN X6.here hx rfl (hb hby d242) rfl rfl ?_
    refine X6.arraylength hx (by rw [e6]; exact Ar8.1) (State.isArrayOf_alike hZ.alike Ar8.2.1) (g := (mkF m 10 #[vA v_, vA b6, vI 0] [(.ref v_), (.int 0)])) rfl rfl (hb hby d243) _ ?_
    rw [len_of S8 M8]
    show Steps _ _ _ (T6.setTop (mkF m 11 #[vA v_, vA b6, vI 0] [(.int 3), (.int 0)])) _
    refine XS.icmpNo X6.here hx rfl (hb hby d244) rfl (tlt ((by decide) : (0 : Int32) < (3 : Int32))).2.1 ?_
    refine XS.aloadN X6.here hx rfl (hb hby d245) rfl rfl ?_
    refine XS.iloadN X6.here hx rfl (hb hby d246) rfl ?_
    refine XS.aloadN X6.here hx rfl (hb hby d247) rfl rfl ?_
    refine XS.iloadN X6.here hx rfl (hb hby d248) rfl ?_
    refine X6.aaload hx (j := (0 : Int32)) (v := (.ref i0t)) (by rw [e6]; exact Ar10.1) (State.isArrayOf_alike hZ.alike Ar10.2.1) rfl Ar10.2.2 hin10 hat10 (g := (mkF m 18 #[vA v_, vA b6, vI 0] [(.int 0), (.ref v_), (.int 0), (.ref b6)])) rfl rfl (hb hby d249) _ ?_
    show Steps _ _ _ (T6.setTop (mkF m 19 #[vA v_, vA b6, vI 0] [(.ref i0t), (.int 0), (.ref b6)])) _
    refine st11 _ ?_
    show Steps _ _ _ (T11.setTop (mkF m 22 #[vA v_, vA b6, vI 0] [(.ref i0t), (.int 0), (.ref b6)])) _
    refine st12 _ ?_
    show Steps _ _ _ (T12.setTop (mkF m 23 #[vA v_, vA b6, vI 0] [])) _
    refine XS.iinc X12.here hx rfl (hb hby d252) rfl (l' := #[vA v_, vA b6, vI 1]) rfl ?_
    refine XS.goto X12.here hx rfl (pc0 := 26) (pc' := 8) rfl (hb hby d253) (by decide) (by decide) ?_
    refine XS.iloadN X12.here hx rfl (hb hby d241) rfl ?_
    refine XS.aloadN X12.here hx rfl (hb hby d242) rfl rfl ?_
    refine X12.arraylength hx (by rw [e12]; exact Ar14.1) (State.isArrayOf_alike hZ.alike Ar14.2.1) (g := (mkF m 10 #[vA v_, vA b6, vI 1] [(.ref v_), (.int 1)])) rfl rfl (hb hby d243) _ ?_
    rw [len_of S14 M14]
    show Steps _ _ _ (T12.setTop (mkF m 11 #[vA v_, vA b6, vI 1] [(.int 3), (.int 1)])) _
    refine XS.icmpNo X12.here hx rfl (hb hby d244) rfl (tlt ((by decide) : (1 : Int32) < (3 : Int32))).2.1 ?_
    refine XS.aloadN X12.here hx rfl (hb hby d245) rfl rfl ?_
    refine XS.iloadN X12.here hx rfl (hb hby d246) rfl ?_
    refine XS.aloadN X12.here hx rfl (hb hby d247) rfl rfl ?_
    refine XS.iloadN X12.here hx rfl (hb hby d248) rfl ?_
    refine X12.aaload hx (j := (1 : Int32)) (v := (.ref i1t)) (by rw [e12]; exact Ar16.1) (State.isArrayOf_alike hZ.alike Ar16.2.1) rfl Ar16.2.2 hin16 hat16 (g := (mkF m 18 #[vA v_, vA b6, vI 1] [(.int 1), (.ref v_), (.int 1), (.ref b6)])) rfl rfl (hb hby d249) _ ?_
    show Steps _ _ _ (T12.setTop (mkF m 19 #[vA v_, vA b6, vI 1] [(.ref i1t), (.int 1), (.ref b6)])) _
    refine st17 _ ?_
    show Steps _ _ _ (T17.setTop (mkF m 22 #[vA v_, vA b6, vI 1] [(.ref i1t), (.int 1), (.ref b6)])) _
    refine st18 _ ?_
    show Steps _ _ _ (T18.setTop (mkF m 23 #[vA v_, vA b6, vI 1] [])) _
    refine XS.iinc X18.here hx rfl (hb hby d252) rfl (l' := #[vA v_, vA b6, vI 2]) rfl ?_
    refine XS.goto X18.here hx rfl (pc0 := 26) (pc' := 8) rfl (hb hby d253) (by decide) (by decide) ?_
    refine XS.iloadN X18.here hx rfl (hb hby d241) rfl ?_
    refine XS.aloadN X18.here hx rfl (hb hby d242) rfl rfl ?_
    refine X18.arraylength hx (by rw [e18]; exact Ar21.1) (State.isArrayOf_alike hZ.alike Ar21.2.1) (g := (mkF m 10 #[vA v_, vA b6, vI 2] [(.ref v_), (.int 2)])) rfl rfl (hb hby d243) _ ?_
    rw [len_of S21 M21]
    show Steps _ _ _ (T18.setTop (mkF m 11 #[vA v_, vA b6, vI 2] [(.int 3), (.int 2)])) _
    refine XS.icmpNo X18.here hx rfl (hb hby d244) rfl (tlt ((by decide) : (2 : Int32) < (3 : Int32))).2.1 ?_
    refine XS.aloadN X18.here hx rfl (hb hby d245) rfl rfl ?_
    refine XS.iloadN X18.here hx rfl (hb hby d246) rfl ?_
    refine XS.aloadN X18.here hx rfl (hb hby d247) rfl rfl ?_
    refine XS.iloadN X18.here hx rfl (hb hby d248) rfl ?_
    refine X18.aaload hx (j := (2 : Int32)) (v := (.ref i2t)) (by rw [e18]; exact Ar23.1) (State.isArrayOf_alike hZ.alike Ar23.2.1) rfl Ar23.2.2 hin23 hat23 (g := (mkF m 18 #[vA v_, vA b6, vI 2] [(.int 2), (.ref v_), (.int 2), (.ref b6)])) rfl rfl (hb hby d249) _ ?_
    show Steps _ _ _ (T18.setTop (mkF m 19 #[vA v_, vA b6, vI 2] [(.ref i2t), (.int 2), (.ref b6)])) _
    refine st24 _ ?_
    show Steps _ _ _ (T24.setTop (mkF m 22 #[vA v_, vA b6, vI 2] [(.ref i2t), (.int 2), (.ref b6)])) _
    refine st25 _ ?_
    show Steps _ _ _ (T25.setTop (mkF m 23 #[vA v_, vA b6, vI 2] [])) _
    refine XS.iinc X25.here hx rfl (hb hby d252) rfl (l' := #[vA v_, vA b6, vI 3]) rfl ?_
    refine XS.goto X25.here hx rfl (pc0 := 26) (pc' := 8) rfl (hb hby d253) (by decide) (by decide) ?_
    refine XS.iloadN X25.here hx rfl (hb hby d241) rfl ?_
    refine XS.aloadN X25.here hx rfl (hb hby d242) rfl rfl ?_
    refine X25.arraylength hx (by rw [e25]; exact Ar29.1) (State.isArrayOf_alike hZ.alike Ar29.2.1) (g := (mkF m 10 #[vA v_, vA b6, vI 3] [(.ref v_), (.int 3)])) rfl rfl (hb hby d243) _ ?_
    rw [len_of S29 M29]
    show Steps _ _ _ (T25.setTop (mkF m 11 #[vA v_, vA b6, vI 3] [(.int 3), (.int 3)])) _
    refine XS.icmpYes X25.here hx rfl (pc0 := 11) (pc' := 29) rfl (hb hby d244) rfl (flt ((by decide) : ¬ ((3 : Int32) < (3 : Int32)))).2.1 (by decide) (by decide) ?_
    refine st31 _ ?_
    show Steps _ _ _ (T31.setTop (mkF m 32 #[vA v_, vA b6, vI 3] [(.ref b31)])) _
    refine XS.dup X31.here hx rfl (hb hby d255) rfl rfl ?_
    refine XS.aloadN X31.here hx rfl (hb hby d256) rfl rfl ?_
    refine XS.iconst X31.here hx rfl (hb hby d257) ?_
    refine st33.trans ?_
    show Steps _ _ _ (T33.setTop (mkF m 38 #[vA v_, vA b6, vI 3] [(.ref b31)])) _
    exact retOut X33 hx hret (own_narrow_ref rfl) (Or.inr (Or.inr (Or.inr (Or.inr ⟨rfl, rfl, rfl⟩)))) (hb hby d259) hr
theorem d260 : decode jdk_40_method_47_code 59 = .ok (.aload_n 0, 1) := by decide +kernel
theorem w_341 {Z : State} {a0 : Array Value} (hw : HW Z a0) : (Jvm.Cond.methodLink "java/util/List" (109 : Nat) m_32).before a0 Z = true := hw _ (List.mem_of_getElem? (i := 341) rfl)
theorem w_343 {Z : State} {a0 : Array Value} (hw : HW Z a0) : (Jvm.Cond.code m_32 jdk_56_method_4_code (3 : Nat) (Option.some (FieldType.object "java/util/List"))).before a0 Z = true := hw _ (List.mem_of_getElem? (i := 343) rfl)
theorem d261 : decode jdk_40_method_47_code 60 = .ok (.invokestatic 109, 3) := by decide +kernel
theorem w_342 {Z : State} {a0 : Array Value} (hw : HW Z a0) : (Jvm.Cond.static m_32).before a0 Z = true := hw _ (List.mem_of_getElem? (i := 342) rfl)
theorem d262 : decode jdk_40_method_47_code 63 = .ok (.areturn, 1) := by decide +kernel
def Q_of3 (Z : State) (v_ : Addr) (kv : ClassId) (i0t : Addr) (i1t : Addr) (i2t : Addr) (h0 : Heap) (n0 : Nat) (v : Option Value) (h : Heap) (L : List Loc) : Prop := ∃ (r : Addr) (ea : Addr) (ke : ClassId), (v = some (.ref r)) ∧ (Fr n0 L) ∧ (Keep h0 h []) ∧ (h0.size ≤ r) ∧ (h0.size ≤ ea) ∧ (Exa Z h r "java/util/ImmutableCollections$ListN") ∧ (fld10 Z h r (.ref ea)) ∧ (Arv Z h ea ke (.object "java/lang/Object") (3 : Int32) [(.ref i0t), (.ref i1t), (.ref i2t)] .null)
theorem rm_of3 (l : Launch) (Z : State) (a0 : Array Value) (hw : HW Z a0) (ws : List Jvm.Cond) (v_ : Addr) (kv : ClassId) (i0t : Addr) (i1t : Addr) (i2t : Addr) (h0 : Heap) (n0 : Nat) (Z0 : n0 ≤ h0.size) (P0 : Arv Z h0 v_ kv (.object "java/lang/Object") (3 : Int32) [(.ref i0t), (.ref i1t), (.ref i2t)] .null) (P1 : Exa Z h0 i0t "java/lang/String") (P2 : Exa Z h0 i1t "java/lang/String") (P3 : Exa Z h0 i2t "java/lang/String") :
    MF l Z m_30 jdk_40_method_47_code 2 (some (.object "java/util/List")) ws (oR 6 2 5 77) #[(.ref v_)] h0 (Q_of3 Z v_ kv i0t i1t i2t h0 n0) := by
  refine own_body (cls := "java/util/List") (plainFor_of_name pn_6) rfl (fun p e s m below meth c s₁ hx hby hml hown hnm hret hZ X0 e0 => ?_)
  have N0 := Fr.nil n0
  have K0 := Keep.refl h0 []
  have lt1 := own_l P0.lt
  have lt2 := own_l P1.lt
  have lt3 := own_l P2.lt
  have lt4 := own_l P3.lt
  obtain ⟨cl5, Ar5, q5, S5, M5, H5, G5⟩ := id P0
  obtain ⟨_, _, ⟨T6, L6, k6, n6⟩, -, X6, ⟨Lc6, hQ6, l6, y6, z6⟩, st6⟩ := Jvm.LawKit.callS X0 hx (y := m_32) hown (mvT hZ (w_341 hw)) (mvT hZ (w_342 hw)) (mvT hZ (w_119 hw)) (mvT hZ (w_343 hw)) (by decide) (backOf (W := 0) (rm_lfa l Z a0 hw [] v_ kv i0t i1t i2t h0 n0 (by omega) P0 P1 P2 P3) hZ (w_343 hw) (w_119 hw) (by decide) (by decide)) (g := (mkF m 60 #[vA v_, .unset] [(.ref v_)])) rfl (by rw [hml]; rfl) (argsL := [(.ref v_)]) (rest := []) (lenOf pd_15 rfl) rfl (Nat.le_of_eq rfl) (hb hby d261) (fun _ _ => ⟨rfl, e0, (by decide : 0 + 2 ≤ _), (by decide : 0 + 5 ≤ _)⟩)
  dsimp only [Pt.U, Pt.locs, Pt.cells, Pt.slots] at X6 l6 y6 z6 st6 hQ6
  rw [l6, y6, z6] at X6
  obtain ⟨x6_r, x6_ea, x6_ke, rfl, Nq6, Kq6, r6_0, r6_1, r6_2, r6_3, r6_4⟩ := hQ6
  have N6 := Fr.app N0 Nq6
  have z6' := Kq6.1
  have K6 := K0.trans Kq6 all0
  have lt7 := own_l r6_2.lt
  have lt8 := own_l r6_3.lt
  have lt9 := own_l r6_4.lt
  refine ⟨_, _, _, _, some (.ref x6_r), X6, by decide, by decide, nofun, ?_, fun fs hr => castTop (ef_8 m v_) ?_⟩
  · show Q_of3 Z v_ kv i0t i1t i2t h0 n0 _ T6.heap _
    exact ⟨x6_r, x6_ea, x6_ke, rfl, N6, K6, (by omega), (by omega), r6_2, r6_3, r6_4⟩
  · show Steps _ _ _ (s₁.setTop (mkF m 0 #[vA v_, .unset] [])) _
    refine XS.aloadN X0.here hx rfl (hb hby d211) rfl rfl ?_
    refine X0.arraylength hx (by rw [e0]; exact Ar5.1) (State.isArrayOf_alike hZ.alike Ar5.2.1) (g := (mkF m 1 #[vA v_, .unset] [(.ref v_)])) rfl rfl (hb hby d212) _ ?_
    rw [len_of S5 M5]
    show Steps _ _ _ (s₁.setTop (mkF m 2 #[vA v_, .unset] [(.int 3)])) _
    refine XS.tswOut X0.here hx rfl (pc0 := 2) (pc' := 59) rfl (hb hby d213) rfl (by decide) (by decide) (by decide) ?_
    refine XS.aloadN X0.here hx rfl (hb hby d260) rfl rfl ?_
    refine st6 _ ?_
    show Steps _ _ _ (T6.setTop (mkF m 63 #[vA v_, .unset] [(.ref x6_r)])) _
    exact retOut X6 hx hret (own_narrow_ref rfl) (Or.inr (Or.inr (Or.inr (Or.inr ⟨rfl, rfl, rfl⟩)))) (hb hby d262) hr
def Q_lc3 (Z : State) (a_ : Addr) (v_ : Addr) (kv : ClassId) (i0t : Addr) (i1t : Addr) (i2t : Addr) (mo : Addr) (h0 : Heap) (n0 : Nat) (v : Option Value) (h : Heap) (L : List Loc) : Prop := ∃ (r : Addr) (ea : Addr) (ke : ClassId), (v = some (.ref r)) ∧ (Fr n0 L) ∧ (Keep h0 h []) ∧ (h0.size ≤ r) ∧ (h0.size ≤ ea) ∧ (Exa Z h r "java/util/ImmutableCollections$ListN") ∧ (fld10 Z h r (.ref ea)) ∧ (Arv Z h ea ke (.object "java/lang/Object") (3 : Int32) [(.ref i0t), (.ref i1t), (.ref i2t)] .null)
theorem rm_lc3 (l : Launch) (Z : State) (a0 : Array Value) (hw : HW Z a0) (ws : List Jvm.Cond) (a_ : Addr) (v_ : Addr) (kv : ClassId) (i0t : Addr) (i1t : Addr) (i2t : Addr) (mo : Addr) (h0 : Heap) (n0 : Nat) (Z0 : n0 ≤ h0.size) (P0 : Mi Z "[Ljava/lang/Object;" mo) (P1 : Exa Z h0 a_ "java/util/ArrayList") (P2 : fld2 Z h0 a_ (.int 3)) (P3 : fld3 Z h0 a_ (.ref v_)) (P4 : Exa Z h0 v_ "[Ljava/lang/Object;") (P5 : Arv Z h0 v_ kv (.object "java/lang/Object") (10 : Int32) [(.ref i0t), (.ref i1t), (.ref i2t), .null, .null, .null, .null, .null, .null, .null] .null) (P6 : Exa Z h0 i0t "java/lang/String") (P7 : Exa Z h0 i1t "java/lang/String") (P8 : Exa Z h0 i2t "java/lang/String") :
    MF l Z m_16 jdk_56_method_3_code 2 (some (.object "java/util/List")) ws (oR 7 3 8 90) #[(.ref a_)] h0 (Q_lc3 Z a_ v_ kv i0t i1t i2t mo h0 n0) := by
  refine own_body (cls := "java/util/ImmutableCollections") (plainFor_of_name pn_7) rfl (fun p e s m below meth c s₁ hx hby hml hown hnm hret hZ X0 e0 => ?_)
  have N0 := Fr.nil n0
  have K0 := Keep.refl h0 []
  have lt1 := own_l P1.lt
  have lt2 := own_l P2.lt
  have lt3 := own_l P3.lt
  have lt4 := own_l P4.lt
  have lt5 := own_l P5.lt
  have lt6 := own_l P6.lt
  have lt7 := own_l P7.lt
  have lt8 := own_l P8.lt
  obtain ⟨T9, X9, e9, st9⟩ := instNo X0 hx hZ hown (w_121 hw) e0 P1 (own_nsno (w_122 hw) (w_170 hw) (NS.step (w_122 hw) (NS.step (w_123 hw) (NS.step (w_124 hw) (own_nsroot (w_125 hw) (w_170 hw) (by decide)) (by decide)) (by decide)) (by decide)) (by decide)) (g := (mkF m 1 #[vA a_, .unset] [(.ref a_)])) rfl rfl (hb hby d123)
  obtain ⟨T10, X10, e10, st10⟩ := instNo X9 hx hZ hown (w_126 hw) e9 P1 (own_nsno (w_122 hw) (w_346 hw) (NS.step (w_122 hw) (NS.step (w_123 hw) (NS.step (w_124 hw) (own_nsroot (w_125 hw) (w_346 hw) (by decide)) (by decide)) (by decide)) (by decide)) (by decide)) (g := (mkF m 8 #[vA a_, .unset] [(.ref a_)])) rfl rfl (hb hby d126)
  obtain ⟨cq11, kq11, qa11, qb11, qc11⟩ := isOf hZ e10 P1
  obtain ⟨_, _, ⟨T11, L11, k11, n11⟩, -, X11, ⟨Lc11, hQ11, l11, y11, z11⟩, st11⟩ := X10.interfaceBack hx (xi := m_15) (y := m_13) (C := "java/util/ArrayList") hown (mvT hZ (w_127 hw)) (mvT hZ (w_128 hw)) (mvT hZ (w_129 hw)) (mvT hZ (w_130 hw)) (mvT hZ (w_131 hw)) (mvT hZ (w_132 hw)) (mvT hZ (w_133 hw)) (mvT hZ (w_134 hw)) (by decide) (backOf (W := 0) (rm_em3 l Z a0 hw [] a_ h0 n0 (by omega) P2) hZ (w_135 hw) (w_28 hw) (by decide) (by decide)) qa11 qb11 qc11 (g := (mkF m 32 #[vA a_, .unset] [(.ref a_)])) rfl (by rw [hml]; rfl) (Steps.refl _) (argsL := []) (rest := []) (lenOf pd_8 rfl) rfl (Nat.le_of_eq rfl) (hb hby d129) (fun _ _ => ⟨rfl, e10, (by decide : 0 + 0 ≤ _), (by decide : 0 + 0 ≤ _)⟩)
  dsimp only [Pt.U, Pt.locs, Pt.cells, Pt.slots] at X11 l11 y11 z11 st11 hQ11
  rw [l11, y11, z11] at X11
  obtain ⟨rfl, Nq11, Kq11⟩ := hQ11
  have N11 := Fr.app N0 Nq11
  obtain ⟨cq12, kq12, qa12, qb12, qc12⟩ := isOf hZ Kq11 P1
  obtain ⟨_, _, ⟨T12, L12, k12, n12⟩, -, X12, ⟨Lc12, hQ12, l12, y12, z12⟩, st12⟩ := X11.interfaceBack hx (xi := m_31) (y := m_29) (C := "java/util/ArrayList") hown (mvT hZ (w_136 hw)) (mvT hZ (w_137 hw)) (mvT hZ (w_138 hw)) (mvT hZ (w_139 hw)) (mvT hZ (w_140 hw)) (mvT hZ (w_141 hw)) (mvT hZ (w_142 hw)) (mvT hZ (w_134 hw)) (by decide) (backOf (W := 0) (rm_toA3 l Z a0 hw [] a_ v_ kv i0t i1t i2t mo h0 n0 (by omega) P0 P1 P2 P3 P4 P5 P6 P7 P8) hZ (w_143 hw) (w_28 hw) (by decide) (by decide)) qa12 qb12 qc12 (g := (mkF m 45 #[vA a_, .unset] [(.ref a_)])) rfl (by rw [hml]; rfl) (Steps.refl _) (argsL := []) (rest := []) (lenOf pd_6 rfl) rfl (Nat.le_of_eq rfl) (hb hby d222) (fun _ _ => ⟨rfl, Kq11, (by decide : 0 + 1 ≤ _), (by decide : 0 + 3 ≤ _)⟩)
  dsimp only [Pt.U, Pt.locs, Pt.cells, Pt.slots] at X12 l12 y12 z12 st12 hQ12
  rw [l12, y12, z12] at X12
  obtain ⟨x12_b, x12_k, rfl, Nq12, Kq12, r12_0, r12_1⟩ := hQ12
  have N12 := Fr.app N11 Nq12
  have z12' := Kq12.1
  have K12 := K0.trans Kq12 all0
  have lt13 := own_l r12_1.lt
  have f15 := P6.keep Kq12
  have f16 := P7.keep Kq12
  have f17 := P8.keep Kq12
  obtain ⟨_, _, ⟨T14, L14, k14, n14⟩, -, X14, ⟨Lc14, hQ14, l14, y14, z14⟩, st14⟩ := Jvm.LawKit.callS X12 hx (y := m_30) hown (mvT hZ (w_166 hw)) (mvT hZ (w_167 hw)) (mvT hZ (w_115 hw)) (mvT hZ (w_168 hw)) (by decide) (backOf (W := 0) (rm_of3 l Z a0 hw [] x12_b x12_k i0t i1t i2t T12.heap n0 (by omega) r12_1 f15 f16 f17) hZ (w_168 hw) (w_115 hw) (by decide) (by decide)) (g := (mkF m 50 #[vA a_, .unset] [(.ref x12_b)])) rfl (by rw [hml]; rfl) (argsL := [(.ref x12_b)]) (rest := []) (lenOf pd_15 rfl) rfl (Nat.le_of_eq rfl) (hb hby d223) (fun _ _ => ⟨rfl, rfl, (by decide : 1 + 2 ≤ _), (by decide : 3 + 5 ≤ _)⟩)
  dsimp only [Pt.U, Pt.locs, Pt.cells, Pt.slots] at X14 l14 y14 z14 st14 hQ14
  rw [l14, y14, z14] at X14
  obtain ⟨x14_r, x14_ea, x14_ke, rfl, Nq14, Kq14, r14_0, r14_1, r14_2, r14_3, r14_4⟩ := hQ14
  have N14 := Fr.app N12 Nq14
  have z14' := Kq14.1
  have K14 := K12.trans Kq14 all0
  have lt18 := own_l r14_2.lt
  have lt19 := own_l r14_3.lt
  have lt20 := own_l r14_4.lt
  refine ⟨_, _, _, _, some (.ref x14_r), X14, by decide, by decide, nofun, ?_, fun fs hr => castTop (ef_8 m a_) ?_⟩
  · show Q_lc3 Z a_ v_ kv i0t i1t i2t mo h0 n0 _ T14.heap _
    exact ⟨x14_r, x14_ea, x14_ke, rfl, N14, K14, (by omega), (by omega), r14_2, r14_3, r14_4⟩
  · show Steps _ _ _ (s₁.setTop (mkF m 0 #[vA a_, .unset] [])) _
    refine XS.aloadN X0.here hx rfl (hb hby d122) rfl rfl ?_
    refine st9 _ ?_
    show Steps _ _ _ (T9.setTop (mkF m 4 #[vA a_, .unset] [(.int 0)])) _
    refine XS.ifNo X9.here hx rfl (hb hby d124) rfl ((if0 _ _).trans (teq ((by decide) : (0 : Int32) = (0 : Int32))).2) ?_
    refine XS.aloadN X9.here hx rfl (hb hby d125) rfl rfl ?_
    refine st10 _ ?_
    show Steps _ _ _ (T10.setTop (mkF m 11 #[vA a_, .unset] [(.int 0)])) _
    refine XS.ifYes X10.here hx rfl (pc0 := 11) (pc' := 31) rfl (hb hby d127) rfl ((if0 _ _).trans (teq ((by decide) : (0 : Int32) = (0 : Int32))).1) (by decide) (by decide) ?_
    refine XS.aloadN X10.here hx rfl (hb hby d128) rfl rfl ?_
    refine st11.trans ?_
    show Steps _ _ _ (T11.setTop (mkF m 37 #[vA a_, .unset] [(.int 0)])) _
    refine XS.ifYes X11.here hx rfl (pc0 := 37) (pc' := 44) rfl (hb hby d130) rfl ((if0 _ _).trans (teq ((by decide) : (0 : Int32) = (0 : Int32))).1) (by decide) (by decide) ?_
    refine XS.aloadN X11.here hx rfl (hb hby d221) rfl rfl ?_
    refine st12.trans ?_
    show Steps _ _ _ (T12.setTop (mkF m 50 #[vA a_, .unset] [(.ref x12_b)])) _
    refine st14 _ ?_
    show Steps _ _ _ (T14.setTop (mkF m 53 #[vA a_, .unset] [(.ref x14_r)])) _
    exact retOut X14 hx hret (own_narrow_ref rfl) (Or.inr (Or.inr (Or.inr (Or.inr ⟨rfl, rfl, rfl⟩)))) (hb hby d224) hr
def Q_cp3 (Z : State) (a_ : Addr) (v_ : Addr) (kv : ClassId) (i0t : Addr) (i1t : Addr) (i2t : Addr) (mo : Addr) (h0 : Heap) (n0 : Nat) (v : Option Value) (h : Heap) (L : List Loc) : Prop := ∃ (r : Addr) (ea : Addr) (ke : ClassId), (v = some (.ref r)) ∧ (Fr n0 L) ∧ (Keep h0 h []) ∧ (h0.size ≤ r) ∧ (h0.size ≤ ea) ∧ (Exa Z h r "java/util/ImmutableCollections$ListN") ∧ (fld10 Z h r (.ref ea)) ∧ (Arv Z h ea ke (.object "java/lang/Object") (3 : Int32) [(.ref i0t), (.ref i1t), (.ref i2t)] .null)
theorem rm_cp3 (l : Launch) (Z : State) (a0 : Array Value) (hw : HW Z a0) (ws : List Jvm.Cond) (a_ : Addr) (v_ : Addr) (kv : ClassId) (i0t : Addr) (i1t : Addr) (i2t : Addr) (mo : Addr) (h0 : Heap) (n0 : Nat) (Z0 : n0 ≤ h0.size) (P0 : Mi Z "[Ljava/lang/Object;" mo) (P1 : Exa Z h0 a_ "java/util/ArrayList") (P2 : fld2 Z h0 a_ (.int 3)) (P3 : fld3 Z h0 a_ (.ref v_)) (P4 : Exa Z h0 v_ "[Ljava/lang/Object;") (P5 : Arv Z h0 v_ kv (.object "java/lang/Object") (10 : Int32) [(.ref i0t), (.ref i1t), (.ref i2t), .null, .null, .null, .null, .null, .null, .null] .null) (P6 : Exa Z h0 i0t "java/lang/String") (P7 : Exa Z h0 i1t "java/lang/String") (P8 : Exa Z h0 i2t "java/lang/String") :
    MF l Z m_17 jdk_40_method_48_code 1 (some (.object "java/util/List")) ws (oR 8 3 8 103) #[(.ref a_)] h0 (Q_cp3 Z a_ v_ kv i0t i1t i2t mo h0 n0) := by
  refine own_body (cls := "java/util/List") (plainFor_of_name pn_6) rfl (fun p e s m below meth c s₁ hx hby hml hown hnm hret hZ X0 e0 => ?_)
  have N0 := Fr.nil n0
  have K0 := Keep.refl h0 []
  have lt1 := own_l P1.lt
  have lt2 := own_l P2.lt
  have lt3 := own_l P3.lt
  have lt4 := own_l P4.lt
  have lt5 := own_l P5.lt
  have lt6 := own_l P6.lt
  have lt7 := own_l P7.lt
  have lt8 := own_l P8.lt
  obtain ⟨_, _, ⟨T9, L9, k9, n9⟩, -, X9, ⟨Lc9, hQ9, l9, y9, z9⟩, st9⟩ := Jvm.LawKit.callS X0 hx (y := m_16) hown (mvT hZ (w_117 hw)) (mvT hZ (w_118 hw)) (mvT hZ (w_119 hw)) (mvT hZ (w_120 hw)) (by decide) (backOf (W := 0) (rm_lc3 l Z a0 hw [] a_ v_ kv i0t i1t i2t mo h0 n0 (by omega) P0 P1 P2 P3 P4 P5 P6 P7 P8) hZ (w_120 hw) (w_119 hw) (by decide) (by decide)) (g := (mkF m 1 #[vA a_] [(.ref a_)])) rfl (by rw [hml]; rfl) (argsL := [(.ref a_)]) (rest := []) (lenOf pd_10 rfl) rfl (Nat.le_of_eq rfl) (hb hby d134) (fun _ _ => ⟨rfl, e0, (by decide : 0 + 3 ≤ _), (by decide : 0 + 8 ≤ _)⟩)
  dsimp only [Pt.U, Pt.locs, Pt.cells, Pt.slots] at X9 l9 y9 z9 st9 hQ9
  rw [l9, y9, z9] at X9
  obtain ⟨x9_r, x9_ea, x9_ke, rfl, Nq9, Kq9, r9_0, r9_1, r9_2, r9_3, r9_4⟩ := hQ9
  have N9 := Fr.app N0 Nq9
  have z9' := Kq9.1
  have K9 := K0.trans Kq9 all0
  have lt10 := own_l r9_2.lt
  have lt11 := own_l r9_3.lt
  have lt12 := own_l r9_4.lt
  refine ⟨_, _, _, _, some (.ref x9_r), X9, by decide, by decide, nofun, ?_, fun fs hr => castTop (ef_2 m a_) ?_⟩
  · show Q_cp3 Z a_ v_ kv i0t i1t i2t mo h0 n0 _ T9.heap _
    exact ⟨x9_r, x9_ea, x9_ke, rfl, N9, K9, (by omega), (by omega), r9_2, r9_3, r9_4⟩
  · show Steps _ _ _ (s₁.setTop (mkF m 0 #[vA a_] [])) _
    refine XS.aloadN X0.here hx rfl (hb hby d133) rfl rfl ?_
    refine st9 _ ?_
    show Steps _ _ _ (T9.setTop (mkF m 4 #[vA a_] [(.ref x9_r)])) _
    exact retOut X9 hx hret (own_narrow_ref rfl) (Or.inr (Or.inr (Or.inr (Or.inr ⟨rfl, rfl, rfl⟩)))) (hb hby d135) hr
def LS1 (n N : Int32) (vs : List Value) (it : Addr) : Prop := n = 0 ∨ (n = 1 ∧ N = 10 ∧ vs = [(.ref it), .null, .null, .null, .null, .null, .null, .null, .null, .null])
def Q_cpa (Z : State) (a_ : Addr) (v_ : Addr) (kv : ClassId) (sn : Int32) (sN : Int32) (vs : List Value) (it : Addr) (mo : Addr) (el : Addr) (em : Addr) (h0 : Heap) (n0 : Nat) (v : Option Value) (h : Heap) (L : List Loc) : Prop := ∃ (r : Addr), (v = some (.ref r)) ∧ (Fr n0 L) ∧ (Keep h0 h [])
theorem rm_cpa_0 (l : Launch) (Z : State) (a0 : Array Value) (hw : HW Z a0) (ws : List Jvm.Cond) (a_ : Addr) (v_ : Addr) (kv : ClassId) (sN : Int32) (vs : List Value) (it : Addr) (mo : Addr) (el : Addr) (em : Addr) (h0 : Heap) (n0 : Nat) (Z0 : n0 ≤ h0.size) (P0 : Old Z n0 h0) (P1 : sta2 Z (.ref el)) (P2 : sta3 Z (.ref em)) (P3 : Mi Z "[Ljava/lang/Object;" mo) (P4 : Exa Z h0 a_ "java/util/ArrayList") (P5 : fld2 Z h0 a_ (.int 0)) (P6 : fld3 Z h0 a_ (.ref v_)) (P7 : Exa Z h0 v_ "[Ljava/lang/Object;") (P8 : Arv Z h0 v_ kv (.object "java/lang/Object") sN vs .null) (P9 : Exa Z h0 it "java/lang/String") :
    MF l Z m_17 jdk_40_method_48_code 1 (some (.object "java/util/List")) ws (oR 7 2 3 88) #[(.ref a_)] h0 (Q_cpa Z a_ v_ kv (0 : Int32) sN vs it mo el em h0 n0) := by
  refine own_body (cls := "java/util/List") (plainFor_of_name pn_6) rfl (fun p e s m below meth c s₁ hx hby hml hown hnm hret hZ X0 e0 => ?_)
  have N0 := Fr.nil n0
  have K0 := Keep.refl h0 []
  have lt1 := own_l P4.lt
  have lt2 := own_l P5.lt
  have lt3 := own_l P6.lt
  have lt4 := own_l P7.lt
  have lt5 := own_l P8.lt
  have lt6 := own_l P9.lt
  obtain ⟨_, _, ⟨T7, L7, k7, n7⟩, -, X7, ⟨Lc7, hQ7, l7, y7, z7⟩, st7⟩ := Jvm.LawKit.callS X0 hx (y := m_16) hown (mvT hZ (w_117 hw)) (mvT hZ (w_118 hw)) (mvT hZ (w_119 hw)) (mvT hZ (w_120 hw)) (by decide) (backOf (W := 0) (rm_lc0 l Z a0 hw [] a_ el h0 n0 (by omega) P0 P1 P4 P5) hZ (w_120 hw) (w_119 hw) (by decide) (by decide)) (g := (mkF m 1 #[vA a_] [(.ref a_)])) rfl (by rw [hml]; rfl) (argsL := [(.ref a_)]) (rest := []) (lenOf pd_10 rfl) rfl (Nat.le_of_eq rfl) (hb hby d134) (fun _ _ => ⟨rfl, e0, (by decide : 0 + 0 ≤ _), (by decide : 0 + 0 ≤ _)⟩)
  dsimp only [Pt.U, Pt.locs, Pt.cells, Pt.slots] at X7 l7 y7 z7 st7 hQ7
  rw [l7, y7, z7] at X7
  obtain ⟨rfl, Nq7, Kq7⟩ := hQ7
  have N7 := Fr.app N0 Nq7
  refine ⟨_, _, _, _, some (.ref el), X7, by decide, by decide, nofun, ?_, fun fs hr => castTop (ef_2 m a_) ?_⟩
  · show Q_cpa Z a_ v_ kv (0 : Int32) sN vs it mo el em h0 n0 _ T7.heap _
    rw [(Kq7 : T7.heap = h0)]
    exact ⟨el, rfl, N7, K0⟩
  · show Steps _ _ _ (s₁.setTop (mkF m 0 #[vA a_] [])) _
    refine XS.aloadN X0.here hx rfl (hb hby d133) rfl rfl ?_
    refine st7 _ ?_
    show Steps _ _ _ (T7.setTop (mkF m 4 #[vA a_] [(.ref el)])) _
    exact retOut X7 hx hret (own_narrow_ref rfl) (Or.inr (Or.inr (Or.inr (Or.inr ⟨rfl, rfl, rfl⟩)))) (hb hby d135) hr
theorem rm_cpa_1 (l : Launch) (Z : State) (a0 : Array Value) (hw : HW Z a0) (ws : List Jvm.Cond) (a_ : Addr) (v_ : Addr) (kv : ClassId) (it : Addr) (mo : Addr) (el : Addr) (em : Addr) (h0 : Heap) (n0 : Nat) (Z0 : n0 ≤ h0.size) (P0 : Old Z n0 h0) (P1 : sta2 Z (.ref el)) (P2 : sta3 Z (.ref em)) (P3 : Mi Z "[Ljava/lang/Object;" mo) (P4 : Exa Z h0 a_ "java/util/ArrayList") (P5 : fld2 Z h0 a_ (.int 1)) (P6 : fld3 Z h0 a_ (.ref v_)) (P7 : Exa Z h0 v_ "[Ljava/lang/Object;") (P8 : Arv Z h0 v_ kv (.object "java/lang/Object") (10 : Int32) [(.ref it), .null, .null, .null, .null, .null, .null, .null, .null, .null] .null) (P9 : Exa Z h0 it "java/lang/String") :
    MF l Z m_17 jdk_40_method_48_code 1 (some (.object "java/util/List")) ws (oR 7 2 3 88) #[(.ref a_)] h0 (Q_cpa Z a_ v_ kv (1 : Int32) (10 : Int32) [(.ref it), .null, .null, .null, .null, .null, .null, .null, .null, .null] it mo el em h0 n0) := by
  refine own_body (cls := "java/util/List") (plainFor_of_name pn_6) rfl (fun p e s m below meth c s₁ hx hby hml hown hnm hret hZ X0 e0 => ?_)
  have N0 := Fr.nil n0
  have K0 := Keep.refl h0 []
  have lt1 := own_l P4.lt
  have lt2 := own_l P5.lt
  have lt3 := own_l P6.lt
  have lt4 := own_l P7.lt
  have lt5 := own_l P8.lt
  have lt6 := own_l P9.lt
  obtain ⟨_, _, ⟨T7, L7, k7, n7⟩, -, X7, ⟨Lc7, hQ7, l7, y7, z7⟩, st7⟩ := Jvm.LawKit.callS X0 hx (y := m_16) hown (mvT hZ (w_117 hw)) (mvT hZ (w_118 hw)) (mvT hZ (w_119 hw)) (mvT hZ (w_120 hw)) (by decide) (backOf (W := 0) (rm_lc1 l Z a0 hw [] a_ v_ kv it mo em h0 n0 (by omega) P0 P2 P3 P4 P5 P6 P7 P8 P9) hZ (w_120 hw) (w_119 hw) (by decide) (by decide)) (g := (mkF m 1 #[vA a_] [(.ref a_)])) rfl (by rw [hml]; rfl) (argsL := [(.ref a_)]) (rest := []) (lenOf pd_10 rfl) rfl (Nat.le_of_eq rfl) (hb hby d134) (fun _ _ => ⟨rfl, e0, (by decide : 0 + 2 ≤ _), (by decide : 0 + 3 ≤ _)⟩)
  dsimp only [Pt.U, Pt.locs, Pt.cells, Pt.slots] at X7 l7 y7 z7 st7 hQ7
  rw [l7, y7, z7] at X7
  obtain ⟨x7_r, rfl, Nq7, Kq7, r7_0, r7_1⟩ := hQ7
  have N7 := Fr.app N0 Nq7
  have z7' := Kq7.1
  have K7 := K0.trans Kq7 all0
  have lt8 := own_l r7_1.lt
  refine ⟨_, _, _, _, some (.ref x7_r), X7, by decide, by decide, nofun, ?_, fun fs hr => castTop (ef_2 m a_) ?_⟩
  · show Q_cpa Z a_ v_ kv (1 : Int32) (10 : Int32) [(.ref it), .null, .null, .null, .null, .null, .null, .null, .null, .null] it mo el em h0 n0 _ T7.heap _
    exact ⟨x7_r, rfl, N7, K7⟩
  · show Steps _ _ _ (s₁.setTop (mkF m 0 #[vA a_] [])) _
    refine XS.aloadN X0.here hx rfl (hb hby d133) rfl rfl ?_
    refine st7 _ ?_
    show Steps _ _ _ (T7.setTop (mkF m 4 #[vA a_] [(.ref x7_r)])) _
    exact retOut X7 hx hret (own_narrow_ref rfl) (Or.inr (Or.inr (Or.inr (Or.inr ⟨rfl, rfl, rfl⟩)))) (hb hby d135) hr
theorem rm_cpa (l : Launch) (Z : State) (a0 : Array Value) (hw : HW Z a0) (ws : List Jvm.Cond) (a_ : Addr) (v_ : Addr) (kv : ClassId) (sn : Int32) (sN : Int32) (vs : List Value) (it : Addr) (mo : Addr) (el : Addr) (em : Addr) (h0 : Heap) (n0 : Nat) (Z0 : n0 ≤ h0.size) (P0 : Old Z n0 h0) (P1 : sta2 Z (.ref el)) (P2 : sta3 Z (.ref em)) (P3 : Mi Z "[Ljava/lang/Object;" mo) (P4 : Exa Z h0 a_ "java/util/ArrayList") (P5 : fld2 Z h0 a_ (.int sn)) (P6 : fld3 Z h0 a_ (.ref v_)) (P7 : Exa Z h0 v_ "[Ljava/lang/Object;") (P8 : Arv Z h0 v_ kv (.object "java/lang/Object") sN vs .null) (P9 : Exa Z h0 it "java/lang/String") (hls : LS1 sn sN vs it) :
    MF l Z m_17 jdk_40_method_48_code 1 (some (.object "java/util/List")) ws (oR 7 2 3 88) #[(.ref a_)] h0 (Q_cpa Z a_ v_ kv sn sN vs it mo el em h0 n0) := by
  rcases hls with rfl | ⟨rfl, rfl, rfl⟩
  · exact rm_cpa_0 l Z a0 hw ws a_ v_ kv sN vs it mo el em h0 n0 Z0 P0 P1 P2 P3 P4 P5 P6 P7 P8 P9
  · exact rm_cpa_1 l Z a0 hw ws a_ v_ kv it mo el em h0 n0 Z0 P0 P1 P2 P3 P4 P5 P6 P7 P8 P9
theorem d263 : decode jdk_71_method_1_code 0 = .ok (.aload_n 0, 1) := by decide +kernel
theorem w_97 {Z : State} {a0 : Array Value} (hw : HW Z a0) : (Jvm.Cond.methodLink "java/util/AbstractMap" (1 : Nat) m_2).before a0 Z = true := hw _ (List.mem_of_getElem? (i := 97) rfl)
theorem d264 : decode jdk_71_method_1_code 1 = .ok (.invokespecial 1, 3) := by decide +kernel
theorem d265 : decode jdk_71_method_1_code 4 = .ok (.return_, 1) := by decide +kernel
theorem pn_15 : plainName "java/util/AbstractMap" = true := by first | (simp [plainName, overriddenIn]; done) | decide +kernel
abbrev m_33 : MethodName := (⟨"java/util/AbstractMap", "<init>", "()V"⟩ : MethodName)
def Q_abm (Z : State) (a_ : Addr) (h0 : Heap) (n0 : Nat) (v : Option Value) (h : Heap) (L : List Loc) : Prop := (v = none) ∧ (Fr n0 L) ∧ (h = h0)
theorem rm_abm (l : Launch) (Z : State) (a0 : Array Value) (hw : HW Z a0) (ws : List Jvm.Cond) (a_ : Addr) (h0 : Heap) (n0 : Nat) (Z0 : n0 ≤ h0.size) :
    MF l Z m_33 jdk_71_method_1_code 1 none ws (oR 1 0 0 12) #[(.ref a_)] h0 (Q_abm Z a_ h0 n0) := by
  refine own_body (cls := "java/util/AbstractMap") (plainFor_of_name pn_15) rfl (fun p e s m below meth c s₁ hx hby hml hown hnm hret hZ X0 e0 => ?_)
  have N0 := Fr.nil n0
  obtain ⟨T1, X1, e1, st1⟩ := initO X0 hx hZ hown (w_97 hw) (w_20 hw) (w_21 hw) e0 (g := (mkF m 1 #[vA a_] [(.ref a_)])) rfl (by rw [hml]; rfl) rfl (hb hby d264) (by decide) (W := 0) (Nat.le_of_eq rfl) (by decide)
  refine ⟨_, _, _, _, none, X1, by decide, by decide, fun _ => rfl, ?_, fun fs hr => castTop (ef_2 m a_) ?_⟩
  · show Q_abm Z a_ h0 n0 _ T1.heap _
    rw [(e1 : T1.heap = h0)]
    exact ⟨rfl, N0, rfl⟩
  · show Steps _ _ _ (s₁.setTop (mkF m 0 #[vA a_] [])) _
    refine XS.aloadN X0.here hx rfl (hb hby d263) rfl rfl ?_
    refine st1 _ ?_
    show Steps _ _ _ (T1.setTop (mkF m 4 #[vA a_] [])) _
    exact X1.returnOut hx hret (hb hby d265) hr
theorem d266 : decode jdk_69_method_7_code 0 = .ok (.aload_n 0, 1) := by decide +kernel
theorem w_91 {Z : State} {a0 : Array Value} (hw : HW Z a0) : (Jvm.Cond.methodLink "java/util/HashMap" (43 : Nat) m_33).before a0 Z = true := hw _ (List.mem_of_getElem? (i := 91) rfl)
theorem w_96 {Z : State} {a0 : Array Value} (hw : HW Z a0) : (Jvm.Cond.code m_33 jdk_71_method_1_code (1 : Nat) (Option.none : Option Jvm.ClassFile.FieldType)).before a0 Z = true := hw _ (List.mem_of_getElem? (i := 96) rfl)
theorem w_95 {Z : State} {a0 : Array Value} (hw : HW Z a0) : (Jvm.Cond.initialized "java/util/AbstractMap").before a0 Z = true := hw _ (List.mem_of_getElem? (i := 95) rfl)
theorem d267 : decode jdk_69_method_7_code 1 = .ok (.invokespecial 43, 3) := by decide +kernel
theorem w_92 {Z : State} {a0 : Array Value} (hw : HW Z a0) : (Jvm.Cond.instanceMethod m_33).before a0 Z = true := hw _ (List.mem_of_getElem? (i := 92) rfl)
theorem d268 : decode jdk_69_method_7_code 4 = .ok (.aload_n 0, 1) := by decide +kernel
theorem w_98 {Z : State} {a0 : Array Value} (hw : HW Z a0) : (Jvm.Cond.constantFloat "java/util/HashMap" (92 : Nat) (1061158912 : UInt32)).before a0 Z = true := hw _ (List.mem_of_getElem? (i := 98) rfl)
theorem d269 : decode jdk_69_method_7_code 5 = .ok (.ldc 92, 2) := by decide +kernel
theorem w_99 {Z : State} {a0 : Array Value} (hw : HW Z a0) : (Jvm.Cond.fieldLink "java/util/HashMap" (81 : Nat) "java/util/HashMap" "loadFactor" "F").before a0 Z = true := hw _ (List.mem_of_getElem? (i := 99) rfl)
theorem w_100 {Z : State} {a0 : Array Value} (hw : HW Z a0) : (Jvm.Cond.laysFinal "java/util/HashMap" "java/util/HashMap" "loadFactor" "F").before a0 Z = true := hw _ (List.mem_of_getElem? (i := 100) rfl)
theorem w_86 {Z : State} {a0 : Array Value} (hw : HW Z a0) : (Jvm.Cond.instantiable "java/util/HashMap" (8 : Nat)).before a0 Z = true := hw _ (List.mem_of_getElem? (i := 86) rfl)
theorem d270 : decode jdk_69_method_7_code 7 = .ok (.putfield 81, 3) := by decide +kernel
theorem d271 : decode jdk_69_method_7_code 10 = .ok (.return_, 1) := by decide +kernel
theorem w_227 {Z : State} {a0 : Array Value} (hw : HW Z a0) : (Jvm.Cond.lays "java/util/HashMap" "java/util/HashMap" "entrySet" "Ljava/util/Set;").before a0 Z = true := hw _ (List.mem_of_getElem? (i := 227) rfl)
theorem w_271 {Z : State} {a0 : Array Value} (hw : HW Z a0) : (Jvm.Cond.lays "java/util/HashMap" "java/util/HashMap" "modCount" "I").before a0 Z = true := hw _ (List.mem_of_getElem? (i := 271) rfl)
theorem w_275 {Z : State} {a0 : Array Value} (hw : HW Z a0) : (Jvm.Cond.lays "java/util/HashMap" "java/util/HashMap" "table" "[Ljava/util/HashMap$Node;").before a0 Z = true := hw _ (List.mem_of_getElem? (i := 275) rfl)
theorem pn_16 : plainName "java/util/HashMap" = true := by first | (simp [plainName, overriddenIn]; done) | decide +kernel
abbrev m_34 : MethodName := (⟨"java/util/HashMap", "<init>", "()V"⟩ : MethodName)
def Q_hmi (Z : State) (a_ : Addr) (h0 : Heap) (n0 : Nat) (v : Option Value) (h : Heap) (L : List Loc) : Prop := (v = none) ∧ (Fr n0 L) ∧ (Keep h0 h [a_]) ∧ (Exa Z h a_ "java/util/HashMap") ∧ (fld5 Z h a_ .null) ∧ (fld6 Z h a_ (.int 0)) ∧ (fld7 Z h a_ .null)
theorem rm_hmi (l : Launch) (Z : State) (a0 : Array Value) (hw : HW Z a0) (ws : List Jvm.Cond) (a_ : Addr) (h0 : Heap) (n0 : Nat) (Z0 : n0 ≤ h0.size) (P0 : Exa Z h0 a_ "java/util/HashMap") (P1 : Fld Z h0 a_ "java/util/HashMap" "loadFactor" "F" (.float 0)) (P2 : fld5 Z h0 a_ .null) (P3 : fld6 Z h0 a_ (.int 0)) (P4 : fld7 Z h0 a_ .null) (P5 : n0 ≤ a_) :
    MF l Z m_34 jdk_69_method_7_code 1 none ws (oR 2 0 0 24) #[(.ref a_)] h0 (Q_hmi Z a_ h0 n0) := by
  refine own_body (cls := "java/util/HashMap") (plainFor_of_name pn_16) rfl (fun p e s m below meth c s₁ hx hby hml hown hnm hret hZ X0 e0 => ?_)
  have N0 := Fr.nil n0
  have K0 := Keep.refl h0 [a_]
  have lt1 := own_l P0.lt
  have lt2 := own_l P1.lt
  have lt3 := own_l P2.lt
  have lt4 := own_l P3.lt
  have lt5 := own_l P4.lt
  obtain ⟨_, _, ⟨T6, L6, k6, n6⟩, -, X6, ⟨Lc6, hQ6, l6, y6, z6⟩, st6⟩ := X0.specialBack hx (y := m_33) rfl hown (mvT hZ (w_91 hw)) (mvT hZ (w_92 hw)) (mvT hZ (w_96 hw)) (by decide) (backOf (W := 0) (rm_abm l Z a0 hw [] a_ h0 n0 (by omega) ) hZ (w_96 hw) (w_95 hw) (by decide) (by decide)) (g := (mkF m 1 #[vA a_] [(.ref a_)])) rfl (by rw [hml]; rfl) (Steps.refl _) (a := a_) (argsL := []) (rest := []) (lenOf pd_3 rfl) rfl (Nat.le_of_eq rfl) (hb hby d267) (fun _ _ => ⟨rfl, e0, (by decide : 0 + 0 ≤ _), (by decide : 0 + 0 ≤ _)⟩)
  dsimp only [Pt.U, Pt.locs, Pt.cells, Pt.slots] at X6 l6 y6 z6 st6 hQ6
  rw [l6, y6, z6] at X6
  obtain ⟨rfl, Nq6, Kq6⟩ := hQ6
  have N6 := Fr.app N0 Nq6
  obtain ⟨T8, h8, X8, e8, W8, st8⟩ := putF X6 hx hZ hown (host := "") (Or.inl (w_99 hw)) Via.refl Kq6 P1 P0 (Or.inr ⟨(w_100 hw), rfl, hnm⟩) (w_86 hw) (ty := .float) (by decide) rfl rfl (g := (mkF m 7 #[vA a_] [(.float 1061158912), (.ref a_)])) rfl rfl (hb hby d270)
  have F8 := P1.same W8
  have z8 := W8.size
  have K8 := K0.wr W8 (Or.inl (List.mem_of_getElem? (i := 0) rfl))
  have N8 := Fr.snoc X8 N6 (by omega)
  have f9 := P0.wr W8
  have f10 := P2.other W8 (Or.inr (slot_ne (a0 := a0) (t := (.object "java/util/Set")) (t' := .float) (Or.inl (w_227 hw)) (Or.inr (w_100 hw)) (by decide) (by decide) (by decide)))
  have f11 := P3.other W8 (Or.inr (slot_ne (a0 := a0) (t := .int) (t' := .float) (Or.inl (w_271 hw)) (Or.inr (w_100 hw)) (by decide) (by decide) (by decide)))
  have f12 := P4.other W8 (Or.inr (slot_ne (a0 := a0) (t := (.array (.object "java/util/HashMap$Node"))) (t' := .float) (Or.inl (w_275 hw)) (Or.inr (w_100 hw)) (by decide) (by decide) (by decide)))
  refine ⟨_, _, _, _, none, X8, by decide, by decide, fun _ => rfl, ?_, fun fs hr => castTop (ef_2 m a_) ?_⟩
  · show Q_hmi Z a_ h0 n0 _ T8.heap _
    rw [(e8 : T8.heap = h8)]
    exact ⟨rfl, N8, K8, f9, f10, f11, f12⟩
  · show Steps _ _ _ (s₁.setTop (mkF m 0 #[vA a_] [])) _
    refine XS.aloadN X0.here hx rfl (hb hby d266) rfl rfl ?_
    refine st6.trans ?_
    show Steps _ _ _ (T6.setTop (mkF m 4 #[vA a_] [])) _
    refine XS.aloadN X6.here hx rfl (hb hby d268) rfl rfl ?_
    refine X6.ldcFloatC hx hown (mvT hZ (w_98 hw)) (g := (mkF m 5 #[vA a_] [(.ref a_)])) rfl (hb hby d269) _ ?_
    show Steps _ _ _ (T6.setTop (mkF m 7 #[vA a_] [(.float 1061158912), (.ref a_)])) _
    refine st8 _ ?_
    show Steps _ _ _ (T8.setTop (mkF m 10 #[vA a_] [])) _
    exact X8.returnOut hx hret (hb hby d271) hr
theorem w_212 {Z : State} {a0 : Array Value} (hw : HW Z a0) : (Jvm.Cond.laysFinal "java/util/LinkedHashMap" "java/util/HashMap" "loadFactor" "F").before a0 Z = true := hw _ (List.mem_of_getElem? (i := 212) rfl)
theorem w_203 {Z : State} {a0 : Array Value} (hw : HW Z a0) : (Jvm.Cond.instantiable "java/util/LinkedHashMap" (12 : Nat)).before a0 Z = true := hw _ (List.mem_of_getElem? (i := 203) rfl)
theorem w_214 {Z : State} {a0 : Array Value} (hw : HW Z a0) : (Jvm.Cond.lays "java/util/LinkedHashMap" "java/util/LinkedHashMap" "putMode" "I").before a0 Z = true := hw _ (List.mem_of_getElem? (i := 214) rfl)
theorem w_216 {Z : State} {a0 : Array Value} (hw : HW Z a0) : (Jvm.Cond.laysFinal "java/util/LinkedHashMap" "java/util/LinkedHashMap" "accessOrder" "Z").before a0 Z = true := hw _ (List.mem_of_getElem? (i := 216) rfl)
def Q_hml (Z : State) (a_ : Addr) (h0 : Heap) (n0 : Nat) (v : Option Value) (h : Heap) (L : List Loc) : Prop := (v = none) ∧ (Fr n0 L) ∧ (Keep h0 h [a_]) ∧ (Exa Z h a_ "java/util/LinkedHashMap") ∧ (Fld Z h a_ "java/util/LinkedHashMap" "putMode" "I" (.int 0)) ∧ (Fld Z h a_ "java/util/LinkedHashMap" "accessOrder" "Z" (.int 0))
theorem rm_hml (l : Launch) (Z : State) (a0 : Array Value) (hw : HW Z a0) (ws : List Jvm.Cond) (a_ : Addr) (h0 : Heap) (n0 : Nat) (Z0 : n0 ≤ h0.size) (P0 : Exa Z h0 a_ "java/util/LinkedHashMap") (P1 : Fld Z h0 a_ "java/util/HashMap" "loadFactor" "F" (.float 0)) (P2 : Fld Z h0 a_ "java/util/LinkedHashMap" "putMode" "I" (.int 0)) (P3 : Fld Z h0 a_ "java/util/LinkedHashMap" "accessOrder" "Z" (.int 0)) (P4 : n0 ≤ a_) :
    MF l Z m_34 jdk_69_method_7_code 1 none ws (oR 2 0 0 24) #[(.ref a_)] h0 (Q_hml Z a_ h0 n0) := by
  refine own_body (cls := "java/util/HashMap") (plainFor_of_name pn_16) rfl (fun p e s m below meth c s₁ hx hby hml hown hnm hret hZ X0 e0 => ?_)
  have N0 := Fr.nil n0
  have K0 := Keep.refl h0 [a_]
  have lt1 := own_l P0.lt
  have lt2 := own_l P1.lt
  have lt3 := own_l P2.lt
  have lt4 := own_l P3.lt
  obtain ⟨_, _, ⟨T5, L5, k5, n5⟩, -, X5, ⟨Lc5, hQ5, l5, y5, z5⟩, st5⟩ := X0.specialBack hx (y := m_33) rfl hown (mvT hZ (w_91 hw)) (mvT hZ (w_92 hw)) (mvT hZ (w_96 hw)) (by decide) (backOf (W := 0) (rm_abm l Z a0 hw [] a_ h0 n0 (by omega) ) hZ (w_96 hw) (w_95 hw) (by decide) (by decide)) (g := (mkF m 1 #[vA a_] [(.ref a_)])) rfl (by rw [hml]; rfl) (Steps.refl _) (a := a_) (argsL := []) (rest := []) (lenOf pd_3 rfl) rfl (Nat.le_of_eq rfl) (hb hby d267) (fun _ _ => ⟨rfl, e0, (by decide : 0 + 0 ≤ _), (by decide : 0 + 0 ≤ _)⟩)
  dsimp only [Pt.U, Pt.locs, Pt.cells, Pt.slots] at X5 l5 y5 z5 st5 hQ5
  rw [l5, y5, z5] at X5
  obtain ⟨rfl, Nq5, Kq5⟩ := hQ5
  have N5 := Fr.app N0 Nq5
  obtain ⟨T7, h7, X7, e7, W7, st7⟩ := putF X5 hx hZ hown (host := "") (Or.inl (w_99 hw)) Via.refl Kq5 P1 P0 (Or.inr ⟨(w_212 hw), rfl, hnm⟩) (w_203 hw) (ty := .float) (by decide) rfl rfl (g := (mkF m 7 #[vA a_] [(.float 1061158912), (.ref a_)])) rfl rfl (hb hby d270)
  have F7 := P1.same W7
  have z7 := W7.size
  have K7 := K0.wr W7 (Or.inl (List.mem_of_getElem? (i := 0) rfl))
  have N7 := Fr.snoc X7 N5 (by omega)
  have f8 := P0.wr W7
  have f9 := P2.other W7 (Or.inr (slot_ne (a0 := a0) (t := .int) (t' := .float) (Or.inl (w_214 hw)) (Or.inr (w_212 hw)) (by decide) (by decide) (by decide)))
  have f10 := P3.other W7 (Or.inr (slot_ne (a0 := a0) (t := .boolean) (t' := .float) (Or.inr (w_216 hw)) (Or.inr (w_212 hw)) (by decide) (by decide) (by decide)))
  refine ⟨_, _, _, _, none, X7, by decide, by decide, fun _ => rfl, ?_, fun fs hr => castTop (ef_2 m a_) ?_⟩
  · show Q_hml Z a_ h0 n0 _ T7.heap _
    rw [(e7 : T7.heap = h7)]
    exact ⟨rfl, N7, K7, f8, f9, f10⟩
  · show Steps _ _ _ (s₁.setTop (mkF m 0 #[vA a_] [])) _
    refine XS.aloadN X0.here hx rfl (hb hby d266) rfl rfl ?_
    refine st5.trans ?_
    show Steps _ _ _ (T5.setTop (mkF m 4 #[vA a_] [])) _
    refine XS.aloadN X5.here hx rfl (hb hby d268) rfl rfl ?_
    refine X5.ldcFloatC hx hown (mvT hZ (w_98 hw)) (g := (mkF m 5 #[vA a_] [(.ref a_)])) rfl (hb hby d269) _ ?_
    show Steps _ _ _ (T5.setTop (mkF m 7 #[vA a_] [(.float 1061158912), (.ref a_)])) _
    refine st7 _ ?_
    show Steps _ _ _ (T7.setTop (mkF m 10 #[vA a_] [])) _
    exact X7.returnOut hx hret (hb hby d271) hr
theorem d272 : decode jdk_94_method_16_code 0 = .ok (.aload_n 0, 1) := by decide +kernel
theorem w_208 {Z : State} {a0 : Array Value} (hw : HW Z a0) : (Jvm.Cond.methodLink "java/util/LinkedHashMap" (87 : Nat) m_34).before a0 Z = true := hw _ (List.mem_of_getElem? (i := 208) rfl)
theorem w_90 {Z : State} {a0 : Array Value} (hw : HW Z a0) : (Jvm.Cond.code m_34 jdk_69_method_7_code (1 : Nat) (Option.none : Option Jvm.ClassFile.FieldType)).before a0 Z = true := hw _ (List.mem_of_getElem? (i := 90) rfl)
theorem w_87 {Z : State} {a0 : Array Value} (hw : HW Z a0) : (Jvm.Cond.initialized "java/util/HashMap").before a0 Z = true := hw _ (List.mem_of_getElem? (i := 87) rfl)
theorem d273 : decode jdk_94_method_16_code 1 = .ok (.invokespecial 87, 3) := by decide +kernel
theorem w_89 {Z : State} {a0 : Array Value} (hw : HW Z a0) : (Jvm.Cond.instanceMethod m_34).before a0 Z = true := hw _ (List.mem_of_getElem? (i := 89) rfl)
theorem d274 : decode jdk_94_method_16_code 4 = .ok (.aload_n 0, 1) := by decide +kernel
theorem d275 : decode jdk_94_method_16_code 5 = .ok (.iconst 0, 1) := by decide +kernel
theorem w_213 {Z : State} {a0 : Array Value} (hw : HW Z a0) : (Jvm.Cond.fieldLink "java/util/LinkedHashMap" (1 : Nat) "java/util/LinkedHashMap" "putMode" "I").before a0 Z = true := hw _ (List.mem_of_getElem? (i := 213) rfl)
theorem d276 : decode jdk_94_method_16_code 6 = .ok (.putfield 1, 3) := by decide +kernel
theorem d277 : decode jdk_94_method_16_code 9 = .ok (.aload_n 0, 1) := by decide +kernel
theorem d278 : decode jdk_94_method_16_code 10 = .ok (.iconst 0, 1) := by decide +kernel
theorem w_215 {Z : State} {a0 : Array Value} (hw : HW Z a0) : (Jvm.Cond.fieldLink "java/util/LinkedHashMap" (64 : Nat) "java/util/LinkedHashMap" "accessOrder" "Z").before a0 Z = true := hw _ (List.mem_of_getElem? (i := 215) rfl)
theorem d279 : decode jdk_94_method_16_code 11 = .ok (.putfield 64, 3) := by decide +kernel
theorem d280 : decode jdk_94_method_16_code 14 = .ok (.return_, 1) := by decide +kernel
theorem pn_17 : plainName "java/util/LinkedHashMap" = true := by first | (simp [plainName, overriddenIn]; done) | decide +kernel
abbrev m_35 : MethodName := (⟨"java/util/LinkedHashMap", "<init>", "()V"⟩ : MethodName)
def Q_lhm (Z : State) (a_ : Addr) (h0 : Heap) (n0 : Nat) (v : Option Value) (h : Heap) (L : List Loc) : Prop := (v = none) ∧ (Fr n0 L) ∧ (Keep h0 h [a_]) ∧ (Exa Z h a_ "java/util/LinkedHashMap")
theorem rm_lhm (l : Launch) (Z : State) (a0 : Array Value) (hw : HW Z a0) (ws : List Jvm.Cond) (a_ : Addr) (h0 : Heap) (n0 : Nat) (Z0 : n0 ≤ h0.size) (P0 : Exa Z h0 a_ "java/util/LinkedHashMap") (P1 : Fld Z h0 a_ "java/util/HashMap" "loadFactor" "F" (.float 0)) (P2 : Fld Z h0 a_ "java/util/LinkedHashMap" "putMode" "I" (.int 0)) (P3 : Fld Z h0 a_ "java/util/LinkedHashMap" "accessOrder" "Z" (.int 0)) (P4 : n0 ≤ a_) :
    MF l Z m_35 jdk_94_method_16_code 1 none ws (oR 3 0 0 36) #[(.ref a_)] h0 (Q_lhm Z a_ h0 n0) := by
  refine own_body (cls := "java/util/LinkedHashMap") (plainFor_of_name pn_17) rfl (fun p e s m below meth c s₁ hx hby hml hown hnm hret hZ X0 e0 => ?_)
  have N0 := Fr.nil n0
  have K0 := Keep.refl h0 [a_]
  have lt1 := own_l P0.lt
  have lt2 := own_l P1.lt
  have lt3 := own_l P2.lt
  have lt4 := own_l P3.lt
  obtain ⟨_, _, ⟨T5, L5, k5, n5⟩, -, X5, ⟨Lc5, hQ5, l5, y5, z5⟩, st5⟩ := X0.specialBack hx (y := m_34) rfl hown (mvT hZ (w_208 hw)) (mvT hZ (w_89 hw)) (mvT hZ (w_90 hw)) (by decide) (backOf (W := 0) (rm_hml l Z a0 hw [] a_ h0 n0 (by omega) P0 P1 P2 P3 (by omega)) hZ (w_90 hw) (w_87 hw) (by decide) (by decide)) (g := (mkF m 1 #[vA a_] [(.ref a_)])) rfl (by rw [hml]; rfl) (Steps.refl _) (a := a_) (argsL := []) (rest := []) (lenOf pd_3 rfl) rfl (Nat.le_of_eq rfl) (hb hby d273) (fun _ _ => ⟨rfl, e0, (by decide : 0 + 0 ≤ _), (by decide : 0 + 0 ≤ _)⟩)
  dsimp only [Pt.U, Pt.locs, Pt.cells, Pt.slots] at X5 l5 y5 z5 st5 hQ5
  rw [l5, y5, z5] at X5
  obtain ⟨rfl, Nq5, Kq5, r5_0, r5_1, r5_2⟩ := hQ5
  have N5 := Fr.app N0 Nq5
  have z5' := Kq5.1
  have K5 := K0.trans Kq5 (allS (Or.inl (List.mem_of_getElem? (i := 0) rfl)) all0)
  have lt6 := own_l r5_0.lt
  have lt7 := own_l r5_1.lt
  have lt8 := own_l r5_2.lt
  obtain ⟨T9, h9, X9, e9, W9, st9⟩ := putF X5 hx hZ hown (host := "") (Or.inl (w_213 hw)) Via.refl rfl r5_1 r5_0 (Or.inl (w_214 hw)) (w_203 hw) (ty := .int) (by decide) rfl rfl (g := (mkF m 6 #[vA a_] [(.int 0), (.ref a_)])) rfl rfl (hb hby d276)
  have F9 := r5_1.same W9
  have z9 := W9.size
  have K9 := K5.wr W9 (Or.inl (List.mem_of_getElem? (i := 0) rfl))
  have N9 := Fr.snoc X9 N5 (by omega)
  have f11 := r5_2.other W9 (Or.inr (slot_ne (a0 := a0) (t := .boolean) (t' := .int) (Or.inr (w_216 hw)) (Or.inl (w_214 hw)) (by decide) (by decide) (by decide)))
  have f12 := r5_0.wr W9
  obtain ⟨T10, h10, X10, e10, W10, st10⟩ := putFN X9 hx hZ hown (w_215 hw) Via.refl e9 f11 f12 (Or.inr ⟨(w_216 hw), rfl, hnm⟩) (w_203 hw) (ty := .boolean) (v' := (.int 0)) (by decide) rfl rfl (g := (mkF m 11 #[vA a_] [(.int 0), (.ref a_)])) rfl rfl (hb hby d279)
  have F10 := f11.same W10
  have z10 := W10.size
  have K10 := K9.wr W10 (Or.inl (List.mem_of_getElem? (i := 0) rfl))
  have N10 := Fr.snoc X10 N9 (by omega)
  have f13 := f12.wr W10
  refine ⟨_, _, _, _, none, X10, by decide, by decide, fun _ => rfl, ?_, fun fs hr => castTop (ef_2 m a_) ?_⟩
  · show Q_lhm Z a_ h0 n0 _ T10.heap _
    rw [(e10 : T10.heap = h10)]
    exact ⟨rfl, N10, K10, f13⟩
  · show Steps _ _ _ (s₁.setTop (mkF m 0 #[vA a_] [])) _
    refine XS.aloadN X0.here hx rfl (hb hby d272) rfl rfl ?_
    refine st5.trans ?_
    show Steps _ _ _ (T5.setTop (mkF m 4 #[vA a_] [])) _
    refine XS.aloadN X5.here hx rfl (hb hby d274) rfl rfl ?_
    refine XS.iconst X5.here hx rfl (hb hby d275) ?_
    refine st9 _ ?_
    show Steps _ _ _ (T9.setTop (mkF m 9 #[vA a_] [])) _
    refine XS.aloadN X9.here hx rfl (hb hby d277) rfl rfl ?_
    refine XS.iconst X9.here hx rfl (hb hby d278) ?_
    refine st10 _ ?_
    show Steps _ _ _ (T10.setTop (mkF m 14 #[vA a_] [])) _
    exact X10.returnOut hx hret (hb hby d280) hr
theorem d281 : decode jdk_91_method_1_code 0 = .ok (.aload_n 0, 1) := by decide +kernel
theorem w_243 {Z : State} {a0 : Array Value} (hw : HW Z a0) : (Jvm.Cond.methodLink "java/util/AbstractSet" (1 : Nat) m_5).before a0 Z = true := hw _ (List.mem_of_getElem? (i := 243) rfl)
theorem d282 : decode jdk_91_method_1_code 1 = .ok (.invokespecial 1, 3) := by decide +kernel
theorem d283 : decode jdk_91_method_1_code 4 = .ok (.return_, 1) := by decide +kernel
theorem pn_18 : plainName "java/util/AbstractSet" = true := by first | (simp [plainName, overriddenIn]; done) | decide +kernel
abbrev m_36 : MethodName := (⟨"java/util/AbstractSet", "<init>", "()V"⟩ : MethodName)
def Q_abs (Z : State) (a_ : Addr) (h0 : Heap) (n0 : Nat) (v : Option Value) (h : Heap) (L : List Loc) : Prop := (v = none) ∧ (Fr n0 L) ∧ (h = h0)
theorem rm_abs (l : Launch) (Z : State) (a0 : Array Value) (hw : HW Z a0) (ws : List Jvm.Cond) (a_ : Addr) (h0 : Heap) (n0 : Nat) (Z0 : n0 ≤ h0.size) :
    MF l Z m_36 jdk_91_method_1_code 1 none ws (oR 2 0 0 24) #[(.ref a_)] h0 (Q_abs Z a_ h0 n0) := by
  refine own_body (cls := "java/util/AbstractSet") (plainFor_of_name pn_18) rfl (fun p e s m below meth c s₁ hx hby hml hown hnm hret hZ X0 e0 => ?_)
  have N0 := Fr.nil n0
  obtain ⟨_, _, ⟨T1, L1, k1, n1⟩, -, X1, ⟨Lc1, hQ1, l1, y1, z1⟩, st1⟩ := X0.specialBack hx (y := m_5) rfl hown (mvT hZ (w_243 hw)) (mvT hZ (w_39 hw)) (mvT hZ (w_43 hw)) (by decide) (backOf (W := 0) (rm_aci l Z a0 hw [] a_ h0 n0 (by omega) ) hZ (w_43 hw) (w_42 hw) (by decide) (by decide)) (g := (mkF m 1 #[vA a_] [(.ref a_)])) rfl (by rw [hml]; rfl) (Steps.refl _) (a := a_) (argsL := []) (rest := []) (lenOf pd_3 rfl) rfl (Nat.le_of_eq rfl) (hb hby d282) (fun _ _ => ⟨rfl, e0, (by decide : 0 + 0 ≤ _), (by decide : 0 + 0 ≤ _)⟩)
  dsimp only [Pt.U, Pt.locs, Pt.cells, Pt.slots] at X1 l1 y1 z1 st1 hQ1
  rw [l1, y1, z1] at X1
  obtain ⟨rfl, Nq1, Kq1⟩ := hQ1
  have N1 := Fr.app N0 Nq1
  refine ⟨_, _, _, _, none, X1, by decide, by decide, fun _ => rfl, ?_, fun fs hr => castTop (ef_2 m a_) ?_⟩
  · show Q_abs Z a_ h0 n0 _ T1.heap _
    rw [(Kq1 : T1.heap = h0)]
    exact ⟨rfl, N1, rfl⟩
  · show Steps _ _ _ (s₁.setTop (mkF m 0 #[vA a_] [])) _
    refine XS.aloadN X0.here hx rfl (hb hby d281) rfl rfl ?_
    refine st1.trans ?_
    show Steps _ _ _ (T1.setTop (mkF m 4 #[vA a_] [])) _
    exact X1.returnOut hx hret (hb hby d283) hr
theorem d284 : decode jdk_111_method_1_code 0 = .ok (.aload_n 0, 1) := by decide +kernel
theorem d285 : decode jdk_111_method_1_code 1 = .ok (.aload_n 1, 1) := by decide +kernel
theorem w_235 {Z : State} {a0 : Array Value} (hw : HW Z a0) : (Jvm.Cond.fieldLink "java/util/HashMap$EntrySet" (1 : Nat) "java/util/HashMap$EntrySet" "this$0" "Ljava/util/HashMap;").before a0 Z = true := hw _ (List.mem_of_getElem? (i := 235) rfl)
theorem w_236 {Z : State} {a0 : Array Value} (hw : HW Z a0) : (Jvm.Cond.laysFinal "java/util/HashMap$EntrySet" "java/util/HashMap$EntrySet" "this$0" "Ljava/util/HashMap;").before a0 Z = true := hw _ (List.mem_of_getElem? (i := 236) rfl)
theorem w_229 {Z : State} {a0 : Array Value} (hw : HW Z a0) : (Jvm.Cond.instantiable "java/util/HashMap$EntrySet" (1 : Nat)).before a0 Z = true := hw _ (List.mem_of_getElem? (i := 229) rfl)
theorem d286 : decode jdk_111_method_1_code 2 = .ok (.putfield 1, 3) := by decide +kernel
theorem d287 : decode jdk_111_method_1_code 5 = .ok (.aload_n 0, 1) := by decide +kernel
theorem w_237 {Z : State} {a0 : Array Value} (hw : HW Z a0) : (Jvm.Cond.methodLink "java/util/HashMap$EntrySet" (7 : Nat) m_36).before a0 Z = true := hw _ (List.mem_of_getElem? (i := 237) rfl)
theorem w_242 {Z : State} {a0 : Array Value} (hw : HW Z a0) : (Jvm.Cond.code m_36 jdk_91_method_1_code (1 : Nat) (Option.none : Option Jvm.ClassFile.FieldType)).before a0 Z = true := hw _ (List.mem_of_getElem? (i := 242) rfl)
theorem w_241 {Z : State} {a0 : Array Value} (hw : HW Z a0) : (Jvm.Cond.initialized "java/util/AbstractSet").before a0 Z = true := hw _ (List.mem_of_getElem? (i := 241) rfl)
theorem d288 : decode jdk_111_method_1_code 6 = .ok (.invokespecial 7, 3) := by decide +kernel
theorem w_238 {Z : State} {a0 : Array Value} (hw : HW Z a0) : (Jvm.Cond.instanceMethod m_36).before a0 Z = true := hw _ (List.mem_of_getElem? (i := 238) rfl)
theorem d289 : decode jdk_111_method_1_code 9 = .ok (.return_, 1) := by decide +kernel
theorem pn_19 : plainName "java/util/HashMap$EntrySet" = true := by first | (simp [plainName, overriddenIn]; done) | decide +kernel
abbrev m_37 : MethodName := (⟨"java/util/HashMap$EntrySet", "<init>", "(Ljava/util/HashMap;)V"⟩ : MethodName)
def Q_esi (Z : State) (a_ : Addr) (mp : Addr) (h0 : Heap) (n0 : Nat) (v : Option Value) (h : Heap) (L : List Loc) : Prop := (v = none) ∧ (Fr n0 L) ∧ (Keep h0 h [a_]) ∧ (Exa Z h a_ "java/util/HashMap$EntrySet") ∧ (Fld Z h a_ "java/util/HashMap$EntrySet" "this$0" "Ljava/util/HashMap;" (.ref mp))
theorem rm_esi (l : Launch) (Z : State) (a0 : Array Value) (hw : HW Z a0) (ws : List Jvm.Cond) (a_ : Addr) (mp : Addr) (h0 : Heap) (n0 : Nat) (Z0 : n0 ≤ h0.size) (P0 : Exa Z h0 a_ "java/util/HashMap$EntrySet") (P1 : Fld Z h0 a_ "java/util/HashMap$EntrySet" "this$0" "Ljava/util/HashMap;" .null) (P2 : n0 ≤ a_) :
    MF l Z m_37 jdk_111_method_1_code 2 none ws (oR 3 0 0 36) #[(.ref a_), (.ref mp)] h0 (Q_esi Z a_ mp h0 n0) := by
  refine own_body (cls := "java/util/HashMap$EntrySet") (plainFor_of_name pn_19) rfl (fun p e s m below meth c s₁ hx hby hml hown hnm hret hZ X0 e0 => ?_)
  have N0 := Fr.nil n0
  have K0 := Keep.refl h0 [a_]
  have lt1 := own_l P0.lt
  have lt2 := own_l P1.lt
  obtain ⟨T3, h3, X3, e3, W3, st3⟩ := putF X0 hx hZ hown (host := "") (Or.inl (w_235 hw)) Via.refl e0 P1 P0 (Or.inr ⟨(w_236 hw), rfl, hnm⟩) (w_229 hw) (ty := (.object "java/util/HashMap")) (by decide) rfl rfl (g := (mkF m 2 #[vA a_, vA mp] [(.ref mp), (.ref a_)])) rfl rfl (hb hby d286)
  have F3 := P1.same W3
  have z3 := W3.size
  have K3 := K0.wr W3 (Or.inl (List.mem_of_getElem? (i := 0) rfl))
  have N3 := Fr.snoc X3 N0 (by omega)
  obtain ⟨_, _, ⟨T4, L4, k4, n4⟩, -, X4, ⟨Lc4, hQ4, l4, y4, z4⟩, st4⟩ := X3.specialBack hx (y := m_36) rfl hown (mvT hZ (w_237 hw)) (mvT hZ (w_238 hw)) (mvT hZ (w_242 hw)) (by decide) (backOf (W := 0) (rm_abs l Z a0 hw [] a_ h3 n0 (by omega) ) hZ (w_242 hw) (w_241 hw) (by decide) (by decide)) (g := (mkF m 6 #[vA a_, vA mp] [(.ref a_)])) rfl (by rw [hml]; rfl) (Steps.refl _) (a := a_) (argsL := []) (rest := []) (lenOf pd_3 rfl) rfl (Nat.le_of_eq rfl) (hb hby d288) (fun _ _ => ⟨rfl, e3, (by decide : 0 + 0 ≤ _), (by decide : 0 + 0 ≤ _)⟩)
  dsimp only [Pt.U, Pt.locs, Pt.cells, Pt.slots] at X4 l4 y4 z4 st4 hQ4
  rw [l4, y4, z4] at X4
  obtain ⟨rfl, Nq4, Kq4⟩ := hQ4
  have N4 := Fr.app N3 Nq4
  have f5 := P0.wr W3
  refine ⟨_, _, _, _, none, X4, by decide, by decide, fun _ => rfl, ?_, fun fs hr => castTop (ef_6 m a_ mp) ?_⟩
  · show Q_esi Z a_ mp h0 n0 _ T4.heap _
    rw [(Kq4 : T4.heap = h3)]
    exact ⟨rfl, N4, K3, f5, F3⟩
  · show Steps _ _ _ (s₁.setTop (mkF m 0 #[vA a_, vA mp] [])) _
    refine XS.aloadN X0.here hx rfl (hb hby d284) rfl rfl ?_
    refine XS.aloadN X0.here hx rfl (hb hby d285) rfl rfl ?_
    refine st3 _ ?_
    show Steps _ _ _ (T3.setTop (mkF m 5 #[vA a_, vA mp] [])) _
    refine XS.aloadN X3.here hx rfl (hb hby d287) rfl rfl ?_
    refine st4.trans ?_
    show Steps _ _ _ (T4.setTop (mkF m 9 #[vA a_, vA mp] [])) _
    exact X4.returnOut hx hret (hb hby d289) hr
theorem d290 : decode jdk_69_method_29_code 0 = .ok (.aload_n 0, 1) := by decide +kernel
theorem w_226 {Z : State} {a0 : Array Value} (hw : HW Z a0) : (Jvm.Cond.fieldLink "java/util/HashMap" (266 : Nat) "java/util/HashMap" "entrySet" "Ljava/util/Set;").before a0 Z = true := hw _ (List.mem_of_getElem? (i := 226) rfl)
theorem d291 : decode jdk_69_method_29_code 1 = .ok (.getfield 266, 3) := by decide +kernel
theorem d292 : decode jdk_69_method_29_code 4 = .ok (.dup, 1) := by decide +kernel
theorem d293 : decode jdk_69_method_29_code 5 = .ok (.astore_n 1, 1) := by decide +kernel
theorem d294 : decode jdk_69_method_29_code 6 = .ok (.ifnonnull 19, 3) := by decide +kernel
theorem d295 : decode jdk_69_method_29_code 9 = .ok (.aload_n 0, 1) := by decide +kernel
theorem w_228 {Z : State} {a0 : Array Value} (hw : HW Z a0) : (Jvm.Cond.classLink "java/util/HashMap" (268 : Nat) "java/util/HashMap$EntrySet").before a0 Z = true := hw _ (List.mem_of_getElem? (i := 228) rfl)
theorem w_230 {Z : State} {a0 : Array Value} (hw : HW Z a0) : (Jvm.Cond.initialized "java/util/HashMap$EntrySet").before a0 Z = true := hw _ (List.mem_of_getElem? (i := 230) rfl)
theorem d296 : decode jdk_69_method_29_code 10 = .ok (.new 268, 3) := by decide +kernel
theorem d297 : decode jdk_69_method_29_code 13 = .ok (.dup, 1) := by decide +kernel
theorem d298 : decode jdk_69_method_29_code 14 = .ok (.aload_n 0, 1) := by decide +kernel
theorem w_231 {Z : State} {a0 : Array Value} (hw : HW Z a0) : (Jvm.Cond.methodLink "java/util/HashMap" (270 : Nat) m_37).before a0 Z = true := hw _ (List.mem_of_getElem? (i := 231) rfl)
theorem w_234 {Z : State} {a0 : Array Value} (hw : HW Z a0) : (Jvm.Cond.code m_37 jdk_111_method_1_code (2 : Nat) (Option.none : Option Jvm.ClassFile.FieldType)).before a0 Z = true := hw _ (List.mem_of_getElem? (i := 234) rfl)
theorem pd_18 : parseMethodDescriptor "(Ljava/util/HashMap;)V" = some ⟨[(.object "java/util/HashMap")], none⟩ := by decide +kernel
theorem d299 : decode jdk_69_method_29_code 15 = .ok (.invokespecial 270, 3) := by decide +kernel
theorem w_232 {Z : State} {a0 : Array Value} (hw : HW Z a0) : (Jvm.Cond.instanceMethod m_37).before a0 Z = true := hw _ (List.mem_of_getElem? (i := 232) rfl)
theorem d300 : decode jdk_69_method_29_code 18 = .ok (.dup_x1, 1) := by decide +kernel
theorem d301 : decode jdk_69_method_29_code 19 = .ok (.putfield 266, 3) := by decide +kernel
theorem d302 : decode jdk_69_method_29_code 22 = .ok (.goto 4, 3) := by decide +kernel
theorem d303 : decode jdk_69_method_29_code 26 = .ok (.areturn, 1) := by decide +kernel
abbrev m_38 : MethodName := (⟨"java/util/HashMap", "entrySet", "()Ljava/util/Set;"⟩ : MethodName)
def Q_ets (Z : State) (mp : Addr) (h0 : Heap) (n0 : Nat) (v : Option Value) (h : Heap) (L : List Loc) : Prop := ∃ (b : Addr), (v = some (.ref b)) ∧ (Fr n0 L) ∧ (Keep h0 h [mp]) ∧ (h0.size ≤ b) ∧ (Exa Z h b "java/util/HashMap$EntrySet") ∧ (Fld Z h b "java/util/HashMap$EntrySet" "this$0" "Ljava/util/HashMap;" (.ref mp)) ∧ (fld6 Z h mp (.int 0)) ∧ (fld7 Z h mp .null)
theorem rm_ets (l : Launch) (Z : State) (a0 : Array Value) (hw : HW Z a0) (ws : List Jvm.Cond) (mp : Addr) (h0 : Heap) (n0 : Nat) (Z0 : n0 ≤ h0.size) (P0 : Exa Z h0 mp "java/util/HashMap") (P1 : fld5 Z h0 mp .null) (P2 : fld6 Z h0 mp (.int 0)) (P3 : fld7 Z h0 mp .null) (P4 : n0 ≤ mp) :
    MF l Z m_38 jdk_69_method_29_code 2 (some (.object "java/util/Set")) ws (oR 4 1 1 51) #[(.ref mp)] h0 (Q_ets Z mp h0 n0) := by
  refine own_body (cls := "java/util/HashMap") (plainFor_of_name pn_16) rfl (fun p e s m below meth c s₁ hx hby hml hown hnm hret hZ X0 e0 => ?_)
  have N0 := Fr.nil n0
  have K0 := Keep.refl h0 [mp]
  have lt1 := own_l P0.lt
  have lt2 := own_l P1.lt
  have lt3 := own_l P2.lt
  have lt4 := own_l P3.lt
  obtain ⟨T5, X5, e5, st5⟩ := getF X0 hx hZ hown (host := "") (Or.inl (w_226 hw)) Via.refl e0 P1 (g := (mkF m 1 #[vA mp, .unset] [(.ref mp)])) rfl rfl (hb hby d291)
  obtain ⟨T6, h6, X6, e6, E6, A6, D6, -, st6⟩ := newO X5 hx hZ hown (w_228 hw) (w_229 hw) (w_230 hw) e5 (g := (mkF m 10 #[vA mp, .val .null] [(.ref mp)])) rfl (hb hby d296) (by decide) (by decide)
  obtain ⟨b6, g6⟩ : ∃ z, z = h0.size := ⟨_, rfl⟩
  rw [← g6] at A6 D6 st6
  have z6 := E6.1
  have K6 := K0.ext E6
  have lt7 := own_l A6.lt
  have F6_236 : Fld Z h6 b6 "java/util/HashMap$EntrySet" "this$0" "Ljava/util/HashMap;" .null := D6 (Or.inr (w_236 hw)) (ty := (.object "java/util/HashMap")) (by decide)
  obtain ⟨_, _, ⟨T8, L8, k8, n8⟩, -, X8, ⟨Lc8, hQ8, l8, y8, z8⟩, st8⟩ := X6.specialBack hx (y := m_37) rfl hown (mvT hZ (w_231 hw)) (mvT hZ (w_232 hw)) (mvT hZ (w_234 hw)) (by decide) (backOf (W := 2) (rm_esi l Z a0 hw [] b6 mp h6 n0 (by omega) A6 F6_236 (by omega)) hZ (w_234 hw) (w_230 hw) (by decide) (by decide)) (g := (mkF m 15 #[vA mp, .val .null] [(.ref mp), (.ref b6), (.ref b6), (.ref mp)])) rfl (by rw [hml]; rfl) (Steps.refl _) (a := b6) (argsL := [(.ref mp)]) (rest := [(.ref b6), (.ref mp)]) (lenOf pd_18 rfl) rfl (Nat.le_of_eq rfl) (hb hby d299) (fun _ _ => ⟨rfl, e6, (by decide : 1 + 0 ≤ _), (by decide : 1 + 0 ≤ _)⟩)
  dsimp only [Pt.U, Pt.locs, Pt.cells, Pt.slots] at X8 l8 y8 z8 st8 hQ8
  rw [l8, y8, z8] at X8
  obtain ⟨rfl, Nq8, Kq8, r8_0, r8_1⟩ := hQ8
  have N8 := Fr.app N0 Nq8
  have z8' := Kq8.1
  have K8 := K6.trans Kq8 (allS (Or.inr (by omega)) all0)
  have lt9 := own_l r8_0.lt
  have lt10 := own_l r8_1.lt
  have f12 := P1.ext E6
  have f13 := f12.keep Kq8 (ninS (own_ne (by omega)) nin0)
  have f14 := P0.ext E6
  have f15 := f14.keep Kq8
  obtain ⟨T11, h11, X11, e11, W11, st11⟩ := putF X8 hx hZ hown (host := "") (Or.inl (w_226 hw)) Via.refl rfl f13 f15 (Or.inl (w_227 hw)) (w_86 hw) (ty := (.object "java/util/Set")) (by decide) rfl rfl (g := (mkF m 19 #[vA mp, .val .null] [(.ref b6), (.ref mp), (.ref b6)])) rfl rfl (hb hby d301)
  have F11 := f13.same W11
  have z11 := W11.size
  have K11 := K8.wr W11 (Or.inl (List.mem_of_getElem? (i := 0) rfl))
  have N11 := Fr.snoc X11 N8 (by omega)
  have f16 := r8_0.wr W11
  have f17 := r8_1.other W11 (Or.inl (own_ne (by omega)))
  have f18 := P2.ext E6
  have f19 := f18.keep Kq8 (ninS (own_ne (by omega)) nin0)
  have f20 := f19.other W11 (Or.inr (slot_ne (a0 := a0) (t := .int) (t' := (.object "java/util/Set")) (Or.inl (w_271 hw)) (Or.inl (w_227 hw)) (by decide) (by decide) (by decide)))
  have f21 := P3.ext E6
  have f22 := f21.keep Kq8 (ninS (own_ne (by omega)) nin0)
  have f23 := f22.other W11 (Or.inr (slot_ne (a0 := a0) (t := (.array (.object "java/util/HashMap$Node"))) (t' := (.object "java/util/Set")) (Or.inl (w_275 hw)) (Or.inl (w_227 hw)) (by decide) (by decide) (by decide)))
  refine ⟨_, _, _, _, some (.ref b6), X11, by decide, by decide, nofun, ?_, fun fs hr => castTop (ef_8 m mp) ?_⟩
  · show Q_ets Z mp h0 n0 _ T11.heap _
    rw [(e11 : T11.heap = h11)]
    exact ⟨b6, rfl, N11, K11, (by omega), f16, f17, f20, f23⟩
  · show Steps _ _ _ (s₁.setTop (mkF m 0 #[vA mp, .unset] [])) _
    refine XS.aloadN X0.here hx rfl (hb hby d290) rfl rfl ?_
    refine st5 _ ?_
    show Steps _ _ _ (T5.setTop (mkF m 4 #[vA mp, .unset] [.null])) _
    refine XS.dup X5.here hx rfl (hb hby d292) rfl rfl ?_
    refine XS.astoreN X5.here hx rfl (hb hby d293) rfl rfl (l' := #[vA mp, .val .null]) rfl ?_
    refine XS.ifnonnullNo X5.here hx rfl (hb hby d294) rfl ?_
    refine XS.aloadN X5.here hx rfl (hb hby d295) rfl rfl ?_
    refine st6 _ ?_
    show Steps _ _ _ (T6.setTop (mkF m 13 #[vA mp, .val .null] [(.ref b6), (.ref mp)])) _
    refine XS.dup X6.here hx rfl (hb hby d297) rfl rfl ?_
    refine XS.aloadN X6.here hx rfl (hb hby d298) rfl rfl ?_
    refine st8.trans ?_
    show Steps _ _ _ (T8.setTop (mkF m 18 #[vA mp, .val .null] [(.ref b6), (.ref mp)])) _
    refine XS.dupX1 X8.here hx rfl (hb hby d300) rfl rfl rfl ?_
    refine st11 _ ?_
    show Steps _ _ _ (T11.setTop (mkF m 22 #[vA mp, .val .null] [(.ref b6)])) _
    refine XS.goto X11.here hx rfl (pc0 := 22) (pc' := 26) rfl (hb hby d302) (by decide) (by decide) ?_
    exact retOut X11 hx hret (own_narrow_ref rfl) (Or.inr (Or.inr (Or.inr (Or.inr ⟨rfl, rfl, rfl⟩)))) (hb hby d303) hr
theorem d304 : decode jdk_99_method_1_code 0 = .ok (.aload_n 0, 1) := by decide +kernel
theorem d305 : decode jdk_99_method_1_code 1 = .ok (.aload_n 1, 1) := by decide +kernel
theorem w_267 {Z : State} {a0 : Array Value} (hw : HW Z a0) : (Jvm.Cond.fieldLink "java/util/HashMap$HashIterator" (1 : Nat) "java/util/HashMap$HashIterator" "this$0" "Ljava/util/HashMap;").before a0 Z = true := hw _ (List.mem_of_getElem? (i := 267) rfl)
theorem w_268 {Z : State} {a0 : Array Value} (hw : HW Z a0) : (Jvm.Cond.laysFinal "java/util/HashMap$EntryIterator" "java/util/HashMap$HashIterator" "this$0" "Ljava/util/HashMap;").before a0 Z = true := hw _ (List.mem_of_getElem? (i := 268) rfl)
theorem w_255 {Z : State} {a0 : Array Value} (hw : HW Z a0) : (Jvm.Cond.instantiable "java/util/HashMap$EntryIterator" (5 : Nat)).before a0 Z = true := hw _ (List.mem_of_getElem? (i := 255) rfl)
theorem d306 : decode jdk_99_method_1_code 2 = .ok (.putfield 1, 3) := by decide +kernel
theorem d307 : decode jdk_99_method_1_code 5 = .ok (.aload_n 0, 1) := by decide +kernel
theorem w_269 {Z : State} {a0 : Array Value} (hw : HW Z a0) : (Jvm.Cond.methodLink "java/util/HashMap$HashIterator" (7 : Nat) m_2).before a0 Z = true := hw _ (List.mem_of_getElem? (i := 269) rfl)
theorem d308 : decode jdk_99_method_1_code 6 = .ok (.invokespecial 7, 3) := by decide +kernel
theorem d309 : decode jdk_99_method_1_code 9 = .ok (.aload_n 0, 1) := by decide +kernel
theorem d310 : decode jdk_99_method_1_code 10 = .ok (.aload_n 1, 1) := by decide +kernel
theorem w_270 {Z : State} {a0 : Array Value} (hw : HW Z a0) : (Jvm.Cond.fieldLink "java/util/HashMap$HashIterator" (13 : Nat) "java/util/HashMap" "modCount" "I").before a0 Z = true := hw _ (List.mem_of_getElem? (i := 270) rfl)
theorem d311 : decode jdk_99_method_1_code 11 = .ok (.getfield 13, 3) := by decide +kernel
theorem w_272 {Z : State} {a0 : Array Value} (hw : HW Z a0) : (Jvm.Cond.fieldLink "java/util/HashMap$HashIterator" (19 : Nat) "java/util/HashMap$HashIterator" "expectedModCount" "I").before a0 Z = true := hw _ (List.mem_of_getElem? (i := 272) rfl)
theorem w_273 {Z : State} {a0 : Array Value} (hw : HW Z a0) : (Jvm.Cond.lays "java/util/HashMap$EntryIterator" "java/util/HashMap$HashIterator" "expectedModCount" "I").before a0 Z = true := hw _ (List.mem_of_getElem? (i := 273) rfl)
theorem d312 : decode jdk_99_method_1_code 14 = .ok (.putfield 19, 3) := by decide +kernel
theorem d313 : decode jdk_99_method_1_code 17 = .ok (.aload_n 1, 1) := by decide +kernel
theorem w_274 {Z : State} {a0 : Array Value} (hw : HW Z a0) : (Jvm.Cond.fieldLink "java/util/HashMap$HashIterator" (22 : Nat) "java/util/HashMap" "table" "[Ljava/util/HashMap$Node;").before a0 Z = true := hw _ (List.mem_of_getElem? (i := 274) rfl)
theorem d314 : decode jdk_99_method_1_code 18 = .ok (.getfield 22, 3) := by decide +kernel
theorem d315 : decode jdk_99_method_1_code 21 = .ok (.astore_n 2, 1) := by decide +kernel
theorem d316 : decode jdk_99_method_1_code 22 = .ok (.aload_n 0, 1) := by decide +kernel
theorem d317 : decode jdk_99_method_1_code 23 = .ok (.aload_n 0, 1) := by decide +kernel
theorem d318 : decode jdk_99_method_1_code 24 = .ok (.aconst_null, 1) := by decide +kernel
theorem d319 : decode jdk_99_method_1_code 25 = .ok (.dup_x1, 1) := by decide +kernel
theorem w_276 {Z : State} {a0 : Array Value} (hw : HW Z a0) : (Jvm.Cond.fieldLink "java/util/HashMap$HashIterator" (26 : Nat) "java/util/HashMap$HashIterator" "next" "Ljava/util/HashMap$Node;").before a0 Z = true := hw _ (List.mem_of_getElem? (i := 276) rfl)
theorem w_277 {Z : State} {a0 : Array Value} (hw : HW Z a0) : (Jvm.Cond.lays "java/util/HashMap$EntryIterator" "java/util/HashMap$HashIterator" "next" "Ljava/util/HashMap$Node;").before a0 Z = true := hw _ (List.mem_of_getElem? (i := 277) rfl)
theorem d320 : decode jdk_99_method_1_code 26 = .ok (.putfield 26, 3) := by decide +kernel
theorem w_278 {Z : State} {a0 : Array Value} (hw : HW Z a0) : (Jvm.Cond.fieldLink "java/util/HashMap$HashIterator" (30 : Nat) "java/util/HashMap$HashIterator" "current" "Ljava/util/HashMap$Node;").before a0 Z = true := hw _ (List.mem_of_getElem? (i := 278) rfl)
theorem w_279 {Z : State} {a0 : Array Value} (hw : HW Z a0) : (Jvm.Cond.lays "java/util/HashMap$EntryIterator" "java/util/HashMap$HashIterator" "current" "Ljava/util/HashMap$Node;").before a0 Z = true := hw _ (List.mem_of_getElem? (i := 279) rfl)
theorem d321 : decode jdk_99_method_1_code 29 = .ok (.putfield 30, 3) := by decide +kernel
theorem d322 : decode jdk_99_method_1_code 32 = .ok (.aload_n 0, 1) := by decide +kernel
theorem d323 : decode jdk_99_method_1_code 33 = .ok (.iconst 0, 1) := by decide +kernel
theorem w_280 {Z : State} {a0 : Array Value} (hw : HW Z a0) : (Jvm.Cond.fieldLink "java/util/HashMap$HashIterator" (33 : Nat) "java/util/HashMap$HashIterator" "index" "I").before a0 Z = true := hw _ (List.mem_of_getElem? (i := 280) rfl)
theorem w_281 {Z : State} {a0 : Array Value} (hw : HW Z a0) : (Jvm.Cond.lays "java/util/HashMap$EntryIterator" "java/util/HashMap$HashIterator" "index" "I").before a0 Z = true := hw _ (List.mem_of_getElem? (i := 281) rfl)
theorem d324 : decode jdk_99_method_1_code 34 = .ok (.putfield 33, 3) := by decide +kernel
theorem d325 : decode jdk_99_method_1_code 37 = .ok (.aload_n 2, 1) := by decide +kernel
theorem d326 : decode jdk_99_method_1_code 38 = .ok (.ifnull 40, 3) := by decide +kernel
theorem d327 : decode jdk_99_method_1_code 78 = .ok (.return_, 1) := by decide +kernel
theorem pn_20 : plainName "java/util/HashMap$HashIterator" = true := by first | (simp [plainName, overriddenIn]; done) | decide +kernel
theorem ef_13 (m : MethodId) (x0 : Addr) (x1 : Addr) : entryFrame m #[(.ref x0), (.ref x1)] 3 = mkF m 0 #[vA x0, vA x1, .unset] [] := by first | (simp [entryFrame, mkF, argsToLocals, Value.category, maxLocals]; done) | rfl
abbrev m_39 : MethodName := (⟨"java/util/HashMap$HashIterator", "<init>", "(Ljava/util/HashMap;)V"⟩ : MethodName)
def Q_hii (Z : State) (a_ : Addr) (mp : Addr) (h0 : Heap) (n0 : Nat) (v : Option Value) (h : Heap) (L : List Loc) : Prop := (v = none) ∧ (Fr n0 L) ∧ (Keep h0 h [a_]) ∧ (Exa Z h a_ "java/util/HashMap$EntryIterator") ∧ (Fld Z h a_ "java/util/HashMap$HashIterator" "next" "Ljava/util/HashMap$Node;" .null)
theorem rm_hii (l : Launch) (Z : State) (a0 : Array Value) (hw : HW Z a0) (ws : List Jvm.Cond) (a_ : Addr) (mp : Addr) (h0 : Heap) (n0 : Nat) (Z0 : n0 ≤ h0.size) (P0 : Exa Z h0 a_ "java/util/HashMap$EntryIterator") (P1 : Fld Z h0 a_ "java/util/HashMap$HashIterator" "this$0" "Ljava/util/HashMap;" .null) (P2 : Fld Z h0 a_ "java/util/HashMap$HashIterator" "expectedModCount" "I" (.int 0)) (P3 : Fld Z h0 a_ "java/util/HashMap$HashIterator" "next" "Ljava/util/HashMap$Node;" .null) (P4 : Fld Z h0 a_ "java/util/HashMap$HashIterator" "current" "Ljava/util/HashMap$Node;" .null) (P5 : Fld Z h0 a_ "java/util/HashMap$HashIterator" "index" "I" (.int 0)) (P6 : fld6 Z h0 mp (.int 0)) (P7 : fld7 Z h0 mp .null) (P8 : n0 ≤ a_) (P9 : a_ ≠ mp) :
    MF l Z m_39 jdk_99_method_1_code 3 none ws (oR 1 0 0 12) #[(.ref a_), (.ref mp)] h0 (Q_hii Z a_ mp h0 n0) := by
  refine own_body (cls := "java/util/HashMap$HashIterator") (plainFor_of_name pn_20) rfl (fun p e s m below meth c s₁ hx hby hml hown hnm hret hZ X0 e0 => ?_)
  have N0 := Fr.nil n0
  have K0 := Keep.refl h0 [a_]
  have lt1 := own_l P0.lt
  have lt2 := own_l P1.lt
  have lt3 := own_l P2.lt
  have lt4 := own_l P3.lt
  have lt5 := own_l P4.lt
  have lt6 := own_l P5.lt
  have lt7 := own_l P6.lt
  have lt8 := own_l P7.lt
  obtain ⟨T9, h9, X9, e9, W9, st9⟩ := putF X0 hx hZ hown (host := "") (Or.inl (w_267 hw)) Via.refl e0 P1 P0 (Or.inr ⟨(w_268 hw), rfl, hnm⟩) (w_255 hw) (ty := (.object "java/util/HashMap")) (by decide) rfl rfl (g := (mkF m 2 #[vA a_, vA mp, .unset] [(.ref mp), (.ref a_)])) rfl rfl (hb hby d306)
  have F9 := P1.same W9
  have z9 := W9.size
  have K9 := K0.wr W9 (Or.inl (List.mem_of_getElem? (i := 0) rfl))
  have N9 := Fr.snoc X9 N0 (by omega)
  obtain ⟨T10, X10, e10, st10⟩ := initO X9 hx hZ hown (w_269 hw) (w_20 hw) (w_21 hw) e9 (g := (mkF m 6 #[vA a_, vA mp, .unset] [(.ref a_)])) rfl (by rw [hml]; rfl) rfl (hb hby d308) (by decide) (W := 0) (Nat.le_of_eq rfl) (by decide)
  have f12 := P6.other W9 (Or.inl (fun q => P9 q.symm))
  obtain ⟨T11, X11, e11, st11⟩ := getF X10 hx hZ hown (host := "") (Or.inl (w_270 hw)) Via.refl e10 f12 (g := (mkF m 11 #[vA a_, vA mp, .unset] [(.ref mp), (.ref a_)])) rfl rfl (hb hby d311)
  have f14 := P2.other W9 (Or.inr (slot_ne (a0 := a0) (t := .int) (t' := (.object "java/util/HashMap")) (Or.inl (w_273 hw)) (Or.inr (w_268 hw)) (by decide) (by decide) (by decide)))
  have f15 := P0.wr W9
  obtain ⟨T13, h13, X13, e13, W13, st13⟩ := putF X11 hx hZ hown (host := "") (Or.inl (w_272 hw)) Via.refl e11 f14 f15 (Or.inl (w_273 hw)) (w_255 hw) (ty := .int) (by decide) rfl rfl (g := (mkF m 14 #[vA a_, vA mp, .unset] [(.int 0), (.ref a_)])) rfl rfl (hb hby d312)
  have F13 := f14.same W13
  have z13 := W13.size
  have K13 := K9.wr W13 (Or.inl (List.mem_of_getElem? (i := 0) rfl))
  have N13 := Fr.snoc X13 N9 (by omega)
  have f17 := P7.other W9 (Or.inl (fun q => P9 q.symm))
  have f18 := f17.other W13 (Or.inl (fun q => P9 q.symm))
  obtain ⟨T16, X16, e16, st16⟩ := getF X13 hx hZ hown (host := "") (Or.inl (w_274 hw)) Via.refl e13 f18 (g := (mkF m 18 #[vA a_, vA mp, .unset] [(.ref mp)])) rfl rfl (hb hby d314)
  have f20 := P3.other W9 (Or.inr (slot_ne (a0 := a0) (t := (.object "java/util/HashMap$Node")) (t' := (.object "java/util/HashMap")) (Or.inl (w_277 hw)) (Or.inr (w_268 hw)) (by decide) (by decide) (by decide)))
  have f21 := f20.other W13 (Or.inr (slot_ne (a0 := a0) (t := (.object "java/util/HashMap$Node")) (t' := .int) (Or.inl (w_277 hw)) (Or.inl (w_273 hw)) (by decide) (by decide) (by decide)))
  have f22 := f15.wr W13
  obtain ⟨T19, h19, X19, e19, W19, st19⟩ := putF X16 hx hZ hown (host := "") (Or.inl (w_276 hw)) Via.refl e16 f21 f22 (Or.inl (w_277 hw)) (w_255 hw) (ty := (.object "java/util/HashMap$Node")) (by decide) rfl rfl (g := (mkF m 26 #[vA a_, vA mp, .val .null] [.null, (.ref a_), .null, (.ref a_)])) rfl rfl (hb hby d320)
  have F19 := f21.same W19
  have z19 := W19.size
  have K19 := K13.wr W19 (Or.inl (List.mem_of_getElem? (i := 0) rfl))
  have N19 := Fr.snoc X19 N13 (by omega)
  have f24 := P4.other W9 (Or.inr (slot_ne (a0 := a0) (t := (.object "java/util/HashMap$Node")) (t' := (.object "java/util/HashMap")) (Or.inl (w_279 hw)) (Or.inr (w_268 hw)) (by decide) (by decide) (by decide)))
  have f25 := f24.other W13 (Or.inr (slot_ne (a0 := a0) (t := (.object "java/util/HashMap$Node")) (t' := .int) (Or.inl (w_279 hw)) (Or.inl (w_273 hw)) (by decide) (by decide) (by decide)))
  have f26 := f25.other W19 (Or.inr (slot_ne (a0 := a0) (t := (.object "java/util/HashMap$Node")) (t' := (.object "java/util/HashMap$Node")) (Or.inl (w_279 hw)) (Or.inl (w_277 hw)) (by decide) (by decide) (by decide)))
  have f27 := f22.wr W19
  obtain ⟨T23, h23, X23, e23, W23, st23⟩ := putF X19 hx hZ hown (host := "") (Or.inl (w_278 hw)) Via.refl e19 f26 f27 (Or.inl (w_279 hw)) (w_255 hw) (ty := (.object "java/util/HashMap$Node")) (by decide) rfl rfl (g := (mkF m 29 #[vA a_, vA mp, .val .null] [.null, (.ref a_)])) rfl rfl (hb hby d321)
  have F23 := f26.same W23
  have z23 := W23.size
  have K23 := K19.wr W23 (Or.inl (List.mem_of_getElem? (i := 0) rfl))
  have N23 := Fr.snoc X23 N19 (by omega)
  have f29 := P5.other W9 (Or.inr (slot_ne (a0 := a0) (t := .int) (t' := (.object "java/util/HashMap")) (Or.inl (w_281 hw)) (Or.inr (w_268 hw)) (by decide) (by decide) (by decide)))
  have f30 := f29.other W13 (Or.inr (slot_ne (a0 := a0) (t := .int) (t' := .int) (Or.inl (w_281 hw)) (Or.inl (w_273 hw)) (by decide) (by decide) (by decide)))
  have f31 := f30.other W19 (Or.inr (slot_ne (a0 := a0) (t := .int) (t' := (.object "java/util/HashMap$Node")) (Or.inl (w_281 hw)) (Or.inl (w_277 hw)) (by decide) (by decide) (by decide)))
  have f32 := f31.other W23 (Or.inr (slot_ne (a0 := a0) (t := .int) (t' := (.object "java/util/HashMap$Node")) (Or.inl (w_281 hw)) (Or.inl (w_279 hw)) (by decide) (by decide) (by decide)))
  have f33 := f27.wr W23
  obtain ⟨T28, h28, X28, e28, W28, st28⟩ := putF X23 hx hZ hown (host := "") (Or.inl (w_280 hw)) Via.refl e23 f32 f33 (Or.inl (w_281 hw)) (w_255 hw) (ty := .int) (by decide) rfl rfl (g := (mkF m 34 #[vA a_, vA mp, .val .null] [(.int 0), (.ref a_)])) rfl rfl (hb hby d324)
  have F28 := f32.same W28
  have z28 := W28.size
  have K28 := K23.wr W28 (Or.inl (List.mem_of_getElem? (i := 0) rfl))
  have N28 := Fr.snoc X28 N23 (by omega)
  have f34 := f33.wr W28
  have f35 := F19.other W23 (Or.inr (slot_ne (a0 := a0) (t := (.object "java/util/HashMap$Node")) (t' := (.object "java/util/HashMap$Node")) (Or.inl (w_277 hw)) (Or.inl (w_279 hw)) (by decide) (by decide) (by decide)))
  have f36 := f35.other W28 (Or.inr (slot_ne (a0 := a0) (t := (.object "java/util/HashMap$Node")) (t' := .int) (Or.inl (w_277 hw)) (Or.inl (w_281 hw)) (by decide) (by decide) (by decide)))
  refine ⟨_, _, _, _, none, X28, by decide, by decide, fun _ => rfl, ?_, fun fs hr => castTop (ef_13 m a_ mp) ?_⟩
  · show Q_hii Z a_ mp h0 n0 _ T28.heap _
    rw [(e28 : T28.heap = h28)]
    exact ⟨rfl, N28, K28, f34, f36⟩
  · show Steps _ _ _ (s₁.setTop (mkF m 0 #[vA a_, vA mp, .unset] [])) _
    refine XS.aloadN X0.here hx rfl (hb hby d304) rfl rfl ?_
    refine XS.aloadN X0.here hx rfl (hb hby d305) rfl rfl ?_
    refine st9 _ ?_
    show Steps _ _ _ (T9.setTop (mkF m 5 #[vA a_, vA mp, .unset] [])) _
    refine XS.aloadN X9.here hx rfl (hb hby d307) rfl rfl ?_
    refine st10 _ ?_
    show Steps _ _ _ (T10.setTop (mkF m 9 #[vA a_, vA mp, .unset] [])) _
    refine XS.aloadN X10.here hx rfl (hb hby d309) rfl rfl ?_
    refine XS.aloadN X10.here hx rfl (hb hby d310) rfl rfl ?_
    refine st11 _ ?_
    show Steps _ _ _ (T11.setTop (mkF m 14 #[vA a_, vA mp, .unset] [(.int 0), (.ref a_)])) _
    refine st13 _ ?_
    show Steps _ _ _ (T13.setTop (mkF m 17 #[vA a_, vA mp, .unset] [])) _
    refine XS.aloadN X13.here hx rfl (hb hby d313) rfl rfl ?_
    refine st16 _ ?_
    show Steps _ _ _ (T16.setTop (mkF m 21 #[vA a_, vA mp, .unset] [.null])) _
    refine XS.astoreN X16.here hx rfl (hb hby d315) rfl rfl (l' := #[vA a_, vA mp, .val .null]) rfl ?_
    refine XS.aloadN X16.here hx rfl (hb hby d316) rfl rfl ?_
    refine XS.aloadN X16.here hx rfl (hb hby d317) rfl rfl ?_
    refine XS.aconstNull X16.here hx rfl (hb hby d318) ?_
    refine XS.dupX1 X16.here hx rfl (hb hby d319) rfl rfl rfl ?_
    refine st19 _ ?_
    show Steps _ _ _ (T19.setTop (mkF m 29 #[vA a_, vA mp, .val .null] [.null, (.ref a_)])) _
    refine st23 _ ?_
    show Steps _ _ _ (T23.setTop (mkF m 32 #[vA a_, vA mp, .val .null] [])) _
    refine XS.aloadN X23.here hx rfl (hb hby d322) rfl rfl ?_
    refine XS.iconst X23.here hx rfl (hb hby d323) ?_
    refine st28 _ ?_
    show Steps _ _ _ (T28.setTop (mkF m 37 #[vA a_, vA mp, .val .null] [])) _
    refine XS.aloadN X28.here hx rfl (hb hby d325) rfl rfl ?_
    refine XS.ifnullYes X28.here hx rfl (pc0 := 38) (pc' := 78) rfl (hb hby d326) rfl (by decide) (by decide) ?_
    exact X28.returnOut hx hret (hb hby d327) hr
theorem d328 : decode jdk_142_method_1_code 0 = .ok (.aload_n 0, 1) := by decide +kernel
theorem d329 : decode jdk_142_method_1_code 1 = .ok (.aload_n 1, 1) := by decide +kernel
theorem w_261 {Z : State} {a0 : Array Value} (hw : HW Z a0) : (Jvm.Cond.methodLink "java/util/HashMap$EntryIterator" (1 : Nat) m_39).before a0 Z = true := hw _ (List.mem_of_getElem? (i := 261) rfl)
theorem w_266 {Z : State} {a0 : Array Value} (hw : HW Z a0) : (Jvm.Cond.code m_39 jdk_99_method_1_code (3 : Nat) (Option.none : Option Jvm.ClassFile.FieldType)).before a0 Z = true := hw _ (List.mem_of_getElem? (i := 266) rfl)
theorem w_265 {Z : State} {a0 : Array Value} (hw : HW Z a0) : (Jvm.Cond.initialized "java/util/HashMap$HashIterator").before a0 Z = true := hw _ (List.mem_of_getElem? (i := 265) rfl)
theorem d330 : decode jdk_142_method_1_code 2 = .ok (.invokespecial 1, 3) := by decide +kernel
theorem w_262 {Z : State} {a0 : Array Value} (hw : HW Z a0) : (Jvm.Cond.instanceMethod m_39).before a0 Z = true := hw _ (List.mem_of_getElem? (i := 262) rfl)
theorem d331 : decode jdk_142_method_1_code 5 = .ok (.return_, 1) := by decide +kernel
theorem pn_21 : plainName "java/util/HashMap$EntryIterator" = true := by first | (simp [plainName, overriddenIn]; done) | decide +kernel
abbrev m_40 : MethodName := (⟨"java/util/HashMap$EntryIterator", "<init>", "(Ljava/util/HashMap;)V"⟩ : MethodName)
def Q_eii (Z : State) (a_ : Addr) (mp : Addr) (h0 : Heap) (n0 : Nat) (v : Option Value) (h : Heap) (L : List Loc) : Prop := (v = none) ∧ (Fr n0 L) ∧ (Keep h0 h [a_]) ∧ (Exa Z h a_ "java/util/HashMap$EntryIterator") ∧ (Fld Z h a_ "java/util/HashMap$HashIterator" "next" "Ljava/util/HashMap$Node;" .null)
theorem rm_eii (l : Launch) (Z : State) (a0 : Array Value) (hw : HW Z a0) (ws : List Jvm.Cond) (a_ : Addr) (mp : Addr) (h0 : Heap) (n0 : Nat) (Z0 : n0 ≤ h0.size) (P0 : Exa Z h0 a_ "java/util/HashMap$EntryIterator") (P1 : Fld Z h0 a_ "java/util/HashMap$HashIterator" "this$0" "Ljava/util/HashMap;" .null) (P2 : Fld Z h0 a_ "java/util/HashMap$HashIterator" "expectedModCount" "I" (.int 0)) (P3 : Fld Z h0 a_ "java/util/HashMap$HashIterator" "next" "Ljava/util/HashMap$Node;" .null) (P4 : Fld Z h0 a_ "java/util/HashMap$HashIterator" "current" "Ljava/util/HashMap$Node;" .null) (P5 : Fld Z h0 a_ "java/util/HashMap$HashIterator" "index" "I" (.int 0)) (P6 : fld6 Z h0 mp (.int 0)) (P7 : fld7 Z h0 mp .null) (P8 : n0 ≤ a_) (P9 : a_ ≠ mp) :
    MF l Z m_40 jdk_142_method_1_code 2 none ws (oR 2 0 0 26) #[(.ref a_), (.ref mp)] h0 (Q_eii Z a_ mp h0 n0) := by
  refine own_body (cls := "java/util/HashMap$EntryIterator") (plainFor_of_name pn_21) rfl (fun p e s m below meth c s₁ hx hby hml hown hnm hret hZ X0 e0 => ?_)
  have N0 := Fr.nil n0
  have K0 := Keep.refl h0 [a_]
  have lt1 := own_l P0.lt
  have lt2 := own_l P1.lt
  have lt3 := own_l P2.lt
  have lt4 := own_l P3.lt
  have lt5 := own_l P4.lt
  have lt6 := own_l P5.lt
  have lt7 := own_l P6.lt
  have lt8 := own_l P7.lt
  obtain ⟨_, _, ⟨T9, L9, k9, n9⟩, -, X9, ⟨Lc9, hQ9, l9, y9, z9⟩, st9⟩ := X0.specialBack hx (y := m_39) rfl hown (mvT hZ (w_261 hw)) (mvT hZ (w_262 hw)) (mvT hZ (w_266 hw)) (by decide) (backOf (W := 0) (rm_hii l Z a0 hw [] a_ mp h0 n0 (by omega) P0 P1 P2 P3 P4 P5 P6 P7 (by omega) (fun q => P9 q)) hZ (w_266 hw) (w_265 hw) (by decide) (by decide)) (g := (mkF m 2 #[vA a_, vA mp] [(.ref mp), (.ref a_)])) rfl (by rw [hml]; rfl) (Steps.refl _) (a := a_) (argsL := [(.ref mp)]) (rest := []) (lenOf pd_18 rfl) rfl (Nat.le_of_eq rfl) (hb hby d330) (fun _ _ => ⟨rfl, e0, (by decide : 0 + 0 ≤ _), (by decide : 0 + 0 ≤ _)⟩)
  dsimp only [Pt.U, Pt.locs, Pt.cells, Pt.slots] at X9 l9 y9 z9 st9 hQ9
  rw [l9, y9, z9] at X9
  obtain ⟨rfl, Nq9, Kq9, r9_0, r9_1⟩ := hQ9
  have N9 := Fr.app N0 Nq9
  have z9' := Kq9.1
  have K9 := K0.trans Kq9 (allS (Or.inl (List.mem_of_getElem? (i := 0) rfl)) all0)
  have lt10 := own_l r9_0.lt
  have lt11 := own_l r9_1.lt
  refine ⟨_, _, _, _, none, X9, by decide, by decide, fun _ => rfl, ?_, fun fs hr => castTop (ef_6 m a_ mp) ?_⟩
  · show Q_eii Z a_ mp h0 n0 _ T9.heap _
    exact ⟨rfl, N9, K9, r9_0, r9_1⟩
  · show Steps _ _ _ (s₁.setTop (mkF m 0 #[vA a_, vA mp] [])) _
    refine XS.aloadN X0.here hx rfl (hb hby d328) rfl rfl ?_
    refine XS.aloadN X0.here hx rfl (hb hby d329) rfl rfl ?_
    refine st9.trans ?_
    show Steps _ _ _ (T9.setTop (mkF m 5 #[vA a_, vA mp] [])) _
    exact X9.returnOut hx hret (hb hby d331) hr
theorem w_254 {Z : State} {a0 : Array Value} (hw : HW Z a0) : (Jvm.Cond.classLink "java/util/HashMap$EntrySet" (22 : Nat) "java/util/HashMap$EntryIterator").before a0 Z = true := hw _ (List.mem_of_getElem? (i := 254) rfl)
theorem w_256 {Z : State} {a0 : Array Value} (hw : HW Z a0) : (Jvm.Cond.initialized "java/util/HashMap$EntryIterator").before a0 Z = true := hw _ (List.mem_of_getElem? (i := 256) rfl)
theorem d332 : decode jdk_111_method_4_code 0 = .ok (.new 22, 3) := by decide +kernel
theorem d333 : decode jdk_111_method_4_code 3 = .ok (.dup, 1) := by decide +kernel
theorem d334 : decode jdk_111_method_4_code 4 = .ok (.aload_n 0, 1) := by decide +kernel
theorem d335 : decode jdk_111_method_4_code 5 = .ok (.getfield 1, 3) := by decide +kernel
theorem w_257 {Z : State} {a0 : Array Value} (hw : HW Z a0) : (Jvm.Cond.methodLink "java/util/HashMap$EntrySet" (24 : Nat) m_40).before a0 Z = true := hw _ (List.mem_of_getElem? (i := 257) rfl)
theorem w_260 {Z : State} {a0 : Array Value} (hw : HW Z a0) : (Jvm.Cond.code m_40 jdk_142_method_1_code (2 : Nat) (Option.none : Option Jvm.ClassFile.FieldType)).before a0 Z = true := hw _ (List.mem_of_getElem? (i := 260) rfl)
theorem d336 : decode jdk_111_method_4_code 8 = .ok (.invokespecial 24, 3) := by decide +kernel
theorem w_258 {Z : State} {a0 : Array Value} (hw : HW Z a0) : (Jvm.Cond.instanceMethod m_40).before a0 Z = true := hw _ (List.mem_of_getElem? (i := 258) rfl)
theorem d337 : decode jdk_111_method_4_code 11 = .ok (.areturn, 1) := by decide +kernel
abbrev m_41 : MethodName := (⟨"java/util/HashMap$EntrySet", "iterator", "()Ljava/util/Iterator;"⟩ : MethodName)
def Q_iter (Z : State) (a_ : Addr) (mp : Addr) (h0 : Heap) (n0 : Nat) (v : Option Value) (h : Heap) (L : List Loc) : Prop := ∃ (b : Addr), (v = some (.ref b)) ∧ (Fr n0 L) ∧ (Keep h0 h []) ∧ (h0.size ≤ b) ∧ (Exa Z h b "java/util/HashMap$EntryIterator") ∧ (Fld Z h b "java/util/HashMap$HashIterator" "next" "Ljava/util/HashMap$Node;" .null)
theorem rm_iter (l : Launch) (Z : State) (a0 : Array Value) (hw : HW Z a0) (ws : List Jvm.Cond) (a_ : Addr) (mp : Addr) (h0 : Heap) (n0 : Nat) (Z0 : n0 ≤ h0.size) (P0 : Exa Z h0 a_ "java/util/HashMap$EntrySet") (P1 : Fld Z h0 a_ "java/util/HashMap$EntrySet" "this$0" "Ljava/util/HashMap;" (.ref mp)) (P2 : fld6 Z h0 mp (.int 0)) (P3 : fld7 Z h0 mp .null) :
    MF l Z m_41 jdk_111_method_4_code 1 (some (.object "java/util/Iterator")) ws (oR 3 1 5 40) #[(.ref a_)] h0 (Q_iter Z a_ mp h0 n0) := by
  refine own_body (cls := "java/util/HashMap$EntrySet") (plainFor_of_name pn_19) rfl (fun p e s m below meth c s₁ hx hby hml hown hnm hret hZ X0 e0 => ?_)
  have N0 := Fr.nil n0
  have K0 := Keep.refl h0 []
  have lt1 := own_l P0.lt
  have lt2 := own_l P1.lt
  have lt3 := own_l P2.lt
  have lt4 := own_l P3.lt
  obtain ⟨T5, h5, X5, e5, E5, A5, D5, -, st5⟩ := newO X0 hx hZ hown (w_254 hw) (w_255 hw) (w_256 hw) e0 (g := (mkF m 0 #[vA a_] [])) rfl (hb hby d332) (by decide) (by decide)
  obtain ⟨b5, g5⟩ : ∃ z, z = h0.size := ⟨_, rfl⟩
  rw [← g5] at A5 D5 st5
  have z5 := E5.1
  have K5 := K0.ext E5
  have lt6 := own_l A5.lt
  have F5_268 : Fld Z h5 b5 "java/util/HashMap$HashIterator" "this$0" "Ljava/util/HashMap;" .null := D5 (Or.inr (w_268 hw)) (ty := (.object "java/util/HashMap")) (by decide)
  have F5_273 : Fld Z h5 b5 "java/util/HashMap$HashIterator" "expectedModCount" "I" (.int 0) := D5 (Or.inl (w_273 hw)) (ty := .int) (by decide)
  have F5_277 : Fld Z h5 b5 "java/util/HashMap$HashIterator" "next" "Ljava/util/HashMap$Node;" .null := D5 (Or.inl (w_277 hw)) (ty := (.object "java/util/HashMap$Node")) (by decide)
  have F5_279 : Fld Z h5 b5 "java/util/HashMap$HashIterator" "current" "Ljava/util/HashMap$Node;" .null := D5 (Or.inl (w_279 hw)) (ty := (.object "java/util/HashMap$Node")) (by decide)
  have F5_281 : Fld Z h5 b5 "java/util/HashMap$HashIterator" "index" "I" (.int 0) := D5 (Or.inl (w_281 hw)) (ty := .int) (by decide)
  have f8 := P1.ext E5
  obtain ⟨T7, X7, e7, st7⟩ := getF X5 hx hZ hown (host := "") (Or.inl (w_235 hw)) Via.refl e5 f8 (g := (mkF m 5 #[vA a_] [(.ref a_), (.ref b5), (.ref b5)])) rfl rfl (hb hby d335)
  have f10 := P2.ext E5
  have f11 := P3.ext E5
  obtain ⟨_, _, ⟨T9, L9, k9, n9⟩, -, X9, ⟨Lc9, hQ9, l9, y9, z9⟩, st9⟩ := X7.specialBack hx (y := m_40) rfl hown (mvT hZ (w_257 hw)) (mvT hZ (w_258 hw)) (mvT hZ (w_260 hw)) (by decide) (backOf (W := 1) (rm_eii l Z a0 hw [] b5 mp h5 n0 (by omega) A5 F5_268 F5_273 F5_277 F5_279 F5_281 f10 f11 (by omega) (own_ne (by omega))) hZ (w_260 hw) (w_256 hw) (by decide) (by decide)) (g := (mkF m 8 #[vA a_] [(.ref mp), (.ref b5), (.ref b5)])) rfl (by rw [hml]; rfl) (Steps.refl _) (a := b5) (argsL := [(.ref mp)]) (rest := [(.ref b5)]) (lenOf pd_18 rfl) rfl (Nat.le_of_eq rfl) (hb hby d336) (fun _ _ => ⟨rfl, e7, (by decide : 1 + 0 ≤ _), (by decide : 5 + 0 ≤ _)⟩)
  dsimp only [Pt.U, Pt.locs, Pt.cells, Pt.slots] at X9 l9 y9 z9 st9 hQ9
  rw [l9, y9, z9] at X9
  obtain ⟨rfl, Nq9, Kq9, r9_0, r9_1⟩ := hQ9
  have N9 := Fr.app N0 Nq9
  have z9' := Kq9.1
  have K9 := K5.trans Kq9 (allS (Or.inr (by omega)) all0)
  have lt12 := own_l r9_0.lt
  have lt13 := own_l r9_1.lt
  refine ⟨_, _, _, _, some (.ref b5), X9, by decide, by decide, nofun, ?_, fun fs hr => castTop (ef_2 m a_) ?_⟩
  · show Q_iter Z a_ mp h0 n0 _ T9.heap _
    exact ⟨b5, rfl, N9, K9, (by omega), r9_0, r9_1⟩
  · show Steps _ _ _ (s₁.setTop (mkF m 0 #[vA a_] [])) _
    refine st5 _ ?_
    show Steps _ _ _ (T5.setTop (mkF m 3 #[vA a_] [(.ref b5)])) _
    refine XS.dup X5.here hx rfl (hb hby d333) rfl rfl ?_
    refine XS.aloadN X5.here hx rfl (hb hby d334) rfl rfl ?_
    refine st7 _ ?_
    show Steps _ _ _ (T7.setTop (mkF m 8 #[vA a_] [(.ref mp), (.ref b5), (.ref b5)])) _
    refine st9.trans ?_
    show Steps _ _ _ (T9.setTop (mkF m 11 #[vA a_] [(.ref b5)])) _
    exact retOut X9 hx hret (own_narrow_ref rfl) (Or.inr (Or.inr (Or.inr (Or.inr ⟨rfl, rfl, rfl⟩)))) (hb hby d337) hr
theorem d338 : decode jdk_99_method_2_code 0 = .ok (.aload_n 0, 1) := by decide +kernel
theorem d339 : decode jdk_99_method_2_code 1 = .ok (.getfield 26, 3) := by decide +kernel
theorem d340 : decode jdk_99_method_2_code 4 = .ok (.ifnull 7, 3) := by decide +kernel
theorem d341 : decode jdk_99_method_2_code 11 = .ok (.iconst 0, 1) := by decide +kernel
theorem d342 : decode jdk_99_method_2_code 12 = .ok (.ireturn, 1) := by decide +kernel
abbrev m_42 : MethodName := (⟨"java/util/HashMap$HashIterator", "hasNext", "()Z"⟩ : MethodName)
def Q_hasn (Z : State) (a_ : Addr) (h0 : Heap) (n0 : Nat) (v : Option Value) (h : Heap) (L : List Loc) : Prop := (v = some (.int 0)) ∧ (Fr n0 L) ∧ (h = h0)
theorem rm_hasn (l : Launch) (Z : State) (a0 : Array Value) (hw : HW Z a0) (ws : List Jvm.Cond) (a_ : Addr) (h0 : Heap) (n0 : Nat) (Z0 : n0 ≤ h0.size) (P0 : Fld Z h0 a_ "java/util/HashMap$HashIterator" "next" "Ljava/util/HashMap$Node;" .null) :
    MF l Z m_42 jdk_99_method_2_code 1 (some .boolean) ws (oR 0 0 0 0) #[(.ref a_)] h0 (Q_hasn Z a_ h0 n0) := by
  refine own_body (cls := "java/util/HashMap$HashIterator") (plainFor_of_name pn_20) rfl (fun p e s m below meth c s₁ hx hby hml hown hnm hret hZ X0 e0 => ?_)
  have N0 := Fr.nil n0
  have lt1 := own_l P0.lt
  obtain ⟨T2, X2, e2, st2⟩ := getF X0 hx hZ hown (host := "") (Or.inl (w_276 hw)) Via.refl e0 P0 (g := (mkF m 1 #[vA a_] [(.ref a_)])) rfl rfl (hb hby d339)
  refine ⟨_, _, _, _, some (.int 0), X2, by decide, by decide, nofun, ?_, fun fs hr => castTop (ef_2 m a_) ?_⟩
  · show Q_hasn Z a_ h0 n0 _ T2.heap _
    rw [(e2 : T2.heap = h0)]
    exact ⟨rfl, N0, rfl⟩
  · show Steps _ _ _ (s₁.setTop (mkF m 0 #[vA a_] [])) _
    refine XS.aloadN X0.here hx rfl (hb hby d338) rfl rfl ?_
    refine st2 _ ?_
    show Steps _ _ _ (T2.setTop (mkF m 4 #[vA a_] [.null])) _
    refine XS.ifnullYes X2.here hx rfl (pc0 := 4) (pc' := 11) rfl (hb hby d340) rfl (by decide) (by decide) ?_
    refine XS.iconst X2.here hx rfl (hb hby d341) ?_
    exact retN X2 hx (t := .boolean) hret (by simp) (hb hby d342) hr
theorem d343 : decode jdk_2500_method_1_code 0 = .ok (.aload_n 0, 1) := by decide +kernel
theorem w_309 {Z : State} {a0 : Array Value} (hw : HW Z a0) : (Jvm.Cond.methodLink "java/util/Collections$UnmodifiableMap" (1 : Nat) m_2).before a0 Z = true := hw _ (List.mem_of_getElem? (i := 309) rfl)
theorem d344 : decode jdk_2500_method_1_code 1 = .ok (.invokespecial 1, 3) := by decide +kernel
theorem d345 : decode jdk_2500_method_1_code 4 = .ok (.aload_n 1, 1) := by decide +kernel
theorem d346 : decode jdk_2500_method_1_code 5 = .ok (.ifnonnull 11, 3) := by decide +kernel
theorem d347 : decode jdk_2500_method_1_code 16 = .ok (.aload_n 0, 1) := by decide +kernel
theorem d348 : decode jdk_2500_method_1_code 17 = .ok (.aload_n 1, 1) := by decide +kernel
theorem w_310 {Z : State} {a0 : Array Value} (hw : HW Z a0) : (Jvm.Cond.fieldLink "java/util/Collections$UnmodifiableMap" (10 : Nat) "java/util/Collections$UnmodifiableMap" "m" "Ljava/util/Map;").before a0 Z = true := hw _ (List.mem_of_getElem? (i := 310) rfl)
theorem w_311 {Z : State} {a0 : Array Value} (hw : HW Z a0) : (Jvm.Cond.laysFinal "java/util/Collections$UnmodifiableMap" "java/util/Collections$UnmodifiableMap" "m" "Ljava/util/Map;").before a0 Z = true := hw _ (List.mem_of_getElem? (i := 311) rfl)
theorem w_304 {Z : State} {a0 : Array Value} (hw : HW Z a0) : (Jvm.Cond.instantiable "java/util/Collections$UnmodifiableMap" (4 : Nat)).before a0 Z = true := hw _ (List.mem_of_getElem? (i := 304) rfl)
theorem d349 : decode jdk_2500_method_1_code 18 = .ok (.putfield 10, 3) := by decide +kernel
theorem d350 : decode jdk_2500_method_1_code 21 = .ok (.return_, 1) := by decide +kernel
theorem pn_22 : plainName "java/util/Collections$UnmodifiableMap" = true := by first | (simp [plainName, overriddenIn]; done) | decide +kernel
abbrev m_43 : MethodName := (⟨"java/util/Collections$UnmodifiableMap", "<init>", "(Ljava/util/Map;)V"⟩ : MethodName)
def Q_umi (Z : State) (a_ : Addr) (mp : Addr) (h0 : Heap) (n0 : Nat) (v : Option Value) (h : Heap) (L : List Loc) : Prop := (v = none) ∧ (Fr n0 L) ∧ (Keep h0 h [a_]) ∧ (Exa Z h a_ "java/util/Collections$UnmodifiableMap")
theorem rm_umi (l : Launch) (Z : State) (a0 : Array Value) (hw : HW Z a0) (ws : List Jvm.Cond) (a_ : Addr) (mp : Addr) (h0 : Heap) (n0 : Nat) (Z0 : n0 ≤ h0.size) (P0 : Exa Z h0 a_ "java/util/Collections$UnmodifiableMap") (P1 : Fld Z h0 a_ "java/util/Collections$UnmodifiableMap" "m" "Ljava/util/Map;" .null) (P2 : n0 ≤ a_) :
    MF l Z m_43 jdk_2500_method_1_code 2 none ws (oR 1 0 0 12) #[(.ref a_), (.ref mp)] h0 (Q_umi Z a_ mp h0 n0) := by
  refine own_body (cls := "java/util/Collections$UnmodifiableMap") (plainFor_of_name pn_22) rfl (fun p e s m below meth c s₁ hx hby hml hown hnm hret hZ X0 e0 => ?_)
  have N0 := Fr.nil n0
  have K0 := Keep.refl h0 [a_]
  have lt1 := own_l P0.lt
  have lt2 := own_l P1.lt
  obtain ⟨T3, X3, e3, st3⟩ := initO X0 hx hZ hown (w_309 hw) (w_20 hw) (w_21 hw) e0 (g := (mkF m 1 #[vA a_, vA mp] [(.ref a_)])) rfl (by rw [hml]; rfl) rfl (hb hby d344) (by decide) (W := 0) (Nat.le_of_eq rfl) (by decide)
  obtain ⟨T4, h4, X4, e4, W4, st4⟩ := putF X3 hx hZ hown (host := "") (Or.inl (w_310 hw)) Via.refl e3 P1 P0 (Or.inr ⟨(w_311 hw), rfl, hnm⟩) (w_304 hw) (ty := (.object "java/util/Map")) (by decide) rfl rfl (g := (mkF m 18 #[vA a_, vA mp] [(.ref mp), (.ref a_)])) rfl rfl (hb hby d349)
  have F4 := P1.same W4
  have z4 := W4.size
  have K4 := K0.wr W4 (Or.inl (List.mem_of_getElem? (i := 0) rfl))
  have N4 := Fr.snoc X4 N0 (by omega)
  have f5 := P0.wr W4
  refine ⟨_, _, _, _, none, X4, by decide, by decide, fun _ => rfl, ?_, fun fs hr => castTop (ef_6 m a_ mp) ?_⟩
  · show Q_umi Z a_ mp h0 n0 _ T4.heap _
    rw [(e4 : T4.heap = h4)]
    exact ⟨rfl, N4, K4, f5⟩
  · show Steps _ _ _ (s₁.setTop (mkF m 0 #[vA a_, vA mp] [])) _
    refine XS.aloadN X0.here hx rfl (hb hby d343) rfl rfl ?_
    refine st3 _ ?_
    show Steps _ _ _ (T3.setTop (mkF m 4 #[vA a_, vA mp] [])) _
    refine XS.aloadN X3.here hx rfl (hb hby d345) rfl rfl ?_
    refine XS.ifnonnullYes X3.here hx rfl (pc0 := 5) (pc' := 16) rfl (hb hby d346) rfl (by decide) (by decide) ?_
    refine XS.aloadN X3.here hx rfl (hb hby d347) rfl rfl ?_
    refine XS.aloadN X3.here hx rfl (hb hby d348) rfl rfl ?_
    refine st4 _ ?_
    show Steps _ _ _ (T4.setTop (mkF m 21 #[vA a_, vA mp] [])) _
    exact X4.returnOut hx hret (hb hby d350) hr
theorem d351 : decode jdk_79_method_36_code 0 = .ok (.aload_n 0, 1) := by decide +kernel
abbrev m_44 : MethodName := (⟨"java/util/Map", "getClass", "()Ljava/lang/Class;"⟩ : MethodName)
theorem w_295 {Z : State} {a0 : Array Value} (hw : HW Z a0) : (Jvm.Cond.methodLink "java/util/Collections" (220 : Nat) m_44).before a0 Z = true := hw _ (List.mem_of_getElem? (i := 295) rfl)
theorem w_296 {Z : State} {a0 : Array Value} (hw : HW Z a0) : (Jvm.Cond.interfaceMethod "java/util/Map" "java/lang/Object" "getClass" "()Ljava/lang/Class;").before a0 Z = true := hw _ (List.mem_of_getElem? (i := 296) rfl)
theorem w_297 {Z : State} {a0 : Array Value} (hw : HW Z a0) : (Jvm.Cond.selects "java/util/LinkedHashMap" m_44 m_27).before a0 Z = true := hw _ (List.mem_of_getElem? (i := 297) rfl)
theorem w_298 {Z : State} {a0 : Array Value} (hw : HW Z a0) : (Jvm.Cond.publicMethod m_27).before a0 Z = true := hw _ (List.mem_of_getElem? (i := 298) rfl)
theorem w_299 {Z : State} {a0 : Array Value} (hw : HW Z a0) : (Jvm.Cond.unhidden "java/util/LinkedHashMap" "getClass" "()Ljava/lang/Class;").before a0 Z = true := hw _ (List.mem_of_getElem? (i := 299) rfl)
theorem w_300 {Z : State} {a0 : Array Value} (hw : HW Z a0) : (Jvm.Cond.castable "java/util/LinkedHashMap" "java/util/Map").before a0 Z = true := hw _ (List.mem_of_getElem? (i := 300) rfl)
theorem d352 : decode jdk_79_method_36_code 1 = .ok (.invokeinterface 220 1, 5) := by decide +kernel
theorem w_302 {Z : State} {a0 : Array Value} (hw : HW Z a0) : (Jvm.Cond.classLink "java/util/Collections" (223 : Nat) "java/util/Collections$UnmodifiableMap").before a0 Z = true := hw _ (List.mem_of_getElem? (i := 302) rfl)
theorem d353 : decode jdk_79_method_36_code 6 = .ok (.ldc 223, 2) := by decide +kernel
theorem d354 : decode jdk_79_method_36_code 8 = .ok (.if_acmp .ne 5, 3) := by decide +kernel
theorem d355 : decode jdk_79_method_36_code 11 = .ok (.aload_n 0, 1) := by decide +kernel
theorem d356 : decode jdk_79_method_36_code 12 = .ok (.areturn, 1) := by decide +kernel
theorem w_305 {Z : State} {a0 : Array Value} (hw : HW Z a0) : (Jvm.Cond.initialized "java/util/Collections$UnmodifiableMap").before a0 Z = true := hw _ (List.mem_of_getElem? (i := 305) rfl)
theorem d357 : decode jdk_79_method_36_code 13 = .ok (.new 223, 3) := by decide +kernel
theorem d358 : decode jdk_79_method_36_code 16 = .ok (.dup, 1) := by decide +kernel
theorem d359 : decode jdk_79_method_36_code 17 = .ok (.aload_n 0, 1) := by decide +kernel
theorem w_306 {Z : State} {a0 : Array Value} (hw : HW Z a0) : (Jvm.Cond.methodLink "java/util/Collections" (225 : Nat) m_43).before a0 Z = true := hw _ (List.mem_of_getElem? (i := 306) rfl)
theorem w_308 {Z : State} {a0 : Array Value} (hw : HW Z a0) : (Jvm.Cond.code m_43 jdk_2500_method_1_code (2 : Nat) (Option.none : Option Jvm.ClassFile.FieldType)).before a0 Z = true := hw _ (List.mem_of_getElem? (i := 308) rfl)
theorem pd_19 : parseMethodDescriptor "(Ljava/util/Map;)V" = some ⟨[(.object "java/util/Map")], none⟩ := by decide +kernel
theorem d360 : decode jdk_79_method_36_code 18 = .ok (.invokespecial 225, 3) := by decide +kernel
theorem w_307 {Z : State} {a0 : Array Value} (hw : HW Z a0) : (Jvm.Cond.instanceMethod m_43).before a0 Z = true := hw _ (List.mem_of_getElem? (i := 307) rfl)
theorem d361 : decode jdk_79_method_36_code 21 = .ok (.areturn, 1) := by decide +kernel
def Q_um (Z : State) (mp : Addr) (ml : Addr) (mu : Addr) (h0 : Heap) (n0 : Nat) (v : Option Value) (h : Heap) (L : List Loc) : Prop := ∃ (r : Addr), (v = some (.ref r)) ∧ (Fr n0 L) ∧ (Keep h0 h [])
theorem pn_23 : plainName "java/util/Collections" = true := by first | (simp [plainName, overriddenIn]; done) | decide +kernel
abbrev m_45 : MethodName := (⟨"java/util/Collections", "unmodifiableMap", "(Ljava/util/Map;)Ljava/util/Map;"⟩ : MethodName)
theorem rm_um_e (l : Launch) (Z : State) (a0 : Array Value) (hw : HW Z a0) (ws : List Jvm.Cond) (mp : Addr) (ml : Addr) (h0 : Heap) (n0 : Nat) (Z0 : n0 ≤ h0.size) (P0 : Exa Z h0 mp "java/util/LinkedHashMap") (P1 : Mi Z "java/util/LinkedHashMap" ml) (P2 : Mi Z "java/util/Collections$UnmodifiableMap" ml) :
    MF l Z m_45 jdk_79_method_36_code 1 (some (.object "java/util/Map")) ws (oR 2 1 4 26) #[(.ref mp)] h0 (Q_um Z mp ml ml h0 n0) := by
  refine own_body (cls := "java/util/Collections") (plainFor_of_name pn_23) rfl (fun p e s m below meth c s₁ hx hby hml hown hnm hret hZ X0 e0 => ?_)
  have N0 := Fr.nil n0
  have K0 := Keep.refl h0 []
  have lt1 := own_l P0.lt
  obtain ⟨T2, X2, e2, st2⟩ := own_gclsI X0 hx hZ (I := "java/util/Map") hown (w_295 hw) (w_149 hw) (w_296 hw) (w_297 hw) (w_150 hw) (w_298 hw) (w_299 hw) (w_300 hw) (w_152 hw) (by decide) (by decide) e0 P0 P1 (g := (mkF m 1 #[vA mp] [(.ref mp)])) rfl (by rw [hml]; rfl) rfl (hb hby d352) (by decide) (W := 0) (Nat.le_of_eq rfl) (by decide)
  obtain ⟨T3, X3, e3, st3⟩ := own_ldcM X2 hx hZ hown (w_302 hw) e2 P2 (g := (mkF m 6 #[vA mp] [(.ref ml)])) rfl (hb hby d353)
  refine ⟨_, _, _, _, some (.ref mp), X3, by decide, by decide, nofun, ?_, fun fs hr => castTop (ef_2 m mp) ?_⟩
  · show Q_um Z mp ml ml h0 n0 _ T3.heap _
    rw [(e3 : T3.heap = h0)]
    exact ⟨mp, rfl, N0, K0⟩
  · show Steps _ _ _ (s₁.setTop (mkF m 0 #[vA mp] [])) _
    refine XS.aloadN X0.here hx rfl (hb hby d351) rfl rfl ?_
    refine st2 _ ?_
    show Steps _ _ _ (T2.setTop (mkF m 6 #[vA mp] [(.ref ml)])) _
    refine st3 _ ?_
    show Steps _ _ _ (T3.setTop (mkF m 8 #[vA mp] [(.ref ml), (.ref ml)])) _
    refine Jvm.RoadKit.acmp (g := (mkF m 8 #[vA mp] [(.ref ml), (.ref ml)])) X3 hx rfl rfl rfl (pc0 := 8) (pc' := 11) (same := true) rfl (hb hby d354) rfl (decide_eq_true rfl) (by decide) (by decide) ?_
    show Steps _ _ _ (T3.setTop (mkF m 11 #[vA mp] [])) _
    refine XS.aloadN X3.here hx rfl (hb hby d355) rfl rfl ?_
    exact retOut X3 hx hret (own_narrow_ref rfl) (Or.inr (Or.inr (Or.inr (Or.inr ⟨rfl, rfl, rfl⟩)))) (hb hby d356) hr
theorem rm_um_n (l : Launch) (Z : State) (a0 : Array Value) (hw : HW Z a0) (ws : List Jvm.Cond) (mp : Addr) (ml : Addr) (mu : Addr) (h0 : Heap) (n0 : Nat) (Z0 : n0 ≤ h0.size) (P0 : Exa Z h0 mp "java/util/LinkedHashMap") (P1 : Mi Z "java/util/LinkedHashMap" ml) (P2 : Mi Z "java/util/Collections$UnmodifiableMap" mu) (hne : ml ≠ mu) :
    MF l Z m_45 jdk_79_method_36_code 1 (some (.object "java/util/Map")) ws (oR 2 1 4 26) #[(.ref mp)] h0 (Q_um Z mp ml mu h0 n0) := by
  refine own_body (cls := "java/util/Collections") (plainFor_of_name pn_23) rfl (fun p e s m below meth c s₁ hx hby hml hown hnm hret hZ X0 e0 => ?_)
  have N0 := Fr.nil n0
  have K0 := Keep.refl h0 []
  have lt1 := own_l P0.lt
  obtain ⟨T2, X2, e2, st2⟩ := own_gclsI X0 hx hZ (I := "java/util/Map") hown (w_295 hw) (w_149 hw) (w_296 hw) (w_297 hw) (w_150 hw) (w_298 hw) (w_299 hw) (w_300 hw) (w_152 hw) (by decide) (by decide) e0 P0 P1 (g := (mkF m 1 #[vA mp] [(.ref mp)])) rfl (by rw [hml]; rfl) rfl (hb hby d352) (by decide) (W := 0) (Nat.le_of_eq rfl) (by decide)
  obtain ⟨T3, X3, e3, st3⟩ := own_ldcM X2 hx hZ hown (w_302 hw) e2 P2 (g := (mkF m 6 #[vA mp] [(.ref ml)])) rfl (hb hby d353)
  obtain ⟨T4, h4, X4, e4, E4, A4, D4, -, st4⟩ := newO X3 hx hZ hown (w_302 hw) (w_304 hw) (w_305 hw) e3 (g := (mkF m 13 #[vA mp] [])) rfl (hb hby d357) (by decide) (by decide)
  obtain ⟨b4, g4⟩ : ∃ z, z = h0.size := ⟨_, rfl⟩
  rw [← g4] at A4 D4 st4
  have z4 := E4.1
  have K4 := K0.ext E4
  have lt5 := own_l A4.lt
  have F4_311 : Fld Z h4 b4 "java/util/Collections$UnmodifiableMap" "m" "Ljava/util/Map;" .null := D4 (Or.inr (w_311 hw)) (ty := (.object "java/util/Map")) (by decide)
  obtain ⟨_, _, ⟨T6, L6, k6, n6⟩, -, X6, ⟨Lc6, hQ6, l6, y6, z6⟩, st6⟩ := X4.specialBack hx (y := m_43) rfl hown (mvT hZ (w_306 hw)) (mvT hZ (w_307 hw)) (mvT hZ (w_308 hw)) (by decide) (backOf (W := 1) (rm_umi l Z a0 hw [] b4 mp h4 n0 (by omega) A4 F4_311 (by omega)) hZ (w_308 hw) (w_305 hw) (by decide) (by decide)) (g := (mkF m 18 #[vA mp] [(.ref mp), (.ref b4), (.ref b4)])) rfl (by rw [hml]; rfl) (Steps.refl _) (a := b4) (argsL := [(.ref mp)]) (rest := [(.ref b4)]) (lenOf pd_19 rfl) rfl (Nat.le_of_eq rfl) (hb hby d360) (fun _ _ => ⟨rfl, e4, (by decide : 1 + 0 ≤ _), (by decide : 4 + 0 ≤ _)⟩)
  dsimp only [Pt.U, Pt.locs, Pt.cells, Pt.slots] at X6 l6 y6 z6 st6 hQ6
  rw [l6, y6, z6] at X6
  obtain ⟨rfl, Nq6, Kq6, r6_0⟩ := hQ6
  have N6 := Fr.app N0 Nq6
  have z6' := Kq6.1
  have K6 := K4.trans Kq6 (allS (Or.inr (by omega)) all0)
  have lt7 := own_l r6_0.lt
  refine ⟨_, _, _, _, some (.ref b4), X6, by decide, by decide, nofun, ?_, fun fs hr => castTop (ef_2 m mp) ?_⟩
  · show Q_um Z mp ml mu h0 n0 _ T6.heap _
    exact ⟨b4, rfl, N6, K6⟩
  · show Steps _ _ _ (s₁.setTop (mkF m 0 #[vA mp] [])) _
    refine XS.aloadN X0.here hx rfl (hb hby d351) rfl rfl ?_
    refine st2 _ ?_
    show Steps _ _ _ (T2.setTop (mkF m 6 #[vA mp] [(.ref ml)])) _
    refine st3 _ ?_
    show Steps _ _ _ (T3.setTop (mkF m 8 #[vA mp] [(.ref mu), (.ref ml)])) _
    refine Jvm.RoadKit.acmp (g := (mkF m 8 #[vA mp] [(.ref mu), (.ref ml)])) X3 hx rfl rfl rfl (pc0 := 8) (pc' := 13) (same := false) rfl (hb hby d354) rfl (decide_eq_false fun q => absurd (Value.ref.inj q) hne) (by decide) (by decide) ?_
    show Steps _ _ _ (T3.setTop (mkF m 13 #[vA mp] [])) _
    refine st4 _ ?_
    show Steps _ _ _ (T4.setTop (mkF m 16 #[vA mp] [(.ref b4)])) _
    refine XS.dup X4.here hx rfl (hb hby d358) rfl rfl ?_
    refine XS.aloadN X4.here hx rfl (hb hby d359) rfl rfl ?_
    refine st6.trans ?_
    show Steps _ _ _ (T6.setTop (mkF m 21 #[vA mp] [(.ref b4)])) _
    exact retOut X6 hx hret (own_narrow_ref rfl) (Or.inr (Or.inr (Or.inr (Or.inr ⟨rfl, rfl, rfl⟩)))) (hb hby d361) hr
theorem rm_um (l : Launch) (Z : State) (a0 : Array Value) (hw : HW Z a0) (ws : List Jvm.Cond) (mp : Addr) (ml : Addr) (mu : Addr) (h0 : Heap) (n0 : Nat) (Z0 : n0 ≤ h0.size) (P0 : Exa Z h0 mp "java/util/LinkedHashMap") (P1 : Mi Z "java/util/LinkedHashMap" ml) (P2 : Mi Z "java/util/Collections$UnmodifiableMap" mu) :
    MF l Z m_45 jdk_79_method_36_code 1 (some (.object "java/util/Map")) ws (oR 2 1 4 26) #[(.ref mp)] h0 (Q_um Z mp ml mu h0 n0) := by
  by_cases q : ml = mu
  · subst q
    exact rm_um_e l Z a0 hw ws mp ml h0 n0 Z0 P0 P1 P2
  · exact rm_um_n l Z a0 hw ws mp ml mu h0 n0 Z0 P0 P1 P2 q
theorem d362 : decode jdk_30_method_1_code 0 = .ok (.aload_n 0, 1) := by decide +kernel
theorem w_112 {Z : State} {a0 : Array Value} (hw : HW Z a0) : (Jvm.Cond.methodLink "java/lang/Record" (1 : Nat) m_2).before a0 Z = true := hw _ (List.mem_of_getElem? (i := 112) rfl)
theorem d363 : decode jdk_30_method_1_code 1 = .ok (.invokespecial 1, 3) := by decide +kernel
theorem d364 : decode jdk_30_method_1_code 4 = .ok (.return_, 1) := by decide +kernel
theorem pn_24 : plainName "java/lang/Record" = true := by first | (simp [plainName, overriddenIn]; done) | decide +kernel
abbrev m_46 : MethodName := (⟨"java/lang/Record", "<init>", "()V"⟩ : MethodName)
def Q_rec (Z : State) (a_ : Addr) (h0 : Heap) (n0 : Nat) (v : Option Value) (h : Heap) (L : List Loc) : Prop := (v = none) ∧ (Fr n0 L) ∧ (h = h0)
theorem rm_rec (l : Launch) (Z : State) (a0 : Array Value) (hw : HW Z a0) (ws : List Jvm.Cond) (a_ : Addr) (h0 : Heap) (n0 : Nat) (Z0 : n0 ≤ h0.size) :
    MF l Z m_46 jdk_30_method_1_code 1 none ws (oR 1 0 0 12) #[(.ref a_)] h0 (Q_rec Z a_ h0 n0) := by
  refine own_body (cls := "java/lang/Record") (plainFor_of_name pn_24) rfl (fun p e s m below meth c s₁ hx hby hml hown hnm hret hZ X0 e0 => ?_)
  have N0 := Fr.nil n0
  obtain ⟨T1, X1, e1, st1⟩ := initO X0 hx hZ hown (w_112 hw) (w_20 hw) (w_21 hw) e0 (g := (mkF m 1 #[vA a_] [(.ref a_)])) rfl (by rw [hml]; rfl) rfl (hb hby d363) (by decide) (W := 0) (Nat.le_of_eq rfl) (by decide)
  refine ⟨_, _, _, _, none, X1, by decide, by decide, fun _ => rfl, ?_, fun fs hr => castTop (ef_2 m a_) ?_⟩
  · show Q_rec Z a_ h0 n0 _ T1.heap _
    rw [(e1 : T1.heap = h0)]
    exact ⟨rfl, N0, rfl⟩
  · show Steps _ _ _ (s₁.setTop (mkF m 0 #[vA a_] [])) _
    refine XS.aloadN X0.here hx rfl (hb hby d362) rfl rfl ?_
    refine st1 _ ?_
    show Steps _ _ _ (T1.setTop (mkF m 4 #[vA a_] [])) _
    exact X1.returnOut hx hret (hb hby d364) hr
theorem d365 : decode prog_47_method_1_code 9 = .ok (.astore 7, 2) := by decide +kernel
theorem d366 : decode prog_47_method_1_code 11 = .ok (.aload 8, 2) := by decide +kernel
theorem w_113 {Z : State} {a0 : Array Value} (hw : HW Z a0) : (Jvm.Cond.methodLink "com/example/ratify/ratify/recovery/RecoveryReport" (7 : Nat) m_17).before a0 Z = true := hw _ (List.mem_of_getElem? (i := 113) rfl)
theorem w_116 {Z : State} {a0 : Array Value} (hw : HW Z a0) : (Jvm.Cond.code m_17 jdk_40_method_48_code (1 : Nat) (Option.some (FieldType.object "java/util/List"))).before a0 Z = true := hw _ (List.mem_of_getElem? (i := 116) rfl)
theorem d367 : decode prog_47_method_1_code 13 = .ok (.invokestatic 7, 3) := by decide +kernel
theorem w_114 {Z : State} {a0 : Array Value} (hw : HW Z a0) : (Jvm.Cond.static m_17).before a0 Z = true := hw _ (List.mem_of_getElem? (i := 114) rfl)
theorem d368 : decode prog_47_method_1_code 16 = .ok (.astore 8, 2) := by decide +kernel
theorem d369 : decode prog_47_method_1_code 18 = .ok (.aload 9, 2) := by decide +kernel
theorem d370 : decode prog_47_method_1_code 20 = .ok (.invokestatic 7, 3) := by decide +kernel
theorem d371 : decode prog_47_method_1_code 23 = .ok (.astore 9, 2) := by decide +kernel
theorem w_202 {Z : State} {a0 : Array Value} (hw : HW Z a0) : (Jvm.Cond.classLink "com/example/ratify/ratify/recovery/RecoveryReport" (13 : Nat) "java/util/LinkedHashMap").before a0 Z = true := hw _ (List.mem_of_getElem? (i := 202) rfl)
theorem w_204 {Z : State} {a0 : Array Value} (hw : HW Z a0) : (Jvm.Cond.initialized "java/util/LinkedHashMap").before a0 Z = true := hw _ (List.mem_of_getElem? (i := 204) rfl)
theorem d372 : decode prog_47_method_1_code 25 = .ok (.new 13, 3) := by decide +kernel
theorem d373 : decode prog_47_method_1_code 28 = .ok (.dup, 1) := by decide +kernel
theorem w_205 {Z : State} {a0 : Array Value} (hw : HW Z a0) : (Jvm.Cond.methodLink "com/example/ratify/ratify/recovery/RecoveryReport" (15 : Nat) m_35).before a0 Z = true := hw _ (List.mem_of_getElem? (i := 205) rfl)
theorem w_207 {Z : State} {a0 : Array Value} (hw : HW Z a0) : (Jvm.Cond.code m_35 jdk_94_method_16_code (1 : Nat) (Option.none : Option Jvm.ClassFile.FieldType)).before a0 Z = true := hw _ (List.mem_of_getElem? (i := 207) rfl)
theorem d374 : decode prog_47_method_1_code 29 = .ok (.invokespecial 15, 3) := by decide +kernel
theorem w_206 {Z : State} {a0 : Array Value} (hw : HW Z a0) : (Jvm.Cond.instanceMethod m_35).before a0 Z = true := hw _ (List.mem_of_getElem? (i := 206) rfl)
theorem d375 : decode prog_47_method_1_code 32 = .ok (.astore 14, 2) := by decide +kernel
theorem d376 : decode prog_47_method_1_code 34 = .ok (.aload 10, 2) := by decide +kernel
abbrev m_47 : MethodName := (⟨"java/util/Map", "entrySet", "()Ljava/util/Set;"⟩ : MethodName)
theorem w_217 {Z : State} {a0 : Array Value} (hw : HW Z a0) : (Jvm.Cond.methodLink "com/example/ratify/ratify/recovery/RecoveryReport" (16 : Nat) m_47).before a0 Z = true := hw _ (List.mem_of_getElem? (i := 217) rfl)
theorem w_225 {Z : State} {a0 : Array Value} (hw : HW Z a0) : (Jvm.Cond.code m_38 jdk_69_method_29_code (2 : Nat) (Option.some (FieldType.object "java/util/Set"))).before a0 Z = true := hw _ (List.mem_of_getElem? (i := 225) rfl)
theorem pd_20 : parseMethodDescriptor "()Ljava/util/Set;" = some ⟨[], some (.object "java/util/Set")⟩ := by decide +kernel
theorem d377 : decode prog_47_method_1_code 36 = .ok (.invokeinterface 16 1, 5) := by decide +kernel
theorem w_218 {Z : State} {a0 : Array Value} (hw : HW Z a0) : (Jvm.Cond.declares m_47).before a0 Z = true := hw _ (List.mem_of_getElem? (i := 218) rfl)
theorem w_219 {Z : State} {a0 : Array Value} (hw : HW Z a0) : (Jvm.Cond.interfaceMethod "java/util/Map" "java/util/Map" "entrySet" "()Ljava/util/Set;").before a0 Z = true := hw _ (List.mem_of_getElem? (i := 219) rfl)
theorem w_220 {Z : State} {a0 : Array Value} (hw : HW Z a0) : (Jvm.Cond.selects "java/util/HashMap" m_47 m_38).before a0 Z = true := hw _ (List.mem_of_getElem? (i := 220) rfl)
theorem w_221 {Z : State} {a0 : Array Value} (hw : HW Z a0) : (Jvm.Cond.instanceMethod m_38).before a0 Z = true := hw _ (List.mem_of_getElem? (i := 221) rfl)
theorem w_222 {Z : State} {a0 : Array Value} (hw : HW Z a0) : (Jvm.Cond.publicMethod m_38).before a0 Z = true := hw _ (List.mem_of_getElem? (i := 222) rfl)
theorem w_223 {Z : State} {a0 : Array Value} (hw : HW Z a0) : (Jvm.Cond.unhidden "java/util/HashMap" "entrySet" "()Ljava/util/Set;").before a0 Z = true := hw _ (List.mem_of_getElem? (i := 223) rfl)
theorem w_224 {Z : State} {a0 : Array Value} (hw : HW Z a0) : (Jvm.Cond.castable "java/util/HashMap" "java/util/Map").before a0 Z = true := hw _ (List.mem_of_getElem? (i := 224) rfl)
abbrev m_48 : MethodName := (⟨"java/util/Set", "iterator", "()Ljava/util/Iterator;"⟩ : MethodName)
theorem w_245 {Z : State} {a0 : Array Value} (hw : HW Z a0) : (Jvm.Cond.methodLink "com/example/ratify/ratify/recovery/RecoveryReport" (22 : Nat) m_48).before a0 Z = true := hw _ (List.mem_of_getElem? (i := 245) rfl)
theorem w_253 {Z : State} {a0 : Array Value} (hw : HW Z a0) : (Jvm.Cond.code m_41 jdk_111_method_4_code (1 : Nat) (Option.some (FieldType.object "java/util/Iterator"))).before a0 Z = true := hw _ (List.mem_of_getElem? (i := 253) rfl)
theorem pd_21 : parseMethodDescriptor "()Ljava/util/Iterator;" = some ⟨[], some (.object "java/util/Iterator")⟩ := by decide +kernel
theorem d378 : decode prog_47_method_1_code 41 = .ok (.invokeinterface 22 1, 5) := by decide +kernel
theorem w_246 {Z : State} {a0 : Array Value} (hw : HW Z a0) : (Jvm.Cond.declares m_48).before a0 Z = true := hw _ (List.mem_of_getElem? (i := 246) rfl)
theorem w_247 {Z : State} {a0 : Array Value} (hw : HW Z a0) : (Jvm.Cond.interfaceMethod "java/util/Set" "java/util/Set" "iterator" "()Ljava/util/Iterator;").before a0 Z = true := hw _ (List.mem_of_getElem? (i := 247) rfl)
theorem w_248 {Z : State} {a0 : Array Value} (hw : HW Z a0) : (Jvm.Cond.selects "java/util/HashMap$EntrySet" m_48 m_41).before a0 Z = true := hw _ (List.mem_of_getElem? (i := 248) rfl)
theorem w_249 {Z : State} {a0 : Array Value} (hw : HW Z a0) : (Jvm.Cond.instanceMethod m_41).before a0 Z = true := hw _ (List.mem_of_getElem? (i := 249) rfl)
theorem w_250 {Z : State} {a0 : Array Value} (hw : HW Z a0) : (Jvm.Cond.publicMethod m_41).before a0 Z = true := hw _ (List.mem_of_getElem? (i := 250) rfl)
theorem w_251 {Z : State} {a0 : Array Value} (hw : HW Z a0) : (Jvm.Cond.unhidden "java/util/HashMap$EntrySet" "iterator" "()Ljava/util/Iterator;").before a0 Z = true := hw _ (List.mem_of_getElem? (i := 251) rfl)
theorem w_252 {Z : State} {a0 : Array Value} (hw : HW Z a0) : (Jvm.Cond.castable "java/util/HashMap$EntrySet" "java/util/Set").before a0 Z = true := hw _ (List.mem_of_getElem? (i := 252) rfl)
theorem d379 : decode prog_47_method_1_code 46 = .ok (.astore 15, 2) := by decide +kernel
theorem d380 : decode prog_47_method_1_code 48 = .ok (.aload 15, 2) := by decide +kernel
abbrev m_49 : MethodName := (⟨"java/util/Iterator", "hasNext", "()Z"⟩ : MethodName)
theorem w_282 {Z : State} {a0 : Array Value} (hw : HW Z a0) : (Jvm.Cond.methodLink "com/example/ratify/ratify/recovery/RecoveryReport" (28 : Nat) m_49).before a0 Z = true := hw _ (List.mem_of_getElem? (i := 282) rfl)
theorem w_290 {Z : State} {a0 : Array Value} (hw : HW Z a0) : (Jvm.Cond.code m_42 jdk_99_method_2_code (1 : Nat) (Option.some FieldType.boolean)).before a0 Z = true := hw _ (List.mem_of_getElem? (i := 290) rfl)
theorem d381 : decode prog_47_method_1_code 50 = .ok (.invokeinterface 28 1, 5) := by decide +kernel
theorem w_283 {Z : State} {a0 : Array Value} (hw : HW Z a0) : (Jvm.Cond.declares m_49).before a0 Z = true := hw _ (List.mem_of_getElem? (i := 283) rfl)
theorem w_284 {Z : State} {a0 : Array Value} (hw : HW Z a0) : (Jvm.Cond.interfaceMethod "java/util/Iterator" "java/util/Iterator" "hasNext" "()Z").before a0 Z = true := hw _ (List.mem_of_getElem? (i := 284) rfl)
theorem w_285 {Z : State} {a0 : Array Value} (hw : HW Z a0) : (Jvm.Cond.selects "java/util/HashMap$EntryIterator" m_49 m_42).before a0 Z = true := hw _ (List.mem_of_getElem? (i := 285) rfl)
theorem w_286 {Z : State} {a0 : Array Value} (hw : HW Z a0) : (Jvm.Cond.instanceMethod m_42).before a0 Z = true := hw _ (List.mem_of_getElem? (i := 286) rfl)
theorem w_287 {Z : State} {a0 : Array Value} (hw : HW Z a0) : (Jvm.Cond.publicMethod m_42).before a0 Z = true := hw _ (List.mem_of_getElem? (i := 287) rfl)
theorem w_288 {Z : State} {a0 : Array Value} (hw : HW Z a0) : (Jvm.Cond.unhidden "java/util/HashMap$EntryIterator" "hasNext" "()Z").before a0 Z = true := hw _ (List.mem_of_getElem? (i := 288) rfl)
theorem w_289 {Z : State} {a0 : Array Value} (hw : HW Z a0) : (Jvm.Cond.castable "java/util/HashMap$EntryIterator" "java/util/Iterator").before a0 Z = true := hw _ (List.mem_of_getElem? (i := 289) rfl)
theorem d382 : decode prog_47_method_1_code 55 = .ok (.ifCond .eq 49, 3) := by decide +kernel
theorem d383 : decode prog_47_method_1_code 104 = .ok (.aload 14, 2) := by decide +kernel
theorem w_291 {Z : State} {a0 : Array Value} (hw : HW Z a0) : (Jvm.Cond.methodLink "com/example/ratify/ratify/recovery/RecoveryReport" (54 : Nat) m_45).before a0 Z = true := hw _ (List.mem_of_getElem? (i := 291) rfl)
theorem w_294 {Z : State} {a0 : Array Value} (hw : HW Z a0) : (Jvm.Cond.code m_45 jdk_79_method_36_code (1 : Nat) (Option.some (FieldType.object "java/util/Map"))).before a0 Z = true := hw _ (List.mem_of_getElem? (i := 294) rfl)
theorem w_293 {Z : State} {a0 : Array Value} (hw : HW Z a0) : (Jvm.Cond.initialized "java/util/Collections").before a0 Z = true := hw _ (List.mem_of_getElem? (i := 293) rfl)
theorem pd_22 : parseMethodDescriptor "(Ljava/util/Map;)Ljava/util/Map;" = some ⟨[(.object "java/util/Map")], some (.object "java/util/Map")⟩ := by decide +kernel
theorem d384 : decode prog_47_method_1_code 106 = .ok (.invokestatic 54, 3) := by decide +kernel
theorem w_292 {Z : State} {a0 : Array Value} (hw : HW Z a0) : (Jvm.Cond.static m_45).before a0 Z = true := hw _ (List.mem_of_getElem? (i := 292) rfl)
theorem d385 : decode prog_47_method_1_code 109 = .ok (.astore 10, 2) := by decide +kernel
theorem d386 : decode prog_47_method_1_code 111 = .ok (.aload 11, 2) := by decide +kernel
theorem d387 : decode prog_47_method_1_code 113 = .ok (.invokestatic 7, 3) := by decide +kernel
theorem d388 : decode prog_47_method_1_code 116 = .ok (.astore 11, 2) := by decide +kernel
theorem d389 : decode prog_47_method_1_code 118 = .ok (.aload 12, 2) := by decide +kernel
theorem d390 : decode prog_47_method_1_code 120 = .ok (.invokestatic 7, 3) := by decide +kernel
theorem d391 : decode prog_47_method_1_code 123 = .ok (.astore 12, 2) := by decide +kernel
theorem d392 : decode prog_47_method_1_code 125 = .ok (.aload 13, 2) := by decide +kernel
theorem d393 : decode prog_47_method_1_code 127 = .ok (.invokestatic 7, 3) := by decide +kernel
theorem d394 : decode prog_47_method_1_code 130 = .ok (.astore 13, 2) := by decide +kernel
theorem d395 : decode prog_47_method_1_code 132 = .ok (.aload_n 0, 1) := by decide +kernel
theorem d396 : decode prog_47_method_1_code 133 = .ok (.lload_n 1, 1) := by decide +kernel
theorem w_312 {Z : State} {a0 : Array Value} (hw : HW Z a0) : (Jvm.Cond.fieldLink "com/example/ratify/ratify/recovery/RecoveryReport" (60 : Nat) "com/example/ratify/ratify/recovery/RecoveryReport" "committed" "J").before a0 Z = true := hw _ (List.mem_of_getElem? (i := 312) rfl)
theorem w_313 {Z : State} {a0 : Array Value} (hw : HW Z a0) : (Jvm.Cond.laysFinal "com/example/ratify/ratify/recovery/RecoveryReport" "com/example/ratify/ratify/recovery/RecoveryReport" "committed" "J").before a0 Z = true := hw _ (List.mem_of_getElem? (i := 313) rfl)
theorem w_102 {Z : State} {a0 : Array Value} (hw : HW Z a0) : (Jvm.Cond.instantiable "com/example/ratify/ratify/recovery/RecoveryReport" (10 : Nat)).before a0 Z = true := hw _ (List.mem_of_getElem? (i := 102) rfl)
theorem d397 : decode prog_47_method_1_code 134 = .ok (.putfield 60, 3) := by decide +kernel
theorem d398 : decode prog_47_method_1_code 137 = .ok (.aload_n 0, 1) := by decide +kernel
theorem d399 : decode prog_47_method_1_code 138 = .ok (.lload_n 3, 1) := by decide +kernel
theorem w_314 {Z : State} {a0 : Array Value} (hw : HW Z a0) : (Jvm.Cond.fieldLink "com/example/ratify/ratify/recovery/RecoveryReport" (66 : Nat) "com/example/ratify/ratify/recovery/RecoveryReport" "rolledBack" "J").before a0 Z = true := hw _ (List.mem_of_getElem? (i := 314) rfl)
theorem w_315 {Z : State} {a0 : Array Value} (hw : HW Z a0) : (Jvm.Cond.laysFinal "com/example/ratify/ratify/recovery/RecoveryReport" "com/example/ratify/ratify/recovery/RecoveryReport" "rolledBack" "J").before a0 Z = true := hw _ (List.mem_of_getElem? (i := 315) rfl)
theorem d400 : decode prog_47_method_1_code 139 = .ok (.putfield 66, 3) := by decide +kernel
theorem d401 : decode prog_47_method_1_code 142 = .ok (.aload_n 0, 1) := by decide +kernel
theorem d402 : decode prog_47_method_1_code 143 = .ok (.lload 5, 2) := by decide +kernel
theorem w_316 {Z : State} {a0 : Array Value} (hw : HW Z a0) : (Jvm.Cond.fieldLink "com/example/ratify/ratify/recovery/RecoveryReport" (69 : Nat) "com/example/ratify/ratify/recovery/RecoveryReport" "pending" "J").before a0 Z = true := hw _ (List.mem_of_getElem? (i := 316) rfl)
theorem w_317 {Z : State} {a0 : Array Value} (hw : HW Z a0) : (Jvm.Cond.laysFinal "com/example/ratify/ratify/recovery/RecoveryReport" "com/example/ratify/ratify/recovery/RecoveryReport" "pending" "J").before a0 Z = true := hw _ (List.mem_of_getElem? (i := 317) rfl)
theorem d403 : decode prog_47_method_1_code 145 = .ok (.putfield 69, 3) := by decide +kernel
theorem d404 : decode prog_47_method_1_code 148 = .ok (.aload_n 0, 1) := by decide +kernel
theorem d405 : decode prog_47_method_1_code 149 = .ok (.aload 7, 2) := by decide +kernel
theorem w_318 {Z : State} {a0 : Array Value} (hw : HW Z a0) : (Jvm.Cond.fieldLink "com/example/ratify/ratify/recovery/RecoveryReport" (72 : Nat) "com/example/ratify/ratify/recovery/RecoveryReport" "unreachable" "Ljava/util/List;").before a0 Z = true := hw _ (List.mem_of_getElem? (i := 318) rfl)
theorem w_319 {Z : State} {a0 : Array Value} (hw : HW Z a0) : (Jvm.Cond.laysFinal "com/example/ratify/ratify/recovery/RecoveryReport" "com/example/ratify/ratify/recovery/RecoveryReport" "unreachable" "Ljava/util/List;").before a0 Z = true := hw _ (List.mem_of_getElem? (i := 319) rfl)
theorem d406 : decode prog_47_method_1_code 151 = .ok (.putfield 72, 3) := by decide +kernel
theorem d407 : decode prog_47_method_1_code 154 = .ok (.aload_n 0, 1) := by decide +kernel
theorem d408 : decode prog_47_method_1_code 155 = .ok (.aload 8, 2) := by decide +kernel
theorem w_320 {Z : State} {a0 : Array Value} (hw : HW Z a0) : (Jvm.Cond.fieldLink "com/example/ratify/ratify/recovery/RecoveryReport" (76 : Nat) "com/example/ratify/ratify/recovery/RecoveryReport" "failures" "Ljava/util/List;").before a0 Z = true := hw _ (List.mem_of_getElem? (i := 320) rfl)
theorem w_321 {Z : State} {a0 : Array Value} (hw : HW Z a0) : (Jvm.Cond.laysFinal "com/example/ratify/ratify/recovery/RecoveryReport" "com/example/ratify/ratify/recovery/RecoveryReport" "failures" "Ljava/util/List;").before a0 Z = true := hw _ (List.mem_of_getElem? (i := 321) rfl)
theorem d409 : decode prog_47_method_1_code 157 = .ok (.putfield 76, 3) := by decide +kernel
theorem d410 : decode prog_47_method_1_code 160 = .ok (.aload_n 0, 1) := by decide +kernel
theorem d411 : decode prog_47_method_1_code 161 = .ok (.aload 9, 2) := by decide +kernel
theorem w_322 {Z : State} {a0 : Array Value} (hw : HW Z a0) : (Jvm.Cond.fieldLink "com/example/ratify/ratify/recovery/RecoveryReport" (79 : Nat) "com/example/ratify/ratify/recovery/RecoveryReport" "finished" "Ljava/util/List;").before a0 Z = true := hw _ (List.mem_of_getElem? (i := 322) rfl)
theorem w_323 {Z : State} {a0 : Array Value} (hw : HW Z a0) : (Jvm.Cond.laysFinal "com/example/ratify/ratify/recovery/RecoveryReport" "com/example/ratify/ratify/recovery/RecoveryReport" "finished" "Ljava/util/List;").before a0 Z = true := hw _ (List.mem_of_getElem? (i := 323) rfl)
theorem d412 : decode prog_47_method_1_code 163 = .ok (.putfield 79, 3) := by decide +kernel
theorem d413 : decode prog_47_method_1_code 166 = .ok (.aload_n 0, 1) := by decide +kernel
theorem d414 : decode prog_47_method_1_code 167 = .ok (.aload 10, 2) := by decide +kernel
theorem w_324 {Z : State} {a0 : Array Value} (hw : HW Z a0) : (Jvm.Cond.fieldLink "com/example/ratify/ratify/recovery/RecoveryReport" (82 : Nat) "com/example/ratify/ratify/recovery/RecoveryReport" "unfinished" "Ljava/util/Map;").before a0 Z = true := hw _ (List.mem_of_getElem? (i := 324) rfl)
theorem w_325 {Z : State} {a0 : Array Value} (hw : HW Z a0) : (Jvm.Cond.laysFinal "com/example/ratify/ratify/recovery/RecoveryReport" "com/example/ratify/ratify/recovery/RecoveryReport" "unfinished" "Ljava/util/Map;").before a0 Z = true := hw _ (List.mem_of_getElem? (i := 325) rfl)
theorem d415 : decode prog_47_method_1_code 169 = .ok (.putfield 82, 3) := by decide +kernel
theorem d416 : decode prog_47_method_1_code 172 = .ok (.aload_n 0, 1) := by decide +kernel
theorem d417 : decode prog_47_method_1_code 173 = .ok (.aload 11, 2) := by decide +kernel
theorem w_326 {Z : State} {a0 : Array Value} (hw : HW Z a0) : (Jvm.Cond.fieldLink "com/example/ratify/ratify/recovery/RecoveryReport" (86 : Nat) "com/example/ratify/ratify/recovery/RecoveryReport" "waiting" "Ljava/util/List;").before a0 Z = true := hw _ (List.mem_of_getElem? (i := 326) rfl)
theorem w_327 {Z : State} {a0 : Array Value} (hw : HW Z a0) : (Jvm.Cond.laysFinal "com/example/ratify/ratify/recovery/RecoveryReport" "com/example/ratify/ratify/recovery/RecoveryReport" "waiting" "Ljava/util/List;").before a0 Z = true := hw _ (List.mem_of_getElem? (i := 327) rfl)
theorem d418 : decode prog_47_method_1_code 175 = .ok (.putfield 86, 3) := by decide +kernel
theorem d419 : decode prog_47_method_1_code 178 = .ok (.aload_n 0, 1) := by decide +kernel
theorem d420 : decode prog_47_method_1_code 179 = .ok (.aload 12, 2) := by decide +kernel
theorem w_328 {Z : State} {a0 : Array Value} (hw : HW Z a0) : (Jvm.Cond.fieldLink "com/example/ratify/ratify/recovery/RecoveryReport" (89 : Nat) "com/example/ratify/ratify/recovery/RecoveryReport" "deferred" "Ljava/util/List;").before a0 Z = true := hw _ (List.mem_of_getElem? (i := 328) rfl)
theorem w_329 {Z : State} {a0 : Array Value} (hw : HW Z a0) : (Jvm.Cond.laysFinal "com/example/ratify/ratify/recovery/RecoveryReport" "com/example/ratify/ratify/recovery/RecoveryReport" "deferred" "Ljava/util/List;").before a0 Z = true := hw _ (List.mem_of_getElem? (i := 329) rfl)
theorem d421 : decode prog_47_method_1_code 181 = .ok (.putfield 89, 3) := by decide +kernel
theorem d422 : decode prog_47_method_1_code 184 = .ok (.aload_n 0, 1) := by decide +kernel
theorem d423 : decode prog_47_method_1_code 185 = .ok (.aload 13, 2) := by decide +kernel
theorem w_330 {Z : State} {a0 : Array Value} (hw : HW Z a0) : (Jvm.Cond.fieldLink "com/example/ratify/ratify/recovery/RecoveryReport" (92 : Nat) "com/example/ratify/ratify/recovery/RecoveryReport" "decided" "Ljava/util/List;").before a0 Z = true := hw _ (List.mem_of_getElem? (i := 330) rfl)
theorem w_331 {Z : State} {a0 : Array Value} (hw : HW Z a0) : (Jvm.Cond.laysFinal "com/example/ratify/ratify/recovery/RecoveryReport" "com/example/ratify/ratify/recovery/RecoveryReport" "decided" "Ljava/util/List;").before a0 Z = true := hw _ (List.mem_of_getElem? (i := 331) rfl)
theorem d424 : decode prog_47_method_1_code 187 = .ok (.putfield 92, 3) := by decide +kernel
theorem pz_rrp {p : Program} {l : Launch} {e : Env} {R : Room} {s : State} {m : MethodId} {args : Array Value} {below : List Frame} {meth : Method} {c : Code} {T : State} {locs : List Loc} {cells slots : Nat} {Z : State} {a0 : Array Value} (X0 : Stand p l e R s m args below meth c T locs cells slots) (hx : p.tables.exec = Jvm.exec) (hw : HW Z a0) (hZ : Z.Warmed39 s.vm) (hown : s.vm.findClass "com/example/ratify/ratify/recovery/RecoveryReport" = some m.cls) (hby : c.code = prog_47_method_1_code) (hml : c.maxLocals = 17) (ad : Addr) (c0 : Int64) (c1 : Int64) (c2 : Int64) (lu : Addr) (ru : Addr) (lf : Addr) (l2 : Addr) (v2 : Addr) (kv2 : ClassId) (sn2 : Int32) (sN2 : Int32) (vs2 : List Value) (mp : Addr) (l3 : Addr) (v3 : Addr) (kv3 : ClassId) (sn3 : Int32) (sN3 : Int32) (vs3 : List Value) (l4 : Addr) (v4 : Addr) (kv4 : ClassId) (sn4 : Int32) (sN4 : Int32) (vs4 : List Value) (l5 : Addr) (v5 : Addr) (kv5 : ClassId) (sn5 : Int32) (sN5 : Int32) (vs5 : List Value) (nm : Addr) (ot : Addr) (el : Addr) (em : Addr) (mo : Addr) (ml : Addr) (mu : Addr) {h0 : Heap} {n0 : Nat} (e0 : T.heap = h0) (N0 : Fr n0 locs) (Z0 : n0 ≤ h0.size) (P0 : Old Z n0 h0) (P1 : sta2 Z (.ref el)) (P2 : sta3 Z (.ref em)) (P3 : Mi Z "[Ljava/lang/Object;" mo) (P4 : Mi Z "java/util/LinkedHashMap" ml) (P5 : Mi Z "java/util/Collections$UnmodifiableMap" mu) (P6 : Exa Z h0 ad "com/example/ratify/ratify/recovery/RecoveryReport") (P7 : fld11 Z h0 ad (.long (0 : Int64))) (P8 : fld12 Z h0 ad (.long (0 : Int64))) (P9 : fld13 Z h0 ad (.long (0 : Int64))) (P10 : fld14 Z h0 ad .null) (P11 : fld15 Z h0 ad .null) (P12 : fld16 Z h0 ad .null) (P13 : Fld Z h0 ad "com/example/ratify/ratify/recovery/RecoveryReport" "unfinished" "Ljava/util/Map;" .null) (P14 : fld17 Z h0 ad .null) (P15 : fld18 Z h0 ad .null) (P16 : fld19 Z h0 ad .null) (P17 : Exa Z h0 lf "java/util/ArrayList") (P18 : fld2 Z h0 lf (.int 0)) (P19 : Exa Z h0 l2 "java/util/ArrayList") (P20 : fld2 Z h0 l2 (.int sn2)) (P21 : fld3 Z h0 l2 (.ref v2)) (P22 : Exa Z h0 v2 "[Ljava/lang/Object;") (P23 : Arv Z h0 v2 kv2 (.object "java/lang/Object") sN2 vs2 .null) (P24 : Exa Z h0 l3 "java/util/ArrayList") (P25 : fld2 Z h0 l3 (.int sn3)) (P26 : fld3 Z h0 l3 (.ref v3)) (P27 : Exa Z h0 v3 "[Ljava/lang/Object;") (P28 : Arv Z h0 v3 kv3 (.object "java/lang/Object") sN3 vs3 .null) (P29 : Exa Z h0 l4 "java/util/ArrayList") (P30 : fld2 Z h0 l4 (.int sn4)) (P31 : fld3 Z h0 l4 (.ref v4)) (P32 : Exa Z h0 v4 "[Ljava/lang/Object;") (P33 : Arv Z h0 v4 kv4 (.object "java/lang/Object") sN4 vs4 .null) (P34 : Exa Z h0 l5 "java/util/ArrayList") (P35 : fld2 Z h0 l5 (.int sn5)) (P36 : fld3 Z h0 l5 (.ref v5)) (P37 : Exa Z h0 v5 "[Ljava/lang/Object;") (P38 : Arv Z h0 v5 kv5 (.object "java/lang/Object") sN5 vs5 .null) (P39 : Exa Z h0 nm "java/lang/String") (P40 : Exa Z h0 ot "java/lang/String") (P41 : Exa Z h0 mp "java/util/HashMap") (P42 : fld5 Z h0 mp .null) (P43 : fld6 Z h0 mp (.int 0)) (P44 : fld7 Z h0 mp .null) (P45 : n0 ≤ ad) (P46 : n0 ≤ mp) (P47 : ad ≠ mp) (P48 : l3 ≠ mp) (P49 : v3 ≠ mp) (P50 : l4 ≠ mp) (P51 : v4 ≠ mp) (P52 : l5 ≠ mp) (P53 : v5 ≠ mp) (hls2 : LS1 sn2 sN2 vs2 ot) (hls3 : LS1 sn3 sN3 vs3 nm) (hls4 : LS1 sn4 sN4 vs4 ot) (hls5 : LS1 sn5 sN5 vs5 nm) (hnm : meth.name = "<init>") (hFr : 8 ≤ R.frames) (hLo : 100 ≤ R.locals) (hCe : cells + 12 ≤ R.cells) (hSl : slots + 34 ≤ R.slots) :
    ∃ (T' : State) (h' : Heap) (locs' : List Loc) (r2 : Addr) (rm : Addr) (r3 : Addr) (r4 : Addr) (r5 : Addr) (lh : Addr) (tr : Addr), Stand p l e R s m args below meth c T' locs' (cells + 12) (slots + 34) ∧ T'.heap = h' ∧ Fr n0 locs' ∧ Keep h0 h' [ad, mp] ∧ (Exa Z h' ad "com/example/ratify/ratify/recovery/RecoveryReport") ∧ (fld13 Z h' ad (.long c2)) ∧ (fld14 Z h' ad (.ref ru)) ∧ ∀ target, Steps p.tables e below (T'.setTop (mkF m 190 #[vA ad, .val (.long c0), .second, .val (.long c1), .second, .val (.long c2), .second, vA ru, vA el, vA r2, vA rm, vA r3, vA r4, vA r5, vA lh, vA tr, .unset] [])) target → Steps p.tables e below (T.setTop (mkF m 9 #[vA ad, .val (.long c0), .second, .val (.long c1), .second, .val (.long c2), .second, vA lu, vA lf, vA l2, vA mp, vA l3, vA l4, vA l5, .unset, .unset, .unset] [(.ref ru)])) target := by
  have K0 := Keep.refl h0 [ad, mp]
  have lt1 := own_l P6.lt
  have lt2 := own_l P7.lt
  have lt3 := own_l P8.lt
  have lt4 := own_l P9.lt
  have lt5 := own_l P10.lt
  have lt6 := own_l P11.lt
  have lt7 := own_l P12.lt
  have lt8 := own_l P13.lt
  have lt9 := own_l P14.lt
  have lt10 := own_l P15.lt
  have lt11 := own_l P16.lt
  have lt12 := own_l P17.lt
  have lt13 := own_l P18.lt
  have lt14 := own_l P19.lt
  have lt15 := own_l P20.lt
  have lt16 := own_l P21.lt
  have lt17 := own_l P22.lt
  have lt18 := own_l P23.lt
  have lt19 := own_l P24.lt
  have lt20 := own_l P25.lt
  have lt21 := own_l P26.lt
  have lt22 := own_l P27.lt
  have lt23 := own_l P28.lt
  have lt24 := own_l P29.lt
  have lt25 := own_l P30.lt
  have lt26 := own_l P31.lt
  have lt27 := own_l P32.lt
  have lt28 := own_l P33.lt
  have lt29 := own_l P34.lt
  have lt30 := own_l P35.lt
  have lt31 := own_l P36.lt
  have lt32 := own_l P37.lt
  have lt33 := own_l P38.lt
  have lt34 := own_l P39.lt
  have lt35 := own_l P40.lt
  have lt36 := own_l P41.lt
  have lt37 := own_l P42.lt
  have lt38 := own_l P43.lt
  have lt39 := own_l P44.lt
  obtain ⟨_, _, ⟨T40, L40, k40, n40⟩, -, X40, ⟨Lc40, hQ40, l40, y40, z40⟩, st40⟩ := Jvm.LawKit.callS X0 hx (y := m_17) hown (mvT hZ (w_113 hw)) (mvT hZ (w_114 hw)) (mvT hZ (w_115 hw)) (mvT hZ (w_116 hw)) (by decide) (backOf (W := 0) (rm_cp0 l Z a0 hw [] lf el h0 n0 (by omega) P0 P1 P17 P18) hZ (w_116 hw) (w_115 hw) (Nat.le_trans (by decide) hFr) (Nat.le_trans (by decide) hLo)) (g := (mkF m 13 #[vA ad, .val (.long c0), .second, .val (.long c1), .second, .val (.long c2), .second, vA ru, vA lf, vA l2, vA mp, vA l3, vA l4, vA l5, .unset, .unset, .unset] [(.ref lf)])) rfl (by rw [hml]; rfl) (argsL := [(.ref lf)]) (rest := []) (lenOf pd_10 rfl) rfl (Nat.le_of_eq rfl) (hb hby d367) (fun _ _ => ⟨rfl, e0, (by show cells + 0 + 0 ≤ _; omega), (by show slots + 0 + 0 ≤ _; omega)⟩)
  dsimp only [Pt.U, Pt.locs, Pt.cells, Pt.slots] at X40 l40 y40 z40 st40 hQ40
  rw [l40, y40, z40] at X40
  obtain ⟨rfl, Nq40, Kq40⟩ := hQ40
  have N40 := Fr.app N0 Nq40
  replace X40 : Stand p l e R s m args below meth c T40 _ (cells + 0) (slots + 0) := X40
  obtain ⟨_, _, ⟨T41, L41, k41, n41⟩, -, X41, ⟨Lc41, hQ41, l41, y41, z41⟩, st41⟩ := Jvm.LawKit.callS X40 hx (y := m_17) hown (mvT hZ (w_113 hw)) (mvT hZ (w_114 hw)) (mvT hZ (w_115 hw)) (mvT hZ (w_116 hw)) (by decide) (backOf (W := 0) (rm_cpa l Z a0 hw [] l2 v2 kv2 sn2 sN2 vs2 ot mo el em h0 n0 (by omega) P0 P1 P2 P3 P19 P20 P21 P22 P23 P40 hls2) hZ (w_116 hw) (w_115 hw) (Nat.le_trans (by decide) hFr) (Nat.le_trans (by decide) hLo)) (g := (mkF m 20 #[vA ad, .val (.long c0), .second, .val (.long c1), .second, .val (.long c2), .second, vA ru, vA el, vA l2, vA mp, vA l3, vA l4, vA l5, .unset, .unset, .unset] [(.ref l2)])) rfl (by rw [hml]; rfl) (argsL := [(.ref l2)]) (rest := []) (lenOf pd_10 rfl) rfl (Nat.le_of_eq rfl) (hb hby d370) (fun _ _ => ⟨rfl, Kq40, (by show cells + 0 + 2 ≤ _; omega), (by show slots + 0 + 3 ≤ _; omega)⟩)
  dsimp only [Pt.U, Pt.locs, Pt.cells, Pt.slots] at X41 l41 y41 z41 st41 hQ41
  rw [l41, y41, z41] at X41
  obtain ⟨x41_r, rfl, Nq41, Kq41⟩ := hQ41
  have N41 := Fr.app N40 Nq41
  have z41' := Kq41.1
  have K41 := K0.trans Kq41 all0
  replace X41 : Stand p l e R s m args below meth c T41 _ (cells + 2) (slots + 3) := X41
  obtain ⟨T42, h42, X42, e42, E42, A42, D42, -, st42⟩ := newO X41 hx hZ hown (w_202 hw) (w_203 hw) (w_204 hw) rfl (g := (mkF m 25 #[vA ad, .val (.long c0), .second, .val (.long c1), .second, .val (.long c2), .second, vA ru, vA el, vA x41_r, vA mp, vA l3, vA l4, vA l5, .unset, .unset, .unset] [])) rfl (hb hby d372) (by omega) (by omega)
  obtain ⟨b42, g42⟩ : ∃ z, z = T41.heap.size := ⟨_, rfl⟩
  rw [← g42] at A42 D42 st42
  have z42 := E42.1
  have K42 := K41.ext E42
  replace X42 : Stand p l e R s m args below meth c T42 _ (cells + 3) (slots + 15) := X42
  have lt43 := own_l A42.lt
  have F42_212 : Fld Z h42 b42 "java/util/HashMap" "loadFactor" "F" (.float 0) := D42 (Or.inr (w_212 hw)) (ty := .float) (by decide)
  have F42_214 : Fld Z h42 b42 "java/util/LinkedHashMap" "putMode" "I" (.int 0) := D42 (Or.inl (w_214 hw)) (ty := .int) (by decide)
  have F42_216 : Fld Z h42 b42 "java/util/LinkedHashMap" "accessOrder" "Z" (.int 0) := D42 (Or.inr (w_216 hw)) (ty := .boolean) (by decide)
  obtain ⟨_, _, ⟨T44, L44, k44, n44⟩, -, X44, ⟨Lc44, hQ44, l44, y44, z44⟩, st44⟩ := X42.specialBack hx (y := m_35) rfl hown (mvT hZ (w_205 hw)) (mvT hZ (w_206 hw)) (mvT hZ (w_207 hw)) (by decide) (backOf (W := 1) (rm_lhm l Z a0 hw [] b42 h42 n0 (by omega) A42 F42_212 F42_214 F42_216 (by omega)) hZ (w_207 hw) (w_204 hw) (Nat.le_trans (by decide) hFr) (Nat.le_trans (by decide) hLo)) (g := (mkF m 29 #[vA ad, .val (.long c0), .second, .val (.long c1), .second, .val (.long c2), .second, vA ru, vA el, vA x41_r, vA mp, vA l3, vA l4, vA l5, .unset, .unset, .unset] [(.ref b42), (.ref b42)])) rfl (by rw [hml]; rfl) (Steps.refl _) (a := b42) (argsL := []) (rest := [(.ref b42)]) (lenOf pd_3 rfl) rfl (Nat.le_of_eq rfl) (hb hby d374) (fun _ _ => ⟨rfl, e42, (by show cells + 3 + 0 ≤ _; omega), (by show slots + 15 + 0 ≤ _; omega)⟩)
  dsimp only [Pt.U, Pt.locs, Pt.cells, Pt.slots] at X44 l44 y44 z44 st44 hQ44
  rw [l44, y44, z44] at X44
  obtain ⟨rfl, Nq44, Kq44, r44_0⟩ := hQ44
  have N44 := Fr.app N41 Nq44
  have z44' := Kq44.1
  have K44 := K42.trans Kq44 (allS (Or.inr (by omega)) all0)
  have lt45 := own_l r44_0.lt
  replace X44 : Stand p l e R s m args below meth c T44 _ (cells + 3) (slots + 15) := X44
  have f47 := P41.keep Kq41
  have f48 := f47.ext E42
  have f49 := f48.keep Kq44
  have f50 := P42.keep Kq41 nin0
  have f51 := f50.ext E42
  have f52 := f51.keep Kq44 (ninS (own_ne (by omega)) nin0)
  have f53 := P43.keep Kq41 nin0
  have f54 := f53.ext E42
  have f55 := f54.keep Kq44 (ninS (own_ne (by omega)) nin0)
  have f56 := P44.keep Kq41 nin0
  have f57 := f56.ext E42
  have f58 := f57.keep Kq44 (ninS (own_ne (by omega)) nin0)
  obtain ⟨cq46, kq46, qa46, qb46, qc46⟩ := isOf hZ rfl f49
  obtain ⟨_, _, ⟨T46, L46, k46, n46⟩, -, X46, ⟨Lc46, hQ46, l46, y46, z46⟩, st46⟩ := X44.interfaceBack hx (xi := m_47) (y := m_38) (C := "java/util/HashMap") hown (mvT hZ (w_217 hw)) (mvT hZ (w_218 hw)) (mvT hZ (w_219 hw)) (mvT hZ (w_220 hw)) (mvT hZ (w_221 hw)) (mvT hZ (w_222 hw)) (mvT hZ (w_223 hw)) (mvT hZ (w_224 hw)) (by decide) (backOf (W := 0) (rm_ets l Z a0 hw [] mp T44.heap n0 (by omega) f49 f52 f55 f58 (by omega)) hZ (w_225 hw) (w_87 hw) (Nat.le_trans (by decide) hFr) (Nat.le_trans (by decide) hLo)) qa46 qb46 qc46 (g := (mkF m 36 #[vA ad, .val (.long c0), .second, .val (.long c1), .second, .val (.long c2), .second, vA ru, vA el, vA x41_r, vA mp, vA l3, vA l4, vA l5, vA b42, .unset, .unset] [(.ref mp)])) rfl (by rw [hml]; rfl) (Steps.refl _) (argsL := []) (rest := []) (lenOf pd_20 rfl) rfl (Nat.le_of_eq rfl) (hb hby d377) (fun _ _ => ⟨rfl, rfl, (by show cells + 3 + 1 ≤ _; omega), (by show slots + 15 + 1 ≤ _; omega)⟩)
  dsimp only [Pt.U, Pt.locs, Pt.cells, Pt.slots] at X46 l46 y46 z46 st46 hQ46
  rw [l46, y46, z46] at X46
  obtain ⟨x46_b, rfl, Nq46, Kq46, r46_0, r46_1, r46_2, r46_3, r46_4⟩ := hQ46
  have N46 := Fr.app N44 Nq46
  have z46' := Kq46.1
  have K46 := K44.trans Kq46 (allS (Or.inl (List.mem_of_getElem? (i := 1) rfl)) all0)
  have lt59 := own_l r46_1.lt
  have lt60 := own_l r46_2.lt
  have lt61 := own_l r46_3.lt
  have lt62 := own_l r46_4.lt
  replace X46 : Stand p l e R s m args below meth c T46 _ (cells + 4) (slots + 16) := X46
  obtain ⟨cq63, kq63, qa63, qb63, qc63⟩ := isOf hZ rfl r46_1
  obtain ⟨_, _, ⟨T63, L63, k63, n63⟩, -, X63, ⟨Lc63, hQ63, l63, y63, z63⟩, st63⟩ := X46.interfaceBack hx (xi := m_48) (y := m_41) (C := "java/util/HashMap$EntrySet") hown (mvT hZ (w_245 hw)) (mvT hZ (w_246 hw)) (mvT hZ (w_247 hw)) (mvT hZ (w_248 hw)) (mvT hZ (w_249 hw)) (mvT hZ (w_250 hw)) (mvT hZ (w_251 hw)) (mvT hZ (w_252 hw)) (by decide) (backOf (W := 0) (rm_iter l Z a0 hw [] x46_b mp T46.heap n0 (by omega) r46_1 r46_2 r46_3 r46_4) hZ (w_253 hw) (w_230 hw) (Nat.le_trans (by decide) hFr) (Nat.le_trans (by decide) hLo)) qa63 qb63 qc63 (g := (mkF m 41 #[vA ad, .val (.long c0), .second, .val (.long c1), .second, .val (.long c2), .second, vA ru, vA el, vA x41_r, vA mp, vA l3, vA l4, vA l5, vA b42, .unset, .unset] [(.ref x46_b)])) rfl (by rw [hml]; rfl) (Steps.refl _) (argsL := []) (rest := []) (lenOf pd_21 rfl) rfl (Nat.le_of_eq rfl) (hb hby d378) (fun _ _ => ⟨rfl, rfl, (by show cells + 4 + 1 ≤ _; omega), (by show slots + 16 + 5 ≤ _; omega)⟩)
  dsimp only [Pt.U, Pt.locs, Pt.cells, Pt.slots] at X63 l63 y63 z63 st63 hQ63
  rw [l63, y63, z63] at X63
  obtain ⟨x63_b, rfl, Nq63, Kq63, r63_0, r63_1, r63_2⟩ := hQ63
  have N63 := Fr.app N46 Nq63
  have z63' := Kq63.1
  have K63 := K46.trans Kq63 all0
  have lt64 := own_l r63_1.lt
  have lt65 := own_l r63_2.lt
  replace X63 : Stand p l e R s m args below meth c T63 _ (cells + 5) (slots + 21) := X63
  obtain ⟨cq66, kq66, qa66, qb66, qc66⟩ := isOf hZ rfl r63_1
  obtain ⟨_, _, ⟨T66, L66, k66, n66⟩, -, X66, ⟨Lc66, hQ66, l66, y66, z66⟩, st66⟩ := X63.interfaceBack hx (xi := m_49) (y := m_42) (C := "java/util/HashMap$EntryIterator") hown (mvT hZ (w_282 hw)) (mvT hZ (w_283 hw)) (mvT hZ (w_284 hw)) (mvT hZ (w_285 hw)) (mvT hZ (w_286 hw)) (mvT hZ (w_287 hw)) (mvT hZ (w_288 hw)) (mvT hZ (w_289 hw)) (by decide) (backOf (W := 0) (rm_hasn l Z a0 hw [] x63_b T63.heap n0 (by omega) r63_2) hZ (w_290 hw) (w_265 hw) (Nat.le_trans (by decide) hFr) (Nat.le_trans (by decide) hLo)) qa66 qb66 qc66 (g := (mkF m 50 #[vA ad, .val (.long c0), .second, .val (.long c1), .second, .val (.long c2), .second, vA ru, vA el, vA x41_r, vA mp, vA l3, vA l4, vA l5, vA b42, vA x63_b, .unset] [(.ref x63_b)])) rfl (by rw [hml]; rfl) (Steps.refl _) (argsL := []) (rest := []) (lenOf pd_8 rfl) rfl (Nat.le_of_eq rfl) (hb hby d381) (fun _ _ => ⟨rfl, rfl, (by show cells + 5 + 0 ≤ _; omega), (by show slots + 21 + 0 ≤ _; omega)⟩)
  dsimp only [Pt.U, Pt.locs, Pt.cells, Pt.slots] at X66 l66 y66 z66 st66 hQ66
  rw [l66, y66, z66] at X66
  obtain ⟨rfl, Nq66, Kq66⟩ := hQ66
  have N66 := Fr.app N63 Nq66
  replace X66 : Stand p l e R s m args below meth c T66 _ (cells + 5) (slots + 21) := X66
  have f68 := r44_0.keep Kq46
  have f69 := f68.keep Kq63
  obtain ⟨_, _, ⟨T67, L67, k67, n67⟩, -, X67, ⟨Lc67, hQ67, l67, y67, z67⟩, st67⟩ := Jvm.LawKit.callS X66 hx (y := m_45) hown (mvT hZ (w_291 hw)) (mvT hZ (w_292 hw)) (mvT hZ (w_293 hw)) (mvT hZ (w_294 hw)) (by decide) (backOf (W := 0) (rm_um l Z a0 hw [] b42 ml mu T63.heap n0 (by omega) f69 P4 P5) hZ (w_294 hw) (w_293 hw) (Nat.le_trans (by decide) hFr) (Nat.le_trans (by decide) hLo)) (g := (mkF m 106 #[vA ad, .val (.long c0), .second, .val (.long c1), .second, .val (.long c2), .second, vA ru, vA el, vA x41_r, vA mp, vA l3, vA l4, vA l5, vA b42, vA x63_b, .unset] [(.ref b42)])) rfl (by rw [hml]; rfl) (argsL := [(.ref b42)]) (rest := []) (lenOf pd_22 rfl) rfl (Nat.le_of_eq rfl) (hb hby d384) (fun _ _ => ⟨rfl, Kq66, (by show cells + 5 + 1 ≤ _; omega), (by show slots + 21 + 4 ≤ _; omega)⟩)
  dsimp only [Pt.U, Pt.locs, Pt.cells, Pt.slots] at X67 l67 y67 z67 st67 hQ67
  rw [l67, y67, z67] at X67
  obtain ⟨x67_r, rfl, Nq67, Kq67⟩ := hQ67
  have N67 := Fr.app N66 Nq67
  have z67' := Kq67.1
  have K67 := K63.trans Kq67 all0
  replace X67 : Stand p l e R s m args below meth c T67 _ (cells + 6) (slots + 25) := X67
  have f71 := P0.keep Kq41 all0
  have f72 := f71.ext E42
  have f73 := f72.keep Kq44 (allS (by omega) all0)
  have f74 := f73.keep Kq46 (allS (by omega) all0)
  have f75 := f74.keep Kq63 all0
  have f76 := f75.keep Kq67 all0
  have f77 := P24.keep Kq41
  have f78 := f77.ext E42
  have f79 := f78.keep Kq44
  have f80 := f79.keep Kq46
  have f81 := f80.keep Kq63
  have f82 := f81.keep Kq67
  have f83 := P25.keep Kq41 nin0
  have f84 := f83.ext E42
  have f85 := f84.keep Kq44 (ninS (own_ne (by omega)) nin0)
  have f86 := f85.keep Kq46 (ninS (fun q => P48 q) nin0)
  have f87 := f86.keep Kq63 nin0
  have f88 := f87.keep Kq67 nin0
  have f89 := P26.keep Kq41 nin0
  have f90 := f89.ext E42
  have f91 := f90.keep Kq44 (ninS (own_ne (by omega)) nin0)
  have f92 := f91.keep Kq46 (ninS (fun q => P48 q) nin0)
  have f93 := f92.keep Kq63 nin0
  have f94 := f93.keep Kq67 nin0
  have f95 := P27.keep Kq41
  have f96 := f95.ext E42
  have f97 := f96.keep Kq44
  have f98 := f97.keep Kq46
  have f99 := f98.keep Kq63
  have f100 := f99.keep Kq67
  have f101 := P28.keep Kq41 nin0
  have f102 := f101.ext E42
  have f103 := f102.keep Kq44 (ninS (own_ne (by omega)) nin0)
  have f104 := f103.keep Kq46 (ninS (fun q => P49 q) nin0)
  have f105 := f104.keep Kq63 nin0
  have f106 := f105.keep Kq67 nin0
  have f107 := P39.keep Kq41
  have f108 := f107.ext E42
  have f109 := f108.keep Kq44
  have f110 := f109.keep Kq46
  have f111 := f110.keep Kq63
  have f112 := f111.keep Kq67
  obtain ⟨_, _, ⟨T70, L70, k70, n70⟩, -, X70, ⟨Lc70, hQ70, l70, y70, z70⟩, st70⟩ := Jvm.LawKit.callS X67 hx (y := m_17) hown (mvT hZ (w_113 hw)) (mvT hZ (w_114 hw)) (mvT hZ (w_115 hw)) (mvT hZ (w_116 hw)) (by decide) (backOf (W := 0) (rm_cpa l Z a0 hw [] l3 v3 kv3 sn3 sN3 vs3 nm mo el em T67.heap n0 (by omega) f76 P1 P2 P3 f82 f88 f94 f100 f106 f112 hls3) hZ (w_116 hw) (w_115 hw) (Nat.le_trans (by decide) hFr) (Nat.le_trans (by decide) hLo)) (g := (mkF m 113 #[vA ad, .val (.long c0), .second, .val (.long c1), .second, .val (.long c2), .second, vA ru, vA el, vA x41_r, vA x67_r, vA l3, vA l4, vA l5, vA b42, vA x63_b, .unset] [(.ref l3)])) rfl (by rw [hml]; rfl) (argsL := [(.ref l3)]) (rest := []) (lenOf pd_10 rfl) rfl (Nat.le_of_eq rfl) (hb hby d387) (fun _ _ => ⟨rfl, rfl, (by show cells + 6 + 2 ≤ _; omega), (by show slots + 25 + 3 ≤ _; omega)⟩)
  dsimp only [Pt.U, Pt.locs, Pt.cells, Pt.slots] at X70 l70 y70 z70 st70 hQ70
  rw [l70, y70, z70] at X70
  obtain ⟨x70_r, rfl, Nq70, Kq70⟩ := hQ70
  have N70 := Fr.app N67 Nq70
  have z70' := Kq70.1
  have K70 := K67.trans Kq70 all0
  replace X70 : Stand p l e R s m args below meth c T70 _ (cells + 8) (slots + 28) := X70
  have f114 := f76.keep Kq70 all0
  have f115 := P29.keep Kq41
  have f116 := f115.ext E42
  have f117 := f116.keep Kq44
  have f118 := f117.keep Kq46
  have f119 := f118.keep Kq63
  have f120 := f119.keep Kq67
  have f121 := f120.keep Kq70
  have f122 := P30.keep Kq41 nin0
  have f123 := f122.ext E42
  have f124 := f123.keep Kq44 (ninS (own_ne (by omega)) nin0)
  have f125 := f124.keep Kq46 (ninS (fun q => P50 q) nin0)
  have f126 := f125.keep Kq63 nin0
  have f127 := f126.keep Kq67 nin0
  have f128 := f127.keep Kq70 nin0
  have f129 := P31.keep Kq41 nin0
  have f130 := f129.ext E42
  have f131 := f130.keep Kq44 (ninS (own_ne (by omega)) nin0)
  have f132 := f131.keep Kq46 (ninS (fun q => P50 q) nin0)
  have f133 := f132.keep Kq63 nin0
  have f134 := f133.keep Kq67 nin0
  have f135 := f134.keep Kq70 nin0
  have f136 := P32.keep Kq41
  have f137 := f136.ext E42
  have f138 := f137.keep Kq44
  have f139 := f138.keep Kq46
  have f140 := f139.keep Kq63
  have f141 := f140.keep Kq67
  have f142 := f141.keep Kq70
  have f143 := P33.keep Kq41 nin0
  have f144 := f143.ext E42
  have f145 := f144.keep Kq44 (ninS (own_ne (by omega)) nin0)
  have f146 := f145.keep Kq46 (ninS (fun q => P51 q) nin0)
  have f147 := f146.keep Kq63 nin0
  have f148 := f147.keep Kq67 nin0
  have f149 := f148.keep Kq70 nin0
  have f150 := P40.keep Kq41
  have f151 := f150.ext E42
  have f152 := f151.keep Kq44
  have f153 := f152.keep Kq46
  have f154 := f153.keep Kq63
  have f155 := f154.keep Kq67
  have f156 := f155.keep Kq70
  obtain ⟨_, _, ⟨T113, L113, k113, n113⟩, -, X113, ⟨Lc113, hQ113, l113, y113, z113⟩, st113⟩ := Jvm.LawKit.callS X70 hx (y := m_17) hown (mvT hZ (w_113 hw)) (mvT hZ (w_114 hw)) (mvT hZ (w_115 hw)) (mvT hZ (w_116 hw)) (by decide) (backOf (W := 0) (rm_cpa l Z a0 hw [] l4 v4 kv4 sn4 sN4 vs4 ot mo el em T70.heap n0 (by omega) f114 P1 P2 P3 f121 f128 f135 f142 f149 f156 hls4) hZ (w_116 hw) (w_115 hw) (Nat.le_trans (by decide) hFr) (Nat.le_trans (by decide) hLo)) (g := (mkF m 120 #[vA ad, .val (.long c0), .second, .val (.long c1), .second, .val (.long c2), .second, vA ru, vA el, vA x41_r, vA x67_r, vA x70_r, vA l4, vA l5, vA b42, vA x63_b, .unset] [(.ref l4)])) rfl (by rw [hml]; rfl) (argsL := [(.ref l4)]) (rest := []) (lenOf pd_10 rfl) rfl (Nat.le_of_eq rfl) (hb hby d390) (fun _ _ => ⟨rfl, rfl, (by show cells + 8 + 2 ≤ _; omega), (by show slots + 28 + 3 ≤ _; omega)⟩)
  dsimp only [Pt.U, Pt.locs, Pt.cells, Pt.slots] at X113 l113 y113 z113 st113 hQ113
  rw [l113, y113, z113] at X113
  obtain ⟨x113_r, rfl, Nq113, Kq113⟩ := hQ113
  have N113 := Fr.app N70 Nq113
  have z113' := Kq113.1
  have K113 := K70.trans Kq113 all0
  replace X113 : Stand p l e R s m args below meth c T113 _ (cells + 10) (slots + 31) := X113
  have f158 := f114.keep Kq113 all0
  have f159 := P34.keep Kq41
  have f160 := f159.ext E42
  have f161 := f160.keep Kq44
  have f162 := f161.keep Kq46
  have f163 := f162.keep Kq63
  have f164 := f163.keep Kq67
  have f165 := f164.keep Kq70
  have f166 := f165.keep Kq113
  have f167 := P35.keep Kq41 nin0
  have f168 := f167.ext E42
  have f169 := f168.keep Kq44 (ninS (own_ne (by omega)) nin0)
  have f170 := f169.keep Kq46 (ninS (fun q => P52 q) nin0)
  have f171 := f170.keep Kq63 nin0
  have f172 := f171.keep Kq67 nin0
  have f173 := f172.keep Kq70 nin0
  have f174 := f173.keep Kq113 nin0
  have f175 := P36.keep Kq41 nin0
  have f176 := f175.ext E42
  have f177 := f176.keep Kq44 (ninS (own_ne (by omega)) nin0)
  have f178 := f177.keep Kq46 (ninS (fun q => P52 q) nin0)
  have f179 := f178.keep Kq63 nin0
  have f180 := f179.keep Kq67 nin0
  have f181 := f180.keep Kq70 nin0
  have f182 := f181.keep Kq113 nin0
  have f183 := P37.keep Kq41
  have f184 := f183.ext E42
  have f185 := f184.keep Kq44
  have f186 := f185.keep Kq46
  have f187 := f186.keep Kq63
  have f188 := f187.keep Kq67
  have f189 := f188.keep Kq70
  have f190 := f189.keep Kq113
  have f191 := P38.keep Kq41 nin0
  have f192 := f191.ext E42
  have f193 := f192.keep Kq44 (ninS (own_ne (by omega)) nin0)
  have f194 := f193.keep Kq46 (ninS (fun q => P53 q) nin0)
  have f195 := f194.keep Kq63 nin0
  have f196 := f195.keep Kq67 nin0
  have f197 := f196.keep Kq70 nin0
  have f198 := f197.keep Kq113 nin0
  have f199 := f112.keep Kq70
  have f200 := f199.keep Kq113
  obtain ⟨_, _, ⟨T157, L157, k157, n157⟩, -, X157, ⟨Lc157, hQ157, l157, y157, z157⟩, st157⟩ := Jvm.LawKit.callS X113 hx (y := m_17) hown (mvT hZ (w_113 hw)) (mvT hZ (w_114 hw)) (mvT hZ (w_115 hw)) (mvT hZ (w_116 hw)) (by decide) (backOf (W := 0) (rm_cpa l Z a0 hw [] l5 v5 kv5 sn5 sN5 vs5 nm mo el em T113.heap n0 (by omega) f158 P1 P2 P3 f166 f174 f182 f190 f198 f200 hls5) hZ (w_116 hw) (w_115 hw) (Nat.le_trans (by decide) hFr) (Nat.le_trans (by decide) hLo)) (g := (mkF m 127 #[vA ad, .val (.long c0), .second, .val (.long c1), .second, .val (.long c2), .second, vA ru, vA el, vA x41_r, vA x67_r, vA x70_r, vA x113_r, vA l5, vA b42, vA x63_b, .unset] [(.ref l5)])) rfl (by rw [hml]; rfl) (argsL := [(.ref l5)]) (rest := []) (lenOf pd_10 rfl) rfl (Nat.le_of_eq rfl) (hb hby d393) (fun _ _ => ⟨rfl, rfl, (by show cells + 10 + 2 ≤ _; omega), (by show slots + 31 + 3 ≤ _; omega)⟩)
  dsimp only [Pt.U, Pt.locs, Pt.cells, Pt.slots] at X157 l157 y157 z157 st157 hQ157
  rw [l157, y157, z157] at X157
  obtain ⟨x157_r, rfl, Nq157, Kq157⟩ := hQ157
  have N157 := Fr.app N113 Nq157
  have z157' := Kq157.1
  have K157 := K113.trans Kq157 all0
  replace X157 : Stand p l e R s m args below meth c T157 _ (cells + 12) (slots + 34) := X157
  have f202 := P7.keep Kq41 nin0
  have f203 := f202.ext E42
  have f204 := f203.keep Kq44 (ninS (own_ne (by omega)) nin0)
  have f205 := f204.keep Kq46 (ninS (fun q => P47 q) nin0)
  have f206 := f205.keep Kq63 nin0
  have f207 := f206.keep Kq67 nin0
  have f208 := f207.keep Kq70 nin0
  have f209 := f208.keep Kq113 nin0
  have f210 := f209.keep Kq157 nin0
  have f211 := P6.keep Kq41
  have f212 := f211.ext E42
  have f213 := f212.keep Kq44
  have f214 := f213.keep Kq46
  have f215 := f214.keep Kq63
  have f216 := f215.keep Kq67
  have f217 := f216.keep Kq70
  have f218 := f217.keep Kq113
  have f219 := f218.keep Kq157
  obtain ⟨T201, h201, X201, e201, W201, st201⟩ := putF X157 hx hZ hown (host := "") (Or.inl (w_312 hw)) Via.refl rfl f210 f219 (Or.inr ⟨(w_313 hw), rfl, hnm⟩) (w_102 hw) (ty := .long) (by decide) rfl rfl (g := (mkF m 134 #[vA ad, .val (.long c0), .second, .val (.long c1), .second, .val (.long c2), .second, vA ru, vA el, vA x41_r, vA x67_r, vA x70_r, vA x113_r, vA x157_r, vA b42, vA x63_b, .unset] [(.long c0), (.ref ad)])) rfl rfl (hb hby d397)
  have F201 := f210.same W201
  have z201 := W201.size
  have K201 := K157.wr W201 (Or.inl (List.mem_of_getElem? (i := 0) rfl))
  have N201 := Fr.snoc X201 N157 (by omega)
  have f221 := P8.keep Kq41 nin0
  have f222 := f221.ext E42
  have f223 := f222.keep Kq44 (ninS (own_ne (by omega)) nin0)
  have f224 := f223.keep Kq46 (ninS (fun q => P47 q) nin0)
  have f225 := f224.keep Kq63 nin0
  have f226 := f225.keep Kq67 nin0
  have f227 := f226.keep Kq70 nin0
  have f228 := f227.keep Kq113 nin0
  have f229 := f228.keep Kq157 nin0
  have f230 := f229.other W201 (Or.inr (slot_ne (a0 := a0) (t := .long) (t' := .long) (Or.inr (w_315 hw)) (Or.inr (w_313 hw)) (by decide) (by decide) (by decide)))
  have f231 := f219.wr W201
  obtain ⟨T220, h220, X220, e220, W220, st220⟩ := putF X201 hx hZ hown (host := "") (Or.inl (w_314 hw)) Via.refl e201 f230 f231 (Or.inr ⟨(w_315 hw), rfl, hnm⟩) (w_102 hw) (ty := .long) (by decide) rfl rfl (g := (mkF m 139 #[vA ad, .val (.long c0), .second, .val (.long c1), .second, .val (.long c2), .second, vA ru, vA el, vA x41_r, vA x67_r, vA x70_r, vA x113_r, vA x157_r, vA b42, vA x63_b, .unset] [(.long c1), (.ref ad)])) rfl rfl (hb hby d400)
  have F220 := f230.same W220
  have z220 := W220.size
  have K220 := K201.wr W220 (Or.inl (List.mem_of_getElem? (i := 0) rfl))
  have N220 := Fr.snoc X220 N201 (by omega)
  have f233 := P9.keep Kq41 nin0
  have f234 := f233.ext E42
  have f235 := f234.keep Kq44 (ninS (own_ne (by omega)) nin0)
  have f236 := f235.keep Kq46 (ninS (fun q => P47 q) nin0)
  have f237 := f236.keep Kq63 nin0
  have f238 := f237.keep Kq67 nin0
  have f239 := f238.keep Kq70 nin0
  have f240 := f239.keep Kq113 nin0
  have f241 := f240.keep Kq157 nin0
  have f242 := f241.other W201 (Or.inr (slot_ne (a0 := a0) (t := .long) (t' := .long) (Or.inr (w_317 hw)) (Or.inr (w_313 hw)) (by decide) (by decide) (by decide)))
  have f243 := f242.other W220 (Or.inr (slot_ne (a0 := a0) (t := .long) (t' := .long) (Or.inr (w_317 hw)) (Or.inr (w_315 hw)) (by decide) (by decide) (by decide)))
  have f244 := f231.wr W220
  obtain ⟨T232, h232, X232, e232, W232, st232⟩ := putF X220 hx hZ hown (host := "") (Or.inl (w_316 hw)) Via.refl e220 f243 f244 (Or.inr ⟨(w_317 hw), rfl, hnm⟩) (w_102 hw) (ty := .long) (by decide) rfl rfl (g := (mkF m 145 #[vA ad, .val (.long c0), .second, .val (.long c1), .second, .val (.long c2), .second, vA ru, vA el, vA x41_r, vA x67_r, vA x70_r, vA x113_r, vA x157_r, vA b42, vA x63_b, .unset] [(.long c2), (.ref ad)])) rfl rfl (hb hby d403)
  have F232 := f243.same W232
  have z232 := W232.size
  have K232 := K220.wr W232 (Or.inl (List.mem_of_getElem? (i := 0) rfl))
  have N232 := Fr.snoc X232 N220 (by omega)
  have f246 := P10.keep Kq41 nin0
  have f247 := f246.ext E42
  have f248 := f247.keep Kq44 (ninS (own_ne (by omega)) nin0)
  have f249 := f248.keep Kq46 (ninS (fun q => P47 q) nin0)
  have f250 := f249.keep Kq63 nin0
  have f251 := f250.keep Kq67 nin0
  have f252 := f251.keep Kq70 nin0
  have f253 := f252.keep Kq113 nin0
  have f254 := f253.keep Kq157 nin0
  have f255 := f254.other W201 (Or.inr (slot_ne (a0 := a0) (t := (.object "java/util/List")) (t' := .long) (Or.inr (w_319 hw)) (Or.inr (w_313 hw)) (by decide) (by decide) (by decide)))
  have f256 := f255.other W220 (Or.inr (slot_ne (a0 := a0) (t := (.object "java/util/List")) (t' := .long) (Or.inr (w_319 hw)) (Or.inr (w_315 hw)) (by decide) (by decide) (by decide)))
  have f257 := f256.other W232 (Or.inr (slot_ne (a0 := a0) (t := (.object "java/util/List")) (t' := .long) (Or.inr (w_319 hw)) (Or.inr (w_317 hw)) (by decide) (by decide) (by decide)))
  have f258 := f244.wr W232
  obtain ⟨T245, h245, X245, e245, W245, st245⟩ := putF X232 hx hZ hown (host := "") (Or.inl (w_318 hw)) Via.refl e232 f257 f258 (Or.inr ⟨(w_319 hw), rfl, hnm⟩) (w_102 hw) (ty := (.object "java/util/List")) (by decide) rfl rfl (g := (mkF m 151 #[vA ad, .val (.long c0), .second, .val (.long c1), .second, .val (.long c2), .second, vA ru, vA el, vA x41_r, vA x67_r, vA x70_r, vA x113_r, vA x157_r, vA b42, vA x63_b, .unset] [(.ref ru), (.ref ad)])) rfl rfl (hb hby d406)
  have F245 := f257.same W245
  have z245 := W245.size
  have K245 := K232.wr W245 (Or.inl (List.mem_of_getElem? (i := 0) rfl))
  have N245 := Fr.snoc X245 N232 (by omega)
  have f260 := P11.keep Kq41 nin0
  have f261 := f260.ext E42
  have f262 := f261.keep Kq44 (ninS (own_ne (by omega)) nin0)
  have f263 := f262.keep Kq46 (ninS (fun q => P47 q) nin0)
  have f264 := f263.keep Kq63 nin0
  have f265 := f264.keep Kq67 nin0
  have f266 := f265.keep Kq70 nin0
  have f267 := f266.keep Kq113 nin0
  have f268 := f267.keep Kq157 nin0
  have f269 := f268.other W201 (Or.inr (slot_ne (a0 := a0) (t := (.object "java/util/List")) (t' := .long) (Or.inr (w_321 hw)) (Or.inr (w_313 hw)) (by decide) (by decide) (by decide)))
  have f270 := f269.other W220 (Or.inr (slot_ne (a0 := a0) (t := (.object "java/util/List")) (t' := .long) (Or.inr (w_321 hw)) (Or.inr (w_315 hw)) (by decide) (by decide) (by decide)))
  have f271 := f270.other W232 (Or.inr (slot_ne (a0 := a0) (t := (.object "java/util/List")) (t' := .long) (Or.inr (w_321 hw)) (Or.inr (w_317 hw)) (by decide) (by decide) (by decide)))
  have f272 := f271.other W245 (Or.inr (slot_ne (a0 := a0) (t := (.object "java/util/List")) (t' := (.object "java/util/List")) (Or.inr (w_321 hw)) (Or.inr (w_319 hw)) (by decide) (by decide) (by decide)))
  have f273 := f258.wr W245
  obtain ⟨T259, h259, X259, e259, W259, st259⟩ := putF X245 hx hZ hown (host := "") (Or.inl (w_320 hw)) Via.refl e245 f272 f273 (Or.inr ⟨(w_321 hw), rfl, hnm⟩) (w_102 hw) (ty := (.object "java/util/List")) (by decide) rfl rfl (g := (mkF m 157 #[vA ad, .val (.long c0), .second, .val (.long c1), .second, .val (.long c2), .second, vA ru, vA el, vA x41_r, vA x67_r, vA x70_r, vA x113_r, vA x157_r, vA b42, vA x63_b, .unset] [(.ref el), (.ref ad)])) rfl rfl (hb hby d409)
  have F259 := f272.same W259
  have z259 := W259.size
  have K259 := K245.wr W259 (Or.inl (List.mem_of_getElem? (i := 0) rfl))
  have N259 := Fr.snoc X259 N245 (by omega)
  have f275 := P12.keep Kq41 nin0
  have f276 := f275.ext E42
  have f277 := f276.keep Kq44 (ninS (own_ne (by omega)) nin0)
  have f278 := f277.keep Kq46 (ninS (fun q => P47 q) nin0)
  have f279 := f278.keep Kq63 nin0
  have f280 := f279.keep Kq67 nin0
  have f281 := f280.keep Kq70 nin0
  have f282 := f281.keep Kq113 nin0
  have f283 := f282.keep Kq157 nin0
  have f284 := f283.other W201 (Or.inr (slot_ne (a0 := a0) (t := (.object "java/util/List")) (t' := .long) (Or.inr (w_323 hw)) (Or.inr (w_313 hw)) (by decide) (by decide) (by decide)))
  have f285 := f284.other W220 (Or.inr (slot_ne (a0 := a0) (t := (.object "java/util/List")) (t' := .long) (Or.inr (w_323 hw)) (Or.inr (w_315 hw)) (by decide) (by decide) (by decide)))
  have f286 := f285.other W232 (Or.inr (slot_ne (a0 := a0) (t := (.object "java/util/List")) (t' := .long) (Or.inr (w_323 hw)) (Or.inr (w_317 hw)) (by decide) (by decide) (by decide)))
  have f287 := f286.other W245 (Or.inr (slot_ne (a0 := a0) (t := (.object "java/util/List")) (t' := (.object "java/util/List")) (Or.inr (w_323 hw)) (Or.inr (w_319 hw)) (by decide) (by decide) (by decide)))
  have f288 := f287.other W259 (Or.inr (slot_ne (a0 := a0) (t := (.object "java/util/List")) (t' := (.object "java/util/List")) (Or.inr (w_323 hw)) (Or.inr (w_321 hw)) (by decide) (by decide) (by decide)))
  have f289 := f273.wr W259
  obtain ⟨T274, h274, X274, e274, W274, st274⟩ := putF X259 hx hZ hown (host := "") (Or.inl (w_322 hw)) Via.refl e259 f288 f289 (Or.inr ⟨(w_323 hw), rfl, hnm⟩) (w_102 hw) (ty := (.object "java/util/List")) (by decide) rfl rfl (g := (mkF m 163 #[vA ad, .val (.long c0), .second, .val (.long c1), .second, .val (.long c2), .second, vA ru, vA el, vA x41_r, vA x67_r, vA x70_r, vA x113_r, vA x157_r, vA b42, vA x63_b, .unset] [(.ref x41_r), (.ref ad)])) rfl rfl (hb hby d412)
  have F274 := f288.same W274
  have z274 := W274.size
  have K274 := K259.wr W274 (Or.inl (List.mem_of_getElem? (i := 0) rfl))
  have N274 := Fr.snoc X274 N259 (by omega)
  have f291 := P13.keep Kq41 nin0
  have f292 := f291.ext E42
  have f293 := f292.keep Kq44 (ninS (own_ne (by omega)) nin0)
  have f294 := f293.keep Kq46 (ninS (fun q => P47 q) nin0)
  have f295 := f294.keep Kq63 nin0
  have f296 := f295.keep Kq67 nin0
  have f297 := f296.keep Kq70 nin0
  have f298 := f297.keep Kq113 nin0
  have f299 := f298.keep Kq157 nin0
  have f300 := f299.other W201 (Or.inr (slot_ne (a0 := a0) (t := (.object "java/util/Map")) (t' := .long) (Or.inr (w_325 hw)) (Or.inr (w_313 hw)) (by decide) (by decide) (by decide)))
  have f301 := f300.other W220 (Or.inr (slot_ne (a0 := a0) (t := (.object "java/util/Map")) (t' := .long) (Or.inr (w_325 hw)) (Or.inr (w_315 hw)) (by decide) (by decide) (by decide)))
  have f302 := f301.other W232 (Or.inr (slot_ne (a0 := a0) (t := (.object "java/util/Map")) (t' := .long) (Or.inr (w_325 hw)) (Or.inr (w_317 hw)) (by decide) (by decide) (by decide)))
  have f303 := f302.other W245 (Or.inr (slot_ne (a0 := a0) (t := (.object "java/util/Map")) (t' := (.object "java/util/List")) (Or.inr (w_325 hw)) (Or.inr (w_319 hw)) (by decide) (by decide) (by decide)))
  have f304 := f303.other W259 (Or.inr (slot_ne (a0 := a0) (t := (.object "java/util/Map")) (t' := (.object "java/util/List")) (Or.inr (w_325 hw)) (Or.inr (w_321 hw)) (by decide) (by decide) (by decide)))
  have f305 := f304.other W274 (Or.inr (slot_ne (a0 := a0) (t := (.object "java/util/Map")) (t' := (.object "java/util/List")) (Or.inr (w_325 hw)) (Or.inr (w_323 hw)) (by decide) (by decide) (by decide)))
  have f306 := f289.wr W274
  obtain ⟨T290, h290, X290, e290, W290, st290⟩ := putF X274 hx hZ hown (host := "") (Or.inl (w_324 hw)) Via.refl e274 f305 f306 (Or.inr ⟨(w_325 hw), rfl, hnm⟩) (w_102 hw) (ty := (.object "java/util/Map")) (by decide) rfl rfl (g := (mkF m 169 #[vA ad, .val (.long c0), .second, .val (.long c1), .second, .val (.long c2), .second, vA ru, vA el, vA x41_r, vA x67_r, vA x70_r, vA x113_r, vA x157_r, vA b42, vA x63_b, .unset] [(.ref x67_r), (.ref ad)])) rfl rfl (hb hby d415)
  have F290 := f305.same W290
  have z290 := W290.size
  have K290 := K274.wr W290 (Or.inl (List.mem_of_getElem? (i := 0) rfl))
  have N290 := Fr.snoc X290 N274 (by omega)
  have f308 := P14.keep Kq41 nin0
  have f309 := f308.ext E42
  have f310 := f309.keep Kq44 (ninS (own_ne (by omega)) nin0)
  have f311 := f310.keep Kq46 (ninS (fun q => P47 q) nin0)
  have f312 := f311.keep Kq63 nin0
  have f313 := f312.keep Kq67 nin0
  have f314 := f313.keep Kq70 nin0
  have f315 := f314.keep Kq113 nin0
  have f316 := f315.keep Kq157 nin0
  have f317 := f316.other W201 (Or.inr (slot_ne (a0 := a0) (t := (.object "java/util/List")) (t' := .long) (Or.inr (w_327 hw)) (Or.inr (w_313 hw)) (by decide) (by decide) (by decide)))
  have f318 := f317.other W220 (Or.inr (slot_ne (a0 := a0) (t := (.object "java/util/List")) (t' := .long) (Or.inr (w_327 hw)) (Or.inr (w_315 hw)) (by decide) (by decide) (by decide)))
  have f319 := f318.other W232 (Or.inr (slot_ne (a0 := a0) (t := (.object "java/util/List")) (t' := .long) (Or.inr (w_327 hw)) (Or.inr (w_317 hw)) (by decide) (by decide) (by decide)))
  have f320 := f319.other W245 (Or.inr (slot_ne (a0 := a0) (t := (.object "java/util/List")) (t' := (.object "java/util/List")) (Or.inr (w_327 hw)) (Or.inr (w_319 hw)) (by decide) (by decide) (by decide)))
  have f321 := f320.other W259 (Or.inr (slot_ne (a0 := a0) (t := (.object "java/util/List")) (t' := (.object "java/util/List")) (Or.inr (w_327 hw)) (Or.inr (w_321 hw)) (by decide) (by decide) (by decide)))
  have f322 := f321.other W274 (Or.inr (slot_ne (a0 := a0) (t := (.object "java/util/List")) (t' := (.object "java/util/List")) (Or.inr (w_327 hw)) (Or.inr (w_323 hw)) (by decide) (by decide) (by decide)))
  have f323 := f322.other W290 (Or.inr (slot_ne (a0 := a0) (t := (.object "java/util/List")) (t' := (.object "java/util/Map")) (Or.inr (w_327 hw)) (Or.inr (w_325 hw)) (by decide) (by decide) (by decide)))
  have f324 := f306.wr W290
  obtain ⟨T307, h307, X307, e307, W307, st307⟩ := putF X290 hx hZ hown (host := "") (Or.inl (w_326 hw)) Via.refl e290 f323 f324 (Or.inr ⟨(w_327 hw), rfl, hnm⟩) (w_102 hw) (ty := (.object "java/util/List")) (by decide) rfl rfl (g := (mkF m 175 #[vA ad, .val (.long c0), .second, .val (.long c1), .second, .val (.long c2), .second, vA ru, vA el, vA x41_r, vA x67_r, vA x70_r, vA x113_r, vA x157_r, vA b42, vA x63_b, .unset] [(.ref x70_r), (.ref ad)])) rfl rfl (hb hby d418)
  have F307 := f323.same W307
  have z307 := W307.size
  have K307 := K290.wr W307 (Or.inl (List.mem_of_getElem? (i := 0) rfl))
  have N307 := Fr.snoc X307 N290 (by omega)
  have f326 := P15.keep Kq41 nin0
  have f327 := f326.ext E42
  have f328 := f327.keep Kq44 (ninS (own_ne (by omega)) nin0)
  have f329 := f328.keep Kq46 (ninS (fun q => P47 q) nin0)
  have f330 := f329.keep Kq63 nin0
  have f331 := f330.keep Kq67 nin0
  have f332 := f331.keep Kq70 nin0
  have f333 := f332.keep Kq113 nin0
  have f334 := f333.keep Kq157 nin0
  have f335 := f334.other W201 (Or.inr (slot_ne (a0 := a0) (t := (.object "java/util/List")) (t' := .long) (Or.inr (w_329 hw)) (Or.inr (w_313 hw)) (by decide) (by decide) (by decide)))
  have f336 := f335.other W220 (Or.inr (slot_ne (a0 := a0) (t := (.object "java/util/List")) (t' := .long) (Or.inr (w_329 hw)) (Or.inr (w_315 hw)) (by decide) (by decide) (by decide)))
  have f337 := f336.other W232 (Or.inr (slot_ne (a0 := a0) (t := (.object "java/util/List")) (t' := .long) (Or.inr (w_329 hw)) (Or.inr (w_317 hw)) (by decide) (by decide) (by decide)))
  have f338 := f337.other W245 (Or.inr (slot_ne (a0 := a0) (t := (.object "java/util/List")) (t' := (.object "java/util/List")) (Or.inr (w_329 hw)) (Or.inr (w_319 hw)) (by decide) (by decide) (by decide)))
  have f339 := f338.other W259 (Or.inr (slot_ne (a0 := a0) (t := (.object "java/util/List")) (t' := (.object "java/util/List")) (Or.inr (w_329 hw)) (Or.inr (w_321 hw)) (by decide) (by decide) (by decide)))
  have f340 := f339.other W274 (Or.inr (slot_ne (a0 := a0) (t := (.object "java/util/List")) (t' := (.object "java/util/List")) (Or.inr (w_329 hw)) (Or.inr (w_323 hw)) (by decide) (by decide) (by decide)))
  have f341 := f340.other W290 (Or.inr (slot_ne (a0 := a0) (t := (.object "java/util/List")) (t' := (.object "java/util/Map")) (Or.inr (w_329 hw)) (Or.inr (w_325 hw)) (by decide) (by decide) (by decide)))
  have f342 := f341.other W307 (Or.inr (slot_ne (a0 := a0) (t := (.object "java/util/List")) (t' := (.object "java/util/List")) (Or.inr (w_329 hw)) (Or.inr (w_327 hw)) (by decide) (by decide) (by decide)))
  have f343 := f324.wr W307
  obtain ⟨T325, h325, X325, e325, W325, st325⟩ := putF X307 hx hZ hown (host := "") (Or.inl (w_328 hw)) Via.refl e307 f342 f343 (Or.inr ⟨(w_329 hw), rfl, hnm⟩) (w_102 hw) (ty := (.object "java/util/List")) (by decide) rfl rfl (g := (mkF m 181 #[vA ad, .val (.long c0), .second, .val (.long c1), .second, .val (.long c2), .second, vA ru, vA el, vA x41_r, vA x67_r, vA x70_r, vA x113_r, vA x157_r, vA b42, vA x63_b, .unset] [(.ref x113_r), (.ref ad)])) rfl rfl (hb hby d421)
  have F325 := f342.same W325
  have z325 := W325.size
  have K325 := K307.wr W325 (Or.inl (List.mem_of_getElem? (i := 0) rfl))
  have N325 := Fr.snoc X325 N307 (by omega)
  have f345 := P16.keep Kq41 nin0
  have f346 := f345.ext E42
  have f347 := f346.keep Kq44 (ninS (own_ne (by omega)) nin0)
  have f348 := f347.keep Kq46 (ninS (fun q => P47 q) nin0)
  have f349 := f348.keep Kq63 nin0
  have f350 := f349.keep Kq67 nin0
  have f351 := f350.keep Kq70 nin0
  have f352 := f351.keep Kq113 nin0
  have f353 := f352.keep Kq157 nin0
  have f354 := f353.other W201 (Or.inr (slot_ne (a0 := a0) (t := (.object "java/util/List")) (t' := .long) (Or.inr (w_331 hw)) (Or.inr (w_313 hw)) (by decide) (by decide) (by decide)))
  have f355 := f354.other W220 (Or.inr (slot_ne (a0 := a0) (t := (.object "java/util/List")) (t' := .long) (Or.inr (w_331 hw)) (Or.inr (w_315 hw)) (by decide) (by decide) (by decide)))
  have f356 := f355.other W232 (Or.inr (slot_ne (a0 := a0) (t := (.object "java/util/List")) (t' := .long) (Or.inr (w_331 hw)) (Or.inr (w_317 hw)) (by decide) (by decide) (by decide)))
  have f357 := f356.other W245 (Or.inr (slot_ne (a0 := a0) (t := (.object "java/util/List")) (t' := (.object "java/util/List")) (Or.inr (w_331 hw)) (Or.inr (w_319 hw)) (by decide) (by decide) (by decide)))
  have f358 := f357.other W259 (Or.inr (slot_ne (a0 := a0) (t := (.object "java/util/List")) (t' := (.object "java/util/List")) (Or.inr (w_331 hw)) (Or.inr (w_321 hw)) (by decide) (by decide) (by decide)))
  have f359 := f358.other W274 (Or.inr (slot_ne (a0 := a0) (t := (.object "java/util/List")) (t' := (.object "java/util/List")) (Or.inr (w_331 hw)) (Or.inr (w_323 hw)) (by decide) (by decide) (by decide)))
  have f360 := f359.other W290 (Or.inr (slot_ne (a0 := a0) (t := (.object "java/util/List")) (t' := (.object "java/util/Map")) (Or.inr (w_331 hw)) (Or.inr (w_325 hw)) (by decide) (by decide) (by decide)))
  have f361 := f360.other W307 (Or.inr (slot_ne (a0 := a0) (t := (.object "java/util/List")) (t' := (.object "java/util/List")) (Or.inr (w_331 hw)) (Or.inr (w_327 hw)) (by decide) (by decide) (by decide)))
  have f362 := f361.other W325 (Or.inr (slot_ne (a0 := a0) (t := (.object "java/util/List")) (t' := (.object "java/util/List")) (Or.inr (w_331 hw)) (Or.inr (w_329 hw)) (by decide) (by decide) (by decide)))
  have f363 := f343.wr W325
  obtain ⟨T344, h344, X344, e344, W344, st344⟩ := putF X325 hx hZ hown (host := "") (Or.inl (w_330 hw)) Via.refl e325 f362 f363 (Or.inr ⟨(w_331 hw), rfl, hnm⟩) (w_102 hw) (ty := (.object "java/util/List")) (by decide) rfl rfl (g := (mkF m 187 #[vA ad, .val (.long c0), .second, .val (.long c1), .second, .val (.long c2), .second, vA ru, vA el, vA x41_r, vA x67_r, vA x70_r, vA x113_r, vA x157_r, vA b42, vA x63_b, .unset] [(.ref x157_r), (.ref ad)])) rfl rfl (hb hby d424)
  have F344 := f362.same W344
  have z344 := W344.size
  have K344 := K325.wr W344 (Or.inl (List.mem_of_getElem? (i := 0) rfl))
  have N344 := Fr.snoc X344 N325 (by omega)
  have f364 := f363.wr W344
  have f365 := F232.other W245 (Or.inr (slot_ne (a0 := a0) (t := .long) (t' := (.object "java/util/List")) (Or.inr (w_317 hw)) (Or.inr (w_319 hw)) (by decide) (by decide) (by decide)))
  have f366 := f365.other W259 (Or.inr (slot_ne (a0 := a0) (t := .long) (t' := (.object "java/util/List")) (Or.inr (w_317 hw)) (Or.inr (w_321 hw)) (by decide) (by decide) (by decide)))
  have f367 := f366.other W274 (Or.inr (slot_ne (a0 := a0) (t := .long) (t' := (.object "java/util/List")) (Or.inr (w_317 hw)) (Or.inr (w_323 hw)) (by decide) (by decide) (by decide)))
  have f368 := f367.other W290 (Or.inr (slot_ne (a0 := a0) (t := .long) (t' := (.object "java/util/Map")) (Or.inr (w_317 hw)) (Or.inr (w_325 hw)) (by decide) (by decide) (by decide)))
  have f369 := f368.other W307 (Or.inr (slot_ne (a0 := a0) (t := .long) (t' := (.object "java/util/List")) (Or.inr (w_317 hw)) (Or.inr (w_327 hw)) (by decide) (by decide) (by decide)))
  have f370 := f369.other W325 (Or.inr (slot_ne (a0 := a0) (t := .long) (t' := (.object "java/util/List")) (Or.inr (w_317 hw)) (Or.inr (w_329 hw)) (by decide) (by decide) (by decide)))
  have f371 := f370.other W344 (Or.inr (slot_ne (a0 := a0) (t := .long) (t' := (.object "java/util/List")) (Or.inr (w_317 hw)) (Or.inr (w_331 hw)) (by decide) (by decide) (by decide)))
  have f372 := F245.other W259 (Or.inr (slot_ne (a0 := a0) (t := (.object "java/util/List")) (t' := (.object "java/util/List")) (Or.inr (w_319 hw)) (Or.inr (w_321 hw)) (by decide) (by decide) (by decide)))
  have f373 := f372.other W274 (Or.inr (slot_ne (a0 := a0) (t := (.object "java/util/List")) (t' := (.object "java/util/List")) (Or.inr (w_319 hw)) (Or.inr (w_323 hw)) (by decide) (by decide) (by decide)))
  have f374 := f373.other W290 (Or.inr (slot_ne (a0 := a0) (t := (.object "java/util/List")) (t' := (.object "java/util/Map")) (Or.inr (w_319 hw)) (Or.inr (w_325 hw)) (by decide) (by decide) (by decide)))
  have f375 := f374.other W307 (Or.inr (slot_ne (a0 := a0) (t := (.object "java/util/List")) (t' := (.object "java/util/List")) (Or.inr (w_319 hw)) (Or.inr (w_327 hw)) (by decide) (by decide) (by decide)))
  have f376 := f375.other W325 (Or.inr (slot_ne (a0 := a0) (t := (.object "java/util/List")) (t' := (.object "java/util/List")) (Or.inr (w_319 hw)) (Or.inr (w_329 hw)) (by decide) (by decide) (by decide)))
  have f377 := f376.other W344 (Or.inr (slot_ne (a0 := a0) (t := (.object "java/util/List")) (t' := (.object "java/util/List")) (Or.inr (w_319 hw)) (Or.inr (w_331 hw)) (by decide) (by decide) (by decide)))
  refine ⟨_, _, _, x41_r, x67_r, x70_r, x113_r, x157_r, b42, x63_b, X344.more (by omega) (by omega), e344, N344, K344, f364, f371, f377, fun target hk => ?_⟩
  show Steps _ _ _ (T.setTop (mkF m 9 #[vA ad, .val (.long c0), .second, .val (.long c1), .second, .val (.long c2), .second, vA lu, vA lf, vA l2, vA mp, vA l3, vA l4, vA l5, .unset, .unset, .unset] [(.ref ru)])) _
  refine XS.astore X0.here hx rfl (hb hby d365) rfl rfl (l' := #[vA ad, .val (.long c0), .second, .val (.long c1), .second, .val (.long c2), .second, vA ru, vA lf, vA l2, vA mp, vA l3, vA l4, vA l5, .unset, .unset, .unset]) rfl ?_
  refine XS.aload X0.here hx rfl (hb hby d366) rfl rfl ?_
  refine st40 _ ?_
  show Steps _ _ _ (T40.setTop (mkF m 16 #[vA ad, .val (.long c0), .second, .val (.long c1), .second, .val (.long c2), .second, vA ru, vA lf, vA l2, vA mp, vA l3, vA l4, vA l5, .unset, .unset, .unset] [(.ref el)])) _
  refine XS.astore X40.here hx rfl (hb hby d368) rfl rfl (l' := #[vA ad, .val (.long c0), .second, .val (.long c1), .second, .val (.long c2), .second, vA ru, vA el, vA l2, vA mp, vA l3, vA l4, vA l5, .unset, .unset, .unset]) rfl ?_
  refine XS.aload X40.here hx rfl (hb hby d369) rfl rfl ?_
  refine st41 _ ?_
  show Steps _ _ _ (T41.setTop (mkF m 23 #[vA ad, .val (.long c0), .second, .val (.long c1), .second, .val (.long c2), .second, vA ru, vA el, vA l2, vA mp, vA l3, vA l4, vA l5, .unset, .unset, .unset] [(.ref x41_r)])) _
  refine XS.astore X41.here hx rfl (hb hby d371) rfl rfl (l' := #[vA ad, .val (.long c0), .second, .val (.long c1), .second, .val (.long c2), .second, vA ru, vA el, vA x41_r, vA mp, vA l3, vA l4, vA l5, .unset, .unset, .unset]) rfl ?_
  refine st42 _ ?_
  show Steps _ _ _ (T42.setTop (mkF m 28 #[vA ad, .val (.long c0), .second, .val (.long c1), .second, .val (.long c2), .second, vA ru, vA el, vA x41_r, vA mp, vA l3, vA l4, vA l5, .unset, .unset, .unset] [(.ref b42)])) _
  refine XS.dup X42.here hx rfl (hb hby d373) rfl rfl ?_
  refine st44.trans ?_
  show Steps _ _ _ (T44.setTop (mkF m 32 #[vA ad, .val (.long c0), .second, .val (.long c1), .second, .val (.long c2), .second, vA ru, vA el, vA x41_r, vA mp, vA l3, vA l4, vA l5, .unset, .unset, .unset] [(.ref b42)])) _
  refine XS.astore X44.here hx rfl (hb hby d375) rfl rfl (l' := #[vA ad, .val (.long c0), .second, .val (.long c1), .second, .val (.long c2), .second, vA ru, vA el, vA x41_r, vA mp, vA l3, vA l4, vA l5, vA b42, .unset, .unset]) rfl ?_
  refine XS.aload X44.here hx rfl (hb hby d376) rfl rfl ?_
  refine st46.trans ?_
  show Steps _ _ _ (T46.setTop (mkF m 41 #[vA ad, .val (.long c0), .second, .val (.long c1), .second, .val (.long c2), .second, vA ru, vA el, vA x41_r, vA mp, vA l3, vA l4, vA l5, vA b42, .unset, .unset] [(.ref x46_b)])) _
  refine st63.trans ?_
  show Steps _ _ _ (T63.setTop (mkF m 46 #[vA ad, .val (.long c0), .second, .val (.long c1), .second, .val (.long c2), .second, vA ru, vA el, vA x41_r, vA mp, vA l3, vA l4, vA l5, vA b42, .unset, .unset] [(.ref x63_b)])) _
  refine XS.astore X63.here hx rfl (hb hby d379) rfl rfl (l' := #[vA ad, .val (.long c0), .second, .val (.long c1), .second, .val (.long c2), .second, vA ru, vA el, vA x41_r, vA mp, vA l3, vA l4, vA l5, vA b42, vA x63_b, .unset]) rfl ?_
  refine XS.aload X63.here hx rfl (hb hby d380) rfl rfl ?_
  refine st66.trans ?_
  show Steps _ _ _ (T66.setTop (mkF m 55 #[vA ad, .val (.long c0), .second, .val (.long c1), .second, .val (.long c2), .second, vA ru, vA el, vA x41_r, vA mp, vA l3, vA l4, vA l5, vA b42, vA x63_b, .unset] [(.int 0)])) _
  refine XS.ifYes X66.here hx rfl (pc0 := 55) (pc' := 104) rfl (hb hby d382) rfl ((if0 _ _).trans (teq ((by decide) : (0 : Int32) = (0 : Int32))).1) (by decide) (by decide) ?_
  refine XS.aload X66.here hx rfl (hb hby d383) rfl rfl ?_
  refine st67 _ ?_
  show Steps _ _ _ (T67.setTop (mkF m 109 #[vA ad, .val (.long c0), .second, .val (.long c1), .second, .val (.long c2), .second, vA ru, vA el, vA x41_r, vA mp, vA l3, vA l4, vA l5, vA b42, vA x63_b, .unset] [(.ref x67_r)])) _
  refine XS.astore X67.here hx rfl (hb hby d385) rfl rfl (l' := #[vA ad, .val (.long c0), .second, .val (.long c1), .second, .val (.long c2), .second, vA ru, vA el, vA x41_r, vA x67_r, vA l3, vA l4, vA l5, vA b42, vA x63_b, .unset]) rfl ?_
  refine XS.aload X67.here hx rfl (hb hby d386) rfl rfl ?_
  refine st70 _ ?_
  show Steps _ _ _ (T70.setTop (mkF m 116 #[vA ad, .val (.long c0), .second, .val (.long c1), .second, .val (.long c2), .second, vA ru, vA el, vA x41_r, vA x67_r, vA l3, vA l4, vA l5, vA b42, vA x63_b, .unset] [(.ref x70_r)])) _
  refine XS.astore X70.here hx rfl (hb hby d388) rfl rfl (l' := #[vA ad, .val (.long c0), .second, .val (.long c1), .second, .val (.long c2), .second, vA ru, vA el, vA x41_r, vA x67_r, vA x70_r, vA l4, vA l5, vA b42, vA x63_b, .unset]) rfl ?_
  refine XS.aload X70.here hx rfl (hb hby d389) rfl rfl ?_
  refine st113 _ ?_
  show Steps _ _ _ (T113.setTop (mkF m 123 #[vA ad, .val (.long c0), .second, .val (.long c1), .second, .val (.long c2), .second, vA ru, vA el, vA x41_r, vA x67_r, vA x70_r, vA l4, vA l5, vA b42, vA x63_b, .unset] [(.ref x113_r)])) _
  refine XS.astore X113.here hx rfl (hb hby d391) rfl rfl (l' := #[vA ad, .val (.long c0), .second, .val (.long c1), .second, .val (.long c2), .second, vA ru, vA el, vA x41_r, vA x67_r, vA x70_r, vA x113_r, vA l5, vA b42, vA x63_b, .unset]) rfl ?_
  refine XS.aload X113.here hx rfl (hb hby d392) rfl rfl ?_
  refine st157 _ ?_
  show Steps _ _ _ (T157.setTop (mkF m 130 #[vA ad, .val (.long c0), .second, .val (.long c1), .second, .val (.long c2), .second, vA ru, vA el, vA x41_r, vA x67_r, vA x70_r, vA x113_r, vA l5, vA b42, vA x63_b, .unset] [(.ref x157_r)])) _
  refine XS.astore X157.here hx rfl (hb hby d394) rfl rfl (l' := #[vA ad, .val (.long c0), .second, .val (.long c1), .second, .val (.long c2), .second, vA ru, vA el, vA x41_r, vA x67_r, vA x70_r, vA x113_r, vA x157_r, vA b42, vA x63_b, .unset]) rfl ?_
  refine XS.aloadN X157.here hx rfl (hb hby d395) rfl rfl ?_
  refine XS.lloadN X157.here hx rfl (hb hby d396) rfl ?_
  refine st201 _ ?_
  show Steps _ _ _ (T201.setTop (mkF m 137 #[vA ad, .val (.long c0), .second, .val (.long c1), .second, .val (.long c2), .second, vA ru, vA el, vA x41_r, vA x67_r, vA x70_r, vA x113_r, vA x157_r, vA b42, vA x63_b, .unset] [])) _
  refine XS.aloadN X201.here hx rfl (hb hby d398) rfl rfl ?_
  refine XS.lloadN X201.here hx rfl (hb hby d399) rfl ?_
  refine st220 _ ?_
  show Steps _ _ _ (T220.setTop (mkF m 142 #[vA ad, .val (.long c0), .second, .val (.long c1), .second, .val (.long c2), .second, vA ru, vA el, vA x41_r, vA x67_r, vA x70_r, vA x113_r, vA x157_r, vA b42, vA x63_b, .unset] [])) _
  refine XS.aloadN X220.here hx rfl (hb hby d401) rfl rfl ?_
  refine XS.lload X220.here hx rfl (hb hby d402) rfl ?_
  refine st232 _ ?_
  show Steps _ _ _ (T232.setTop (mkF m 148 #[vA ad, .val (.long c0), .second, .val (.long c1), .second, .val (.long c2), .second, vA ru, vA el, vA x41_r, vA x67_r, vA x70_r, vA x113_r, vA x157_r, vA b42, vA x63_b, .unset] [])) _
  refine XS.aloadN X232.here hx rfl (hb hby d404) rfl rfl ?_
  refine XS.aload X232.here hx rfl (hb hby d405) rfl rfl ?_
  refine st245 _ ?_
  show Steps _ _ _ (T245.setTop (mkF m 154 #[vA ad, .val (.long c0), .second, .val (.long c1), .second, .val (.long c2), .second, vA ru, vA el, vA x41_r, vA x67_r, vA x70_r, vA x113_r, vA x157_r, vA b42, vA x63_b, .unset] [])) _
  refine XS.aloadN X245.here hx rfl (hb hby d407) rfl rfl ?_
  refine XS.aload X245.here hx rfl (hb hby d408) rfl rfl ?_
  refine st259 _ ?_
  show Steps _ _ _ (T259.setTop (mkF m 160 #[vA ad, .val (.long c0), .second, .val (.long c1), .second, .val (.long c2), .second, vA ru, vA el, vA x41_r, vA x67_r, vA x70_r, vA x113_r, vA x157_r, vA b42, vA x63_b, .unset] [])) _
  refine XS.aloadN X259.here hx rfl (hb hby d410) rfl rfl ?_
  refine XS.aload X259.here hx rfl (hb hby d411) rfl rfl ?_
  refine st274 _ ?_
  show Steps _ _ _ (T274.setTop (mkF m 166 #[vA ad, .val (.long c0), .second, .val (.long c1), .second, .val (.long c2), .second, vA ru, vA el, vA x41_r, vA x67_r, vA x70_r, vA x113_r, vA x157_r, vA b42, vA x63_b, .unset] [])) _
  refine XS.aloadN X274.here hx rfl (hb hby d413) rfl rfl ?_
  refine XS.aload X274.here hx rfl (hb hby d414) rfl rfl ?_
  refine st290 _ ?_
  show Steps _ _ _ (T290.setTop (mkF m 172 #[vA ad, .val (.long c0), .second, .val (.long c1), .second, .val (.long c2), .second, vA ru, vA el, vA x41_r, vA x67_r, vA x70_r, vA x113_r, vA x157_r, vA b42, vA x63_b, .unset] [])) _
  refine XS.aloadN X290.here hx rfl (hb hby d416) rfl rfl ?_
  refine XS.aload X290.here hx rfl (hb hby d417) rfl rfl ?_
  refine st307 _ ?_
  show Steps _ _ _ (T307.setTop (mkF m 178 #[vA ad, .val (.long c0), .second, .val (.long c1), .second, .val (.long c2), .second, vA ru, vA el, vA x41_r, vA x67_r, vA x70_r, vA x113_r, vA x157_r, vA b42, vA x63_b, .unset] [])) _
  refine XS.aloadN X307.here hx rfl (hb hby d419) rfl rfl ?_
  refine XS.aload X307.here hx rfl (hb hby d420) rfl rfl ?_
  refine st325 _ ?_
  show Steps _ _ _ (T325.setTop (mkF m 184 #[vA ad, .val (.long c0), .second, .val (.long c1), .second, .val (.long c2), .second, vA ru, vA el, vA x41_r, vA x67_r, vA x70_r, vA x113_r, vA x157_r, vA b42, vA x63_b, .unset] [])) _
  refine XS.aloadN X325.here hx rfl (hb hby d422) rfl rfl ?_
  refine XS.aload X325.here hx rfl (hb hby d423) rfl rfl ?_
  refine st344 _ ?_
  show Steps _ _ _ (T344.setTop (mkF m 190 #[vA ad, .val (.long c0), .second, .val (.long c1), .second, .val (.long c2), .second, vA ru, vA el, vA x41_r, vA x67_r, vA x70_r, vA x113_r, vA x157_r, vA b42, vA x63_b, .unset] [])) _
  exact hk
theorem d425 : decode prog_47_method_1_code 0 = .ok (.aload_n 0, 1) := by decide +kernel
theorem w_107 {Z : State} {a0 : Array Value} (hw : HW Z a0) : (Jvm.Cond.methodLink "com/example/ratify/ratify/recovery/RecoveryReport" (1 : Nat) m_46).before a0 Z = true := hw _ (List.mem_of_getElem? (i := 107) rfl)
theorem w_111 {Z : State} {a0 : Array Value} (hw : HW Z a0) : (Jvm.Cond.code m_46 jdk_30_method_1_code (1 : Nat) (Option.none : Option Jvm.ClassFile.FieldType)).before a0 Z = true := hw _ (List.mem_of_getElem? (i := 111) rfl)
theorem w_110 {Z : State} {a0 : Array Value} (hw : HW Z a0) : (Jvm.Cond.initialized "java/lang/Record").before a0 Z = true := hw _ (List.mem_of_getElem? (i := 110) rfl)
theorem d426 : decode prog_47_method_1_code 1 = .ok (.invokespecial 1, 3) := by decide +kernel
theorem w_108 {Z : State} {a0 : Array Value} (hw : HW Z a0) : (Jvm.Cond.instanceMethod m_46).before a0 Z = true := hw _ (List.mem_of_getElem? (i := 108) rfl)
theorem d427 : decode prog_47_method_1_code 4 = .ok (.aload 7, 2) := by decide +kernel
theorem d428 : decode prog_47_method_1_code 6 = .ok (.invokestatic 7, 3) := by decide +kernel
theorem d429 : decode prog_47_method_1_code 190 = .ok (.return_, 1) := by decide +kernel
theorem pn_25 : plainName "com/example/ratify/ratify/recovery/RecoveryReport" = true := by first | (simp [plainName, overriddenIn]; done) | decide +kernel
theorem ef_14 (m : MethodId) (x0 : Addr) (x1 : Int64) (x2 : Int64) (x3 : Int64) (x4 : Addr) (x5 : Addr) (x6 : Addr) (x7 : Addr) (x8 : Addr) (x9 : Addr) (x10 : Addr) : entryFrame m #[(.ref x0), (.long x1), (.long x2), (.long x3), (.ref x4), (.ref x5), (.ref x6), (.ref x7), (.ref x8), (.ref x9), (.ref x10)] 17 = mkF m 0 #[vA x0, .val (.long x1), .second, .val (.long x2), .second, .val (.long x3), .second, vA x4, vA x5, vA x6, vA x7, vA x8, vA x9, vA x10, .unset, .unset, .unset] [] := by first | (simp [entryFrame, mkF, argsToLocals, Value.category, maxLocals]; done) | rfl
abbrev m_50 : MethodName := (⟨"com/example/ratify/ratify/recovery/RecoveryReport", "<init>", "(JJJLjava/util/List;Ljava/util/List;Ljava/util/List;Ljava/util/Map;Ljava/util/List;Ljava/util/List;Ljava/util/List;)V"⟩ : MethodName)
def Q_rr0 (Z : State) (a_ : Addr) (c0 : Int64) (c1 : Int64) (c2 : Int64) (lu : Addr) (lf : Addr) (l2 : Addr) (v2 : Addr) (kv2 : ClassId) (sn2 : Int32) (sN2 : Int32) (vs2 : List Value) (mp : Addr) (l3 : Addr) (v3 : Addr) (kv3 : ClassId) (sn3 : Int32) (sN3 : Int32) (vs3 : List Value) (l4 : Addr) (v4 : Addr) (kv4 : ClassId) (sn4 : Int32) (sN4 : Int32) (vs4 : List Value) (l5 : Addr) (v5 : Addr) (kv5 : ClassId) (sn5 : Int32) (sN5 : Int32) (vs5 : List Value) (nm : Addr) (ot : Addr) (el : Addr) (em : Addr) (mo : Addr) (ml : Addr) (mu : Addr) (h0 : Heap) (n0 : Nat) (v : Option Value) (h : Heap) (L : List Loc) : Prop := (v = none) ∧ (Fr n0 L) ∧ (Keep h0 h [a_, mp]) ∧ (Exa Z h a_ "com/example/ratify/ratify/recovery/RecoveryReport") ∧ (fld13 Z h a_ (.long c2)) ∧ (fld14 Z h a_ (.ref el))
theorem rm_rr0 (l : Launch) (Z : State) (a0 : Array Value) (hw : HW Z a0) (ws : List Jvm.Cond) (a_ : Addr) (c0 : Int64) (c1 : Int64) (c2 : Int64) (lu : Addr) (lf : Addr) (l2 : Addr) (v2 : Addr) (kv2 : ClassId) (sn2 : Int32) (sN2 : Int32) (vs2 : List Value) (mp : Addr) (l3 : Addr) (v3 : Addr) (kv3 : ClassId) (sn3 : Int32) (sN3 : Int32) (vs3 : List Value) (l4 : Addr) (v4 : Addr) (kv4 : ClassId) (sn4 : Int32) (sN4 : Int32) (vs4 : List Value) (l5 : Addr) (v5 : Addr) (kv5 : ClassId) (sn5 : Int32) (sN5 : Int32) (vs5 : List Value) (nm : Addr) (ot : Addr) (el : Addr) (em : Addr) (mo : Addr) (ml : Addr) (mu : Addr) (h0 : Heap) (n0 : Nat) (Z0 : n0 ≤ h0.size) (P0 : Old Z n0 h0) (P1 : sta2 Z (.ref el)) (P2 : sta3 Z (.ref em)) (P3 : Mi Z "[Ljava/lang/Object;" mo) (P4 : Mi Z "java/util/LinkedHashMap" ml) (P5 : Mi Z "java/util/Collections$UnmodifiableMap" mu) (P6 : Exa Z h0 a_ "com/example/ratify/ratify/recovery/RecoveryReport") (P7 : fld11 Z h0 a_ (.long (0 : Int64))) (P8 : fld12 Z h0 a_ (.long (0 : Int64))) (P9 : fld13 Z h0 a_ (.long (0 : Int64))) (P10 : fld14 Z h0 a_ .null) (P11 : fld15 Z h0 a_ .null) (P12 : fld16 Z h0 a_ .null) (P13 : Fld Z h0 a_ "com/example/ratify/ratify/recovery/RecoveryReport" "unfinished" "Ljava/util/Map;" .null) (P14 : fld17 Z h0 a_ .null) (P15 : fld18 Z h0 a_ .null) (P16 : fld19 Z h0 a_ .null) (P17 : Exa Z h0 lu "java/util/ArrayList") (P18 : fld2 Z h0 lu (.int 0)) (P19 : Exa Z h0 lf "java/util/ArrayList") (P20 : fld2 Z h0 lf (.int 0)) (P21 : Exa Z h0 l2 "java/util/ArrayList") (P22 : fld2 Z h0 l2 (.int sn2)) (P23 : fld3 Z h0 l2 (.ref v2)) (P24 : Exa Z h0 v2 "[Ljava/lang/Object;") (P25 : Arv Z h0 v2 kv2 (.object "java/lang/Object") sN2 vs2 .null) (P26 : Exa Z h0 l3 "java/util/ArrayList") (P27 : fld2 Z h0 l3 (.int sn3)) (P28 : fld3 Z h0 l3 (.ref v3)) (P29 : Exa Z h0 v3 "[Ljava/lang/Object;") (P30 : Arv Z h0 v3 kv3 (.object "java/lang/Object") sN3 vs3 .null) (P31 : Exa Z h0 l4 "java/util/ArrayList") (P32 : fld2 Z h0 l4 (.int sn4)) (P33 : fld3 Z h0 l4 (.ref v4)) (P34 : Exa Z h0 v4 "[Ljava/lang/Object;") (P35 : Arv Z h0 v4 kv4 (.object "java/lang/Object") sN4 vs4 .null) (P36 : Exa Z h0 l5 "java/util/ArrayList") (P37 : fld2 Z h0 l5 (.int sn5)) (P38 : fld3 Z h0 l5 (.ref v5)) (P39 : Exa Z h0 v5 "[Ljava/lang/Object;") (P40 : Arv Z h0 v5 kv5 (.object "java/lang/Object") sN5 vs5 .null) (P41 : Exa Z h0 nm "java/lang/String") (P42 : Exa Z h0 ot "java/lang/String") (P43 : Exa Z h0 mp "java/util/HashMap") (P44 : fld5 Z h0 mp .null) (P45 : fld6 Z h0 mp (.int 0)) (P46 : fld7 Z h0 mp .null) (P47 : n0 ≤ a_) (P48 : n0 ≤ mp) (P49 : a_ ≠ mp) (P50 : l3 ≠ mp) (P51 : v3 ≠ mp) (P52 : l4 ≠ mp) (P53 : v4 ≠ mp) (P54 : l5 ≠ mp) (P55 : v5 ≠ mp) (hls2 : LS1 sn2 sN2 vs2 ot) (hls3 : LS1 sn3 sN3 vs3 nm) (hls4 : LS1 sn4 sN4 vs4 ot) (hls5 : LS1 sn5 sN5 vs5 nm) :
    MF l Z m_50 prog_47_method_1_code 17 none ws (oR 8 12 34 100) #[(.ref a_), (.long c0), (.long c1), (.long c2), (.ref lu), (.ref lf), (.ref l2), (.ref mp), (.ref l3), (.ref l4), (.ref l5)] h0 (Q_rr0 Z a_ c0 c1 c2 lu lf l2 v2 kv2 sn2 sN2 vs2 mp l3 v3 kv3 sn3 sN3 vs3 l4 v4 kv4 sn4 sN4 vs4 l5 v5 kv5 sn5 sN5 vs5 nm ot el em mo ml mu h0 n0) := by
  refine own_body (cls := "com/example/ratify/ratify/recovery/RecoveryReport") (plainFor_of_name pn_25) rfl (fun p e s m below meth c s₁ hx hby hml hown hnm hret hZ X0 e0 => ?_)
  have N0 := Fr.nil n0
  have K0 := Keep.refl h0 [a_, mp]
  have lt1 := own_l P6.lt
  have lt2 := own_l P7.lt
  have lt3 := own_l P8.lt
  have lt4 := own_l P9.lt
  have lt5 := own_l P10.lt
  have lt6 := own_l P11.lt
  have lt7 := own_l P12.lt
  have lt8 := own_l P13.lt
  have lt9 := own_l P14.lt
  have lt10 := own_l P15.lt
  have lt11 := own_l P16.lt
  have lt12 := own_l P17.lt
  have lt13 := own_l P18.lt
  have lt14 := own_l P19.lt
  have lt15 := own_l P20.lt
  have lt16 := own_l P21.lt
  have lt17 := own_l P22.lt
  have lt18 := own_l P23.lt
  have lt19 := own_l P24.lt
  have lt20 := own_l P25.lt
  have lt21 := own_l P26.lt
  have lt22 := own_l P27.lt
  have lt23 := own_l P28.lt
  have lt24 := own_l P29.lt
  have lt25 := own_l P30.lt
  have lt26 := own_l P31.lt
  have lt27 := own_l P32.lt
  have lt28 := own_l P33.lt
  have lt29 := own_l P34.lt
  have lt30 := own_l P35.lt
  have lt31 := own_l P36.lt
  have lt32 := own_l P37.lt
  have lt33 := own_l P38.lt
  have lt34 := own_l P39.lt
  have lt35 := own_l P40.lt
  have lt36 := own_l P41.lt
  have lt37 := own_l P42.lt
  have lt38 := own_l P43.lt
  have lt39 := own_l P44.lt
  have lt40 := own_l P45.lt
  have lt41 := own_l P46.lt
  obtain ⟨_, _, ⟨T42, L42, k42, n42⟩, -, X42, ⟨Lc42, hQ42, l42, y42, z42⟩, st42⟩ := X0.specialBack hx (y := m_46) rfl hown (mvT hZ (w_107 hw)) (mvT hZ (w_108 hw)) (mvT hZ (w_111 hw)) (by decide) (backOf (W := 0) (rm_rec l Z a0 hw [] a_ h0 n0 (by omega) ) hZ (w_111 hw) (w_110 hw) (by decide) (by decide)) (g := (mkF m 1 #[vA a_, .val (.long c0), .second, .val (.long c1), .second, .val (.long c2), .second, vA lu, vA lf, vA l2, vA mp, vA l3, vA l4, vA l5, .unset, .unset, .unset] [(.ref a_)])) rfl (by rw [hml]; rfl) (Steps.refl _) (a := a_) (argsL := []) (rest := []) (lenOf pd_3 rfl) rfl (Nat.le_of_eq rfl) (hb hby d426) (fun _ _ => ⟨rfl, e0, (by decide : 0 + 0 ≤ _), (by decide : 0 + 0 ≤ _)⟩)
  dsimp only [Pt.U, Pt.locs, Pt.cells, Pt.slots] at X42 l42 y42 z42 st42 hQ42
  rw [l42, y42, z42] at X42
  obtain ⟨rfl, Nq42, Kq42⟩ := hQ42
  have N42 := Fr.app N0 Nq42
  obtain ⟨_, _, ⟨T43, L43, k43, n43⟩, -, X43, ⟨Lc43, hQ43, l43, y43, z43⟩, st43⟩ := Jvm.LawKit.callS X42 hx (y := m_17) hown (mvT hZ (w_113 hw)) (mvT hZ (w_114 hw)) (mvT hZ (w_115 hw)) (mvT hZ (w_116 hw)) (by decide) (backOf (W := 0) (rm_cp0 l Z a0 hw [] lu el h0 n0 (by omega) P0 P1 P17 P18) hZ (w_116 hw) (w_115 hw) (by decide) (by decide)) (g := (mkF m 6 #[vA a_, .val (.long c0), .second, .val (.long c1), .second, .val (.long c2), .second, vA lu, vA lf, vA l2, vA mp, vA l3, vA l4, vA l5, .unset, .unset, .unset] [(.ref lu)])) rfl (by rw [hml]; rfl) (argsL := [(.ref lu)]) (rest := []) (lenOf pd_10 rfl) rfl (Nat.le_of_eq rfl) (hb hby d428) (fun _ _ => ⟨rfl, Kq42, (by decide : 0 + 0 ≤ _), (by decide : 0 + 0 ≤ _)⟩)
  dsimp only [Pt.U, Pt.locs, Pt.cells, Pt.slots] at X43 l43 y43 z43 st43 hQ43
  rw [l43, y43, z43] at X43
  obtain ⟨rfl, Nq43, Kq43⟩ := hQ43
  have N43 := Fr.app N42 Nq43
  obtain ⟨T44, h44, L44, x44_r2, x44_rm, x44_r3, x44_r4, x44_r5, x44_lh, x44_tr, X44, e44, N44, Kq44, r44_0, r44_1, r44_2, st44⟩ := pz_rrp X43 hx hw hZ hown hby hml a_ c0 c1 c2 lu el lf l2 v2 kv2 sn2 sN2 vs2 mp l3 v3 kv3 sn3 sN3 vs3 l4 v4 kv4 sn4 sN4 vs4 l5 v5 kv5 sn5 sN5 vs5 nm ot el em mo ml mu Kq43 N43 (by omega) P0 P1 P2 P3 P4 P5 P6 P7 P8 P9 P10 P11 P12 P13 P14 P15 P16 P19 P20 P21 P22 P23 P24 P25 P26 P27 P28 P29 P30 P31 P32 P33 P34 P35 P36 P37 P38 P39 P40 P41 P42 P43 P44 P45 P46 (by omega) (by omega) (fun q => P49 q) (fun q => P50 q) (fun q => P51 q) (fun q => P52 q) (fun q => P53 q) (fun q => P54 q) (fun q => P55 q) hls2 hls3 hls4 hls5 hnm (by decide) (by decide) (by decide) (by decide)
  have z44' := Kq44.1
  have K44 := K0.trans Kq44 (allS (Or.inl (List.mem_of_getElem? (i := 0) rfl)) (allS (Or.inl (List.mem_of_getElem? (i := 1) rfl)) all0))
  have lt45 := own_l r44_0.lt
  have lt46 := own_l r44_1.lt
  have lt47 := own_l r44_2.lt
  refine ⟨_, _, _, _, none, X44, by decide, by decide, fun _ => rfl, ?_, fun fs hr => castTop (ef_14 m a_ c0 c1 c2 lu lf l2 mp l3 l4 l5) ?_⟩
  · show Q_rr0 Z a_ c0 c1 c2 lu lf l2 v2 kv2 sn2 sN2 vs2 mp l3 v3 kv3 sn3 sN3 vs3 l4 v4 kv4 sn4 sN4 vs4 l5 v5 kv5 sn5 sN5 vs5 nm ot el em mo ml mu h0 n0 _ T44.heap _
    rw [(e44 : T44.heap = h44)]
    exact ⟨rfl, N44, K44, r44_0, r44_1, r44_2⟩
  · show Steps _ _ _ (s₁.setTop (mkF m 0 #[vA a_, .val (.long c0), .second, .val (.long c1), .second, .val (.long c2), .second, vA lu, vA lf, vA l2, vA mp, vA l3, vA l4, vA l5, .unset, .unset, .unset] [])) _
    refine XS.aloadN X0.here hx rfl (hb hby d425) rfl rfl ?_
    refine st42.trans ?_
    show Steps _ _ _ (T42.setTop (mkF m 4 #[vA a_, .val (.long c0), .second, .val (.long c1), .second, .val (.long c2), .second, vA lu, vA lf, vA l2, vA mp, vA l3, vA l4, vA l5, .unset, .unset, .unset] [])) _
    refine XS.aload X42.here hx rfl (hb hby d427) rfl rfl ?_
    refine st43 _ ?_
    show Steps _ _ _ (T43.setTop (mkF m 9 #[vA a_, .val (.long c0), .second, .val (.long c1), .second, .val (.long c2), .second, vA lu, vA lf, vA l2, vA mp, vA l3, vA l4, vA l5, .unset, .unset, .unset] [(.ref el)])) _
    refine st44 _ ?_
    show Steps _ _ _ (T44.setTop (mkF m 190 #[vA a_, .val (.long c0), .second, .val (.long c1), .second, .val (.long c2), .second, vA el, vA el, vA x44_r2, vA x44_rm, vA x44_r3, vA x44_r4, vA x44_r5, vA x44_lh, vA x44_tr, .unset] [])) _
    exact X44.returnOut hx hret (hb hby d429) hr
def Q_rr1 (Z : State) (a_ : Addr) (c0 : Int64) (c1 : Int64) (c2 : Int64) (lu : Addr) (vu : Addr) (ku : ClassId) (lf : Addr) (l2 : Addr) (v2 : Addr) (kv2 : ClassId) (sn2 : Int32) (sN2 : Int32) (vs2 : List Value) (mp : Addr) (l3 : Addr) (v3 : Addr) (kv3 : ClassId) (sn3 : Int32) (sN3 : Int32) (vs3 : List Value) (l4 : Addr) (v4 : Addr) (kv4 : ClassId) (sn4 : Int32) (sN4 : Int32) (vs4 : List Value) (l5 : Addr) (v5 : Addr) (kv5 : ClassId) (sn5 : Int32) (sN5 : Int32) (vs5 : List Value) (nm : Addr) (ot : Addr) (el : Addr) (em : Addr) (mo : Addr) (ml : Addr) (mu : Addr) (h0 : Heap) (n0 : Nat) (v : Option Value) (h : Heap) (L : List Loc) : Prop := ∃ (r : Addr), (v = none) ∧ (Fr n0 L) ∧ (Keep h0 h [a_, mp]) ∧ (Exa Z h a_ "com/example/ratify/ratify/recovery/RecoveryReport") ∧ (fld13 Z h a_ (.long c2)) ∧ (fld14 Z h a_ (.ref r)) ∧ (h0.size ≤ r) ∧ (Exa Z h r "java/util/ImmutableCollections$List12")
theorem rm_rr1 (l : Launch) (Z : State) (a0 : Array Value) (hw : HW Z a0) (ws : List Jvm.Cond) (a_ : Addr) (c0 : Int64) (c1 : Int64) (c2 : Int64) (lu : Addr) (vu : Addr) (ku : ClassId) (lf : Addr) (l2 : Addr) (v2 : Addr) (kv2 : ClassId) (sn2 : Int32) (sN2 : Int32) (vs2 : List Value) (mp : Addr) (l3 : Addr) (v3 : Addr) (kv3 : ClassId) (sn3 : Int32) (sN3 : Int32) (vs3 : List Value) (l4 : Addr) (v4 : Addr) (kv4 : ClassId) (sn4 : Int32) (sN4 : Int32) (vs4 : List Value) (l5 : Addr) (v5 : Addr) (kv5 : ClassId) (sn5 : Int32) (sN5 : Int32) (vs5 : List Value) (nm : Addr) (ot : Addr) (el : Addr) (em : Addr) (mo : Addr) (ml : Addr) (mu : Addr) (h0 : Heap) (n0 : Nat) (Z0 : n0 ≤ h0.size) (P0 : Old Z n0 h0) (P1 : sta2 Z (.ref el)) (P2 : sta3 Z (.ref em)) (P3 : Mi Z "[Ljava/lang/Object;" mo) (P4 : Mi Z "java/util/LinkedHashMap" ml) (P5 : Mi Z "java/util/Collections$UnmodifiableMap" mu) (P6 : Exa Z h0 a_ "com/example/ratify/ratify/recovery/RecoveryReport") (P7 : fld11 Z h0 a_ (.long (0 : Int64))) (P8 : fld12 Z h0 a_ (.long (0 : Int64))) (P9 : fld13 Z h0 a_ (.long (0 : Int64))) (P10 : fld14 Z h0 a_ .null) (P11 : fld15 Z h0 a_ .null) (P12 : fld16 Z h0 a_ .null) (P13 : Fld Z h0 a_ "com/example/ratify/ratify/recovery/RecoveryReport" "unfinished" "Ljava/util/Map;" .null) (P14 : fld17 Z h0 a_ .null) (P15 : fld18 Z h0 a_ .null) (P16 : fld19 Z h0 a_ .null) (P17 : Exa Z h0 lu "java/util/ArrayList") (P18 : fld2 Z h0 lu (.int 1)) (P19 : fld3 Z h0 lu (.ref vu)) (P20 : Exa Z h0 vu "[Ljava/lang/Object;") (P21 : Arv Z h0 vu ku (.object "java/lang/Object") (10 : Int32) [(.ref nm), .null, .null, .null, .null, .null, .null, .null, .null, .null] .null) (P22 : Exa Z h0 lf "java/util/ArrayList") (P23 : fld2 Z h0 lf (.int 0)) (P24 : Exa Z h0 l2 "java/util/ArrayList") (P25 : fld2 Z h0 l2 (.int sn2)) (P26 : fld3 Z h0 l2 (.ref v2)) (P27 : Exa Z h0 v2 "[Ljava/lang/Object;") (P28 : Arv Z h0 v2 kv2 (.object "java/lang/Object") sN2 vs2 .null) (P29 : Exa Z h0 l3 "java/util/ArrayList") (P30 : fld2 Z h0 l3 (.int sn3)) (P31 : fld3 Z h0 l3 (.ref v3)) (P32 : Exa Z h0 v3 "[Ljava/lang/Object;") (P33 : Arv Z h0 v3 kv3 (.object "java/lang/Object") sN3 vs3 .null) (P34 : Exa Z h0 l4 "java/util/ArrayList") (P35 : fld2 Z h0 l4 (.int sn4)) (P36 : fld3 Z h0 l4 (.ref v4)) (P37 : Exa Z h0 v4 "[Ljava/lang/Object;") (P38 : Arv Z h0 v4 kv4 (.object "java/lang/Object") sN4 vs4 .null) (P39 : Exa Z h0 l5 "java/util/ArrayList") (P40 : fld2 Z h0 l5 (.int sn5)) (P41 : fld3 Z h0 l5 (.ref v5)) (P42 : Exa Z h0 v5 "[Ljava/lang/Object;") (P43 : Arv Z h0 v5 kv5 (.object "java/lang/Object") sN5 vs5 .null) (P44 : Exa Z h0 nm "java/lang/String") (P45 : Exa Z h0 ot "java/lang/String") (P46 : Exa Z h0 mp "java/util/HashMap") (P47 : fld5 Z h0 mp .null) (P48 : fld6 Z h0 mp (.int 0)) (P49 : fld7 Z h0 mp .null) (P50 : n0 ≤ a_) (P51 : n0 ≤ mp) (P52 : a_ ≠ mp) (P53 : l3 ≠ mp) (P54 : v3 ≠ mp) (P55 : l4 ≠ mp) (P56 : v4 ≠ mp) (P57 : l5 ≠ mp) (P58 : v5 ≠ mp) (hls2 : LS1 sn2 sN2 vs2 ot) (hls3 : LS1 sn3 sN3 vs3 nm) (hls4 : LS1 sn4 sN4 vs4 ot) (hls5 : LS1 sn5 sN5 vs5 nm) :
    MF l Z m_50 prog_47_method_1_code 17 none ws (oR 8 14 37 100) #[(.ref a_), (.long c0), (.long c1), (.long c2), (.ref lu), (.ref lf), (.ref l2), (.ref mp), (.ref l3), (.ref l4), (.ref l5)] h0 (Q_rr1 Z a_ c0 c1 c2 lu vu ku lf l2 v2 kv2 sn2 sN2 vs2 mp l3 v3 kv3 sn3 sN3 vs3 l4 v4 kv4 sn4 sN4 vs4 l5 v5 kv5 sn5 sN5 vs5 nm ot el em mo ml mu h0 n0) := by
  refine own_body (cls := "com/example/ratify/ratify/recovery/RecoveryReport") (plainFor_of_name pn_25) rfl (fun p e s m below meth c s₁ hx hby hml hown hnm hret hZ X0 e0 => ?_)
  have N0 := Fr.nil n0
  have K0 := Keep.refl h0 [a_, mp]
  have lt1 := own_l P6.lt
  have lt2 := own_l P7.lt
  have lt3 := own_l P8.lt
  have lt4 := own_l P9.lt
  have lt5 := own_l P10.lt
  have lt6 := own_l P11.lt
  have lt7 := own_l P12.lt
  have lt8 := own_l P13.lt
  have lt9 := own_l P14.lt
  have lt10 := own_l P15.lt
  have lt11 := own_l P16.lt
  have lt12 := own_l P17.lt
  have lt13 := own_l P18.lt
  have lt14 := own_l P19.lt
  have lt15 := own_l P20.lt
  have lt16 := own_l P21.lt
  have lt17 := own_l P22.lt
  have lt18 := own_l P23.lt
  have lt19 := own_l P24.lt
  have lt20 := own_l P25.lt
  have lt21 := own_l P26.lt
  have lt22 := own_l P27.lt
  have lt23 := own_l P28.lt
  have lt24 := own_l P29.lt
  have lt25 := own_l P30.lt
  have lt26 := own_l P31.lt
  have lt27 := own_l P32.lt
  have lt28 := own_l P33.lt
  have lt29 := own_l P34.lt
  have lt30 := own_l P35.lt
  have lt31 := own_l P36.lt
  have lt32 := own_l P37.lt
  have lt33 := own_l P38.lt
  have lt34 := own_l P39.lt
  have lt35 := own_l P40.lt
  have lt36 := own_l P41.lt
  have lt37 := own_l P42.lt
  have lt38 := own_l P43.lt
  have lt39 := own_l P44.lt
  have lt40 := own_l P45.lt
  have lt41 := own_l P46.lt
  have lt42 := own_l P47.lt
  have lt43 := own_l P48.lt
  have lt44 := own_l P49.lt
  obtain ⟨_, _, ⟨T45, L45, k45, n45⟩, -, X45, ⟨Lc45, hQ45, l45, y45, z45⟩, st45⟩ := X0.specialBack hx (y := m_46) rfl hown (mvT hZ (w_107 hw)) (mvT hZ (w_108 hw)) (mvT hZ (w_111 hw)) (by decide) (backOf (W := 0) (rm_rec l Z a0 hw [] a_ h0 n0 (by omega) ) hZ (w_111 hw) (w_110 hw) (by decide) (by decide)) (g := (mkF m 1 #[vA a_, .val (.long c0), .second, .val (.long c1), .second, .val (.long c2), .second, vA lu, vA lf, vA l2, vA mp, vA l3, vA l4, vA l5, .unset, .unset, .unset] [(.ref a_)])) rfl (by rw [hml]; rfl) (Steps.refl _) (a := a_) (argsL := []) (rest := []) (lenOf pd_3 rfl) rfl (Nat.le_of_eq rfl) (hb hby d426) (fun _ _ => ⟨rfl, e0, (by decide : 0 + 0 ≤ _), (by decide : 0 + 0 ≤ _)⟩)
  dsimp only [Pt.U, Pt.locs, Pt.cells, Pt.slots] at X45 l45 y45 z45 st45 hQ45
  rw [l45, y45, z45] at X45
  obtain ⟨rfl, Nq45, Kq45⟩ := hQ45
  have N45 := Fr.app N0 Nq45
  obtain ⟨_, _, ⟨T46, L46, k46, n46⟩, -, X46, ⟨Lc46, hQ46, l46, y46, z46⟩, st46⟩ := Jvm.LawKit.callS X45 hx (y := m_17) hown (mvT hZ (w_113 hw)) (mvT hZ (w_114 hw)) (mvT hZ (w_115 hw)) (mvT hZ (w_116 hw)) (by decide) (backOf (W := 0) (rm_cp1 l Z a0 hw [] lu vu ku nm mo em h0 n0 (by omega) P0 P2 P3 P17 P18 P19 P20 P21 P44) hZ (w_116 hw) (w_115 hw) (by decide) (by decide)) (g := (mkF m 6 #[vA a_, .val (.long c0), .second, .val (.long c1), .second, .val (.long c2), .second, vA lu, vA lf, vA l2, vA mp, vA l3, vA l4, vA l5, .unset, .unset, .unset] [(.ref lu)])) rfl (by rw [hml]; rfl) (argsL := [(.ref lu)]) (rest := []) (lenOf pd_10 rfl) rfl (Nat.le_of_eq rfl) (hb hby d428) (fun _ _ => ⟨rfl, Kq45, (by decide : 0 + 2 ≤ _), (by decide : 0 + 3 ≤ _)⟩)
  dsimp only [Pt.U, Pt.locs, Pt.cells, Pt.slots] at X46 l46 y46 z46 st46 hQ46
  rw [l46, y46, z46] at X46
  obtain ⟨x46_r, rfl, Nq46, Kq46, r46_0, r46_1⟩ := hQ46
  have N46 := Fr.app N45 Nq46
  have z46' := Kq46.1
  have K46 := K0.trans Kq46 all0
  have lt47 := own_l r46_1.lt
  have f48 := P0.keep Kq46 all0
  have f49 := P6.keep Kq46
  have f50 := P7.keep Kq46 nin0
  have f51 := P8.keep Kq46 nin0
  have f52 := P9.keep Kq46 nin0
  have f53 := P10.keep Kq46 nin0
  have f54 := P11.keep Kq46 nin0
  have f55 := P12.keep Kq46 nin0
  have f56 := P13.keep Kq46 nin0
  have f57 := P14.keep Kq46 nin0
  have f58 := P15.keep Kq46 nin0
  have f59 := P16.keep Kq46 nin0
  have f60 := P22.keep Kq46
  have f61 := P23.keep Kq46 nin0
  have f62 := P24.keep Kq46
  have f63 := P25.keep Kq46 nin0
  have f64 := P26.keep Kq46 nin0
  have f65 := P27.keep Kq46
  have f66 := P28.keep Kq46 nin0
  have f67 := P29.keep Kq46
  have f68 := P30.keep Kq46 nin0
  have f69 := P31.keep Kq46 nin0
  have f70 := P32.keep Kq46
  have f71 := P33.keep Kq46 nin0
  have f72 := P34.keep Kq46
  have f73 := P35.keep Kq46 nin0
  have f74 := P36.keep Kq46 nin0
  have f75 := P37.keep Kq46
  have f76 := P38.keep Kq46 nin0
  have f77 := P39.keep Kq46
  have f78 := P40.keep Kq46 nin0
  have f79 := P41.keep Kq46 nin0
  have f80 := P42.keep Kq46
  have f81 := P43.keep Kq46 nin0
  have f82 := P44.keep Kq46
  have f83 := P45.keep Kq46
  have f84 := P46.keep Kq46
  have f85 := P47.keep Kq46 nin0
  have f86 := P48.keep Kq46 nin0
  have f87 := P49.keep Kq46 nin0
  obtain ⟨T88, h88, L88, x88_r2, x88_rm, x88_r3, x88_r4, x88_r5, x88_lh, x88_tr, X88, e88, N88, Kq88, r88_0, r88_1, r88_2, st88⟩ := pz_rrp X46 hx hw hZ hown hby hml a_ c0 c1 c2 lu x46_r lf l2 v2 kv2 sn2 sN2 vs2 mp l3 v3 kv3 sn3 sN3 vs3 l4 v4 kv4 sn4 sN4 vs4 l5 v5 kv5 sn5 sN5 vs5 nm ot el em mo ml mu rfl N46 (by omega) f48 P1 P2 P3 P4 P5 f49 f50 f51 f52 f53 f54 f55 f56 f57 f58 f59 f60 f61 f62 f63 f64 f65 f66 f67 f68 f69 f70 f71 f72 f73 f74 f75 f76 f77 f78 f79 f80 f81 f82 f83 f84 f85 f86 f87 (by omega) (by omega) (fun q => P52 q) (fun q => P53 q) (fun q => P54 q) (fun q => P55 q) (fun q => P56 q) (fun q => P57 q) (fun q => P58 q) hls2 hls3 hls4 hls5 hnm (by decide) (by decide) (by decide) (by decide)
  have z88' := Kq88.1
  have K88 := K46.trans Kq88 (allS (Or.inl (List.mem_of_getElem? (i := 0) rfl)) (allS (Or.inl (List.mem_of_getElem? (i := 1) rfl)) all0))
  have lt89 := own_l r88_0.lt
  have lt90 := own_l r88_1.lt
  have lt91 := own_l r88_2.lt
  have f92 := r46_1.keep Kq88
  refine ⟨_, _, _, _, none, X88, by decide, by decide, fun _ => rfl, ?_, fun fs hr => castTop (ef_14 m a_ c0 c1 c2 lu lf l2 mp l3 l4 l5) ?_⟩
  · show Q_rr1 Z a_ c0 c1 c2 lu vu ku lf l2 v2 kv2 sn2 sN2 vs2 mp l3 v3 kv3 sn3 sN3 vs3 l4 v4 kv4 sn4 sN4 vs4 l5 v5 kv5 sn5 sN5 vs5 nm ot el em mo ml mu h0 n0 _ T88.heap _
    rw [(e88 : T88.heap = h88)]
    exact ⟨x46_r, rfl, N88, K88, r88_0, r88_1, r88_2, (by omega), f92⟩
  · show Steps _ _ _ (s₁.setTop (mkF m 0 #[vA a_, .val (.long c0), .second, .val (.long c1), .second, .val (.long c2), .second, vA lu, vA lf, vA l2, vA mp, vA l3, vA l4, vA l5, .unset, .unset, .unset] [])) _
    refine XS.aloadN X0.here hx rfl (hb hby d425) rfl rfl ?_
    refine st45.trans ?_
    show Steps _ _ _ (T45.setTop (mkF m 4 #[vA a_, .val (.long c0), .second, .val (.long c1), .second, .val (.long c2), .second, vA lu, vA lf, vA l2, vA mp, vA l3, vA l4, vA l5, .unset, .unset, .unset] [])) _
    refine XS.aload X45.here hx rfl (hb hby d427) rfl rfl ?_
    refine st46 _ ?_
    show Steps _ _ _ (T46.setTop (mkF m 9 #[vA a_, .val (.long c0), .second, .val (.long c1), .second, .val (.long c2), .second, vA lu, vA lf, vA l2, vA mp, vA l3, vA l4, vA l5, .unset, .unset, .unset] [(.ref x46_r)])) _
    refine st88 _ ?_
    show Steps _ _ _ (T88.setTop (mkF m 190 #[vA a_, .val (.long c0), .second, .val (.long c1), .second, .val (.long c2), .second, vA x46_r, vA el, vA x88_r2, vA x88_rm, vA x88_r3, vA x88_r4, vA x88_r5, vA x88_lh, vA x88_tr, .unset] [])) _
    exact X88.returnOut hx hret (hb hby d429) hr
def Q_rr2 (Z : State) (a_ : Addr) (c0 : Int64) (c1 : Int64) (c2 : Int64) (lu : Addr) (vu : Addr) (ku : ClassId) (lf : Addr) (l2 : Addr) (v2 : Addr) (kv2 : ClassId) (sn2 : Int32) (sN2 : Int32) (vs2 : List Value) (mp : Addr) (l3 : Addr) (v3 : Addr) (kv3 : ClassId) (sn3 : Int32) (sN3 : Int32) (vs3 : List Value) (l4 : Addr) (v4 : Addr) (kv4 : ClassId) (sn4 : Int32) (sN4 : Int32) (vs4 : List Value) (l5 : Addr) (v5 : Addr) (kv5 : ClassId) (sn5 : Int32) (sN5 : Int32) (vs5 : List Value) (nm : Addr) (ot : Addr) (el : Addr) (em : Addr) (mo : Addr) (ml : Addr) (mu : Addr) (h0 : Heap) (n0 : Nat) (v : Option Value) (h : Heap) (L : List Loc) : Prop := ∃ (r : Addr), (v = none) ∧ (Fr n0 L) ∧ (Keep h0 h [a_, mp]) ∧ (Exa Z h a_ "com/example/ratify/ratify/recovery/RecoveryReport") ∧ (fld13 Z h a_ (.long c2)) ∧ (fld14 Z h a_ (.ref r)) ∧ (h0.size ≤ r) ∧ (Exa Z h r "java/util/ImmutableCollections$List12")
theorem rm_rr2 (l : Launch) (Z : State) (a0 : Array Value) (hw : HW Z a0) (ws : List Jvm.Cond) (a_ : Addr) (c0 : Int64) (c1 : Int64) (c2 : Int64) (lu : Addr) (vu : Addr) (ku : ClassId) (lf : Addr) (l2 : Addr) (v2 : Addr) (kv2 : ClassId) (sn2 : Int32) (sN2 : Int32) (vs2 : List Value) (mp : Addr) (l3 : Addr) (v3 : Addr) (kv3 : ClassId) (sn3 : Int32) (sN3 : Int32) (vs3 : List Value) (l4 : Addr) (v4 : Addr) (kv4 : ClassId) (sn4 : Int32) (sN4 : Int32) (vs4 : List Value) (l5 : Addr) (v5 : Addr) (kv5 : ClassId) (sn5 : Int32) (sN5 : Int32) (vs5 : List Value) (nm : Addr) (ot : Addr) (el : Addr) (em : Addr) (mo : Addr) (ml : Addr) (mu : Addr) (h0 : Heap) (n0 : Nat) (Z0 : n0 ≤ h0.size) (P0 : Old Z n0 h0) (P1 : sta2 Z (.ref el)) (P2 : sta3 Z (.ref em)) (P3 : Mi Z "[Ljava/lang/Object;" mo) (P4 : Mi Z "java/util/LinkedHashMap" ml) (P5 : Mi Z "java/util/Collections$UnmodifiableMap" mu) (P6 : Exa Z h0 a_ "com/example/ratify/ratify/recovery/RecoveryReport") (P7 : fld11 Z h0 a_ (.long (0 : Int64))) (P8 : fld12 Z h0 a_ (.long (0 : Int64))) (P9 : fld13 Z h0 a_ (.long (0 : Int64))) (P10 : fld14 Z h0 a_ .null) (P11 : fld15 Z h0 a_ .null) (P12 : fld16 Z h0 a_ .null) (P13 : Fld Z h0 a_ "com/example/ratify/ratify/recovery/RecoveryReport" "unfinished" "Ljava/util/Map;" .null) (P14 : fld17 Z h0 a_ .null) (P15 : fld18 Z h0 a_ .null) (P16 : fld19 Z h0 a_ .null) (P17 : Exa Z h0 lu "java/util/ArrayList") (P18 : fld2 Z h0 lu (.int 2)) (P19 : fld3 Z h0 lu (.ref vu)) (P20 : Exa Z h0 vu "[Ljava/lang/Object;") (P21 : Arv Z h0 vu ku (.object "java/lang/Object") (10 : Int32) [(.ref nm), (.ref ot), .null, .null, .null, .null, .null, .null, .null, .null] .null) (P22 : Exa Z h0 lf "java/util/ArrayList") (P23 : fld2 Z h0 lf (.int 0)) (P24 : Exa Z h0 l2 "java/util/ArrayList") (P25 : fld2 Z h0 l2 (.int sn2)) (P26 : fld3 Z h0 l2 (.ref v2)) (P27 : Exa Z h0 v2 "[Ljava/lang/Object;") (P28 : Arv Z h0 v2 kv2 (.object "java/lang/Object") sN2 vs2 .null) (P29 : Exa Z h0 l3 "java/util/ArrayList") (P30 : fld2 Z h0 l3 (.int sn3)) (P31 : fld3 Z h0 l3 (.ref v3)) (P32 : Exa Z h0 v3 "[Ljava/lang/Object;") (P33 : Arv Z h0 v3 kv3 (.object "java/lang/Object") sN3 vs3 .null) (P34 : Exa Z h0 l4 "java/util/ArrayList") (P35 : fld2 Z h0 l4 (.int sn4)) (P36 : fld3 Z h0 l4 (.ref v4)) (P37 : Exa Z h0 v4 "[Ljava/lang/Object;") (P38 : Arv Z h0 v4 kv4 (.object "java/lang/Object") sN4 vs4 .null) (P39 : Exa Z h0 l5 "java/util/ArrayList") (P40 : fld2 Z h0 l5 (.int sn5)) (P41 : fld3 Z h0 l5 (.ref v5)) (P42 : Exa Z h0 v5 "[Ljava/lang/Object;") (P43 : Arv Z h0 v5 kv5 (.object "java/lang/Object") sN5 vs5 .null) (P44 : Exa Z h0 nm "java/lang/String") (P45 : Exa Z h0 ot "java/lang/String") (P46 : Exa Z h0 mp "java/util/HashMap") (P47 : fld5 Z h0 mp .null) (P48 : fld6 Z h0 mp (.int 0)) (P49 : fld7 Z h0 mp .null) (P50 : n0 ≤ a_) (P51 : n0 ≤ mp) (P52 : a_ ≠ mp) (P53 : l3 ≠ mp) (P54 : v3 ≠ mp) (P55 : l4 ≠ mp) (P56 : v4 ≠ mp) (P57 : l5 ≠ mp) (P58 : v5 ≠ mp) (hls2 : LS1 sn2 sN2 vs2 ot) (hls3 : LS1 sn3 sN3 vs3 nm) (hls4 : LS1 sn4 sN4 vs4 ot) (hls5 : LS1 sn5 sN5 vs5 nm) :
    MF l Z m_50 prog_47_method_1_code 17 none ws (oR 8 14 38 101) #[(.ref a_), (.long c0), (.long c1), (.long c2), (.ref lu), (.ref lf), (.ref l2), (.ref mp), (.ref l3), (.ref l4), (.ref l5)] h0 (Q_rr2 Z a_ c0 c1 c2 lu vu ku lf l2 v2 kv2 sn2 sN2 vs2 mp l3 v3 kv3 sn3 sN3 vs3 l4 v4 kv4 sn4 sN4 vs4 l5 v5 kv5 sn5 sN5 vs5 nm ot el em mo ml mu h0 n0) := by
  refine own_body (cls := "com/example/ratify/ratify/recovery/RecoveryReport") (plainFor_of_name pn_25) rfl (fun p e s m below meth c s₁ hx hby hml hown hnm hret hZ X0 e0 => ?_)
  have N0 := Fr.nil n0
  have K0 := Keep.refl h0 [a_, mp]
  have lt1 := own_l P6.lt
  have lt2 := own_l P7.lt
  have lt3 := own_l P8.lt
  have lt4 := own_l P9.lt
  have lt5 := own_l P10.lt
  have lt6 := own_l P11.lt
  have lt7 := own_l P12.lt
  have lt8 := own_l P13.lt
  have lt9 := own_l P14.lt
  have lt10 := own_l P15.lt
  have lt11 := own_l P16.lt
  have lt12 := own_l P17.lt
  have lt13 := own_l P18.lt
  have lt14 := own_l P19.lt
  have lt15 := own_l P20.lt
  have lt16 := own_l P21.lt
  have lt17 := own_l P22.lt
  have lt18 := own_l P23.lt
  have lt19 := own_l P24.lt
  have lt20 := own_l P25.lt
  have lt21 := own_l P26.lt
  have lt22 := own_l P27.lt
  have lt23 := own_l P28.lt
  have lt24 := own_l P29.lt
  have lt25 := own_l P30.lt
  have lt26 := own_l P31.lt
  have lt27 := own_l P32.lt
  have lt28 := own_l P33.lt
  have lt29 := own_l P34.lt
  have lt30 := own_l P35.lt
  have lt31 := own_l P36.lt
  have lt32 := own_l P37.lt
  have lt33 := own_l P38.lt
  have lt34 := own_l P39.lt
  have lt35 := own_l P40.lt
  have lt36 := own_l P41.lt
  have lt37 := own_l P42.lt
  have lt38 := own_l P43.lt
  have lt39 := own_l P44.lt
  have lt40 := own_l P45.lt
  have lt41 := own_l P46.lt
  have lt42 := own_l P47.lt
  have lt43 := own_l P48.lt
  have lt44 := own_l P49.lt
  obtain ⟨_, _, ⟨T45, L45, k45, n45⟩, -, X45, ⟨Lc45, hQ45, l45, y45, z45⟩, st45⟩ := X0.specialBack hx (y := m_46) rfl hown (mvT hZ (w_107 hw)) (mvT hZ (w_108 hw)) (mvT hZ (w_111 hw)) (by decide) (backOf (W := 0) (rm_rec l Z a0 hw [] a_ h0 n0 (by omega) ) hZ (w_111 hw) (w_110 hw) (by decide) (by decide)) (g := (mkF m 1 #[vA a_, .val (.long c0), .second, .val (.long c1), .second, .val (.long c2), .second, vA lu, vA lf, vA l2, vA mp, vA l3, vA l4, vA l5, .unset, .unset, .unset] [(.ref a_)])) rfl (by rw [hml]; rfl) (Steps.refl _) (a := a_) (argsL := []) (rest := []) (lenOf pd_3 rfl) rfl (Nat.le_of_eq rfl) (hb hby d426) (fun _ _ => ⟨rfl, e0, (by decide : 0 + 0 ≤ _), (by decide : 0 + 0 ≤ _)⟩)
  dsimp only [Pt.U, Pt.locs, Pt.cells, Pt.slots] at X45 l45 y45 z45 st45 hQ45
  rw [l45, y45, z45] at X45
  obtain ⟨rfl, Nq45, Kq45⟩ := hQ45
  have N45 := Fr.app N0 Nq45
  obtain ⟨_, _, ⟨T46, L46, k46, n46⟩, -, X46, ⟨Lc46, hQ46, l46, y46, z46⟩, st46⟩ := Jvm.LawKit.callS X45 hx (y := m_17) hown (mvT hZ (w_113 hw)) (mvT hZ (w_114 hw)) (mvT hZ (w_115 hw)) (mvT hZ (w_116 hw)) (by decide) (backOf (W := 0) (rm_cp2 l Z a0 hw [] lu vu ku nm ot mo h0 n0 (by omega) P3 P17 P18 P19 P20 P21 P44 P45) hZ (w_116 hw) (w_115 hw) (by decide) (by decide)) (g := (mkF m 6 #[vA a_, .val (.long c0), .second, .val (.long c1), .second, .val (.long c2), .second, vA lu, vA lf, vA l2, vA mp, vA l3, vA l4, vA l5, .unset, .unset, .unset] [(.ref lu)])) rfl (by rw [hml]; rfl) (argsL := [(.ref lu)]) (rest := []) (lenOf pd_10 rfl) rfl (Nat.le_of_eq rfl) (hb hby d428) (fun _ _ => ⟨rfl, Kq45, (by decide : 0 + 2 ≤ _), (by decide : 0 + 4 ≤ _)⟩)
  dsimp only [Pt.U, Pt.locs, Pt.cells, Pt.slots] at X46 l46 y46 z46 st46 hQ46
  rw [l46, y46, z46] at X46
  obtain ⟨x46_r, rfl, Nq46, Kq46, r46_0, r46_1⟩ := hQ46
  have N46 := Fr.app N45 Nq46
  have z46' := Kq46.1
  have K46 := K0.trans Kq46 all0
  have lt47 := own_l r46_1.lt
  have f48 := P0.keep Kq46 all0
  have f49 := P6.keep Kq46
  have f50 := P7.keep Kq46 nin0
  have f51 := P8.keep Kq46 nin0
  have f52 := P9.keep Kq46 nin0
  have f53 := P10.keep Kq46 nin0
  have f54 := P11.keep Kq46 nin0
  have f55 := P12.keep Kq46 nin0
  have f56 := P13.keep Kq46 nin0
  have f57 := P14.keep Kq46 nin0
  have f58 := P15.keep Kq46 nin0
  have f59 := P16.keep Kq46 nin0
  have f60 := P22.keep Kq46
  have f61 := P23.keep Kq46 nin0
  have f62 := P24.keep Kq46
  have f63 := P25.keep Kq46 nin0
  have f64 := P26.keep Kq46 nin0
  have f65 := P27.keep Kq46
  have f66 := P28.keep Kq46 nin0
  have f67 := P29.keep Kq46
  have f68 := P30.keep Kq46 nin0
  have f69 := P31.keep Kq46 nin0
  have f70 := P32.keep Kq46
  have f71 := P33.keep Kq46 nin0
  have f72 := P34.keep Kq46
  have f73 := P35.keep Kq46 nin0
  have f74 := P36.keep Kq46 nin0
  have f75 := P37.keep Kq46
  have f76 := P38.keep Kq46 nin0
  have f77 := P39.keep Kq46
  have f78 := P40.keep Kq46 nin0
  have f79 := P41.keep Kq46 nin0
  have f80 := P42.keep Kq46
  have f81 := P43.keep Kq46 nin0
  have f82 := P44.keep Kq46
  have f83 := P45.keep Kq46
  have f84 := P46.keep Kq46
  have f85 := P47.keep Kq46 nin0
  have f86 := P48.keep Kq46 nin0
  have f87 := P49.keep Kq46 nin0
  obtain ⟨T88, h88, L88, x88_r2, x88_rm, x88_r3, x88_r4, x88_r5, x88_lh, x88_tr, X88, e88, N88, Kq88, r88_0, r88_1, r88_2, st88⟩ := pz_rrp X46 hx hw hZ hown hby hml a_ c0 c1 c2 lu x46_r lf l2 v2 kv2 sn2 sN2 vs2 mp l3 v3 kv3 sn3 sN3 vs3 l4 v4 kv4 sn4 sN4 vs4 l5 v5 kv5 sn5 sN5 vs5 nm ot el em mo ml mu rfl N46 (by omega) f48 P1 P2 P3 P4 P5 f49 f50 f51 f52 f53 f54 f55 f56 f57 f58 f59 f60 f61 f62 f63 f64 f65 f66 f67 f68 f69 f70 f71 f72 f73 f74 f75 f76 f77 f78 f79 f80 f81 f82 f83 f84 f85 f86 f87 (by omega) (by omega) (fun q => P52 q) (fun q => P53 q) (fun q => P54 q) (fun q => P55 q) (fun q => P56 q) (fun q => P57 q) (fun q => P58 q) hls2 hls3 hls4 hls5 hnm (by decide) (by decide) (by decide) (by decide)
  have z88' := Kq88.1
  have K88 := K46.trans Kq88 (allS (Or.inl (List.mem_of_getElem? (i := 0) rfl)) (allS (Or.inl (List.mem_of_getElem? (i := 1) rfl)) all0))
  have lt89 := own_l r88_0.lt
  have lt90 := own_l r88_1.lt
  have lt91 := own_l r88_2.lt
  have f92 := r46_1.keep Kq88
  refine ⟨_, _, _, _, none, X88, by decide, by decide, fun _ => rfl, ?_, fun fs hr => castTop (ef_14 m a_ c0 c1 c2 lu lf l2 mp l3 l4 l5) ?_⟩
  · show Q_rr2 Z a_ c0 c1 c2 lu vu ku lf l2 v2 kv2 sn2 sN2 vs2 mp l3 v3 kv3 sn3 sN3 vs3 l4 v4 kv4 sn4 sN4 vs4 l5 v5 kv5 sn5 sN5 vs5 nm ot el em mo ml mu h0 n0 _ T88.heap _
    rw [(e88 : T88.heap = h88)]
    exact ⟨x46_r, rfl, N88, K88, r88_0, r88_1, r88_2, (by omega), f92⟩
  · show Steps _ _ _ (s₁.setTop (mkF m 0 #[vA a_, .val (.long c0), .second, .val (.long c1), .second, .val (.long c2), .second, vA lu, vA lf, vA l2, vA mp, vA l3, vA l4, vA l5, .unset, .unset, .unset] [])) _
    refine XS.aloadN X0.here hx rfl (hb hby d425) rfl rfl ?_
    refine st45.trans ?_
    show Steps _ _ _ (T45.setTop (mkF m 4 #[vA a_, .val (.long c0), .second, .val (.long c1), .second, .val (.long c2), .second, vA lu, vA lf, vA l2, vA mp, vA l3, vA l4, vA l5, .unset, .unset, .unset] [])) _
    refine XS.aload X45.here hx rfl (hb hby d427) rfl rfl ?_
    refine st46 _ ?_
    show Steps _ _ _ (T46.setTop (mkF m 9 #[vA a_, .val (.long c0), .second, .val (.long c1), .second, .val (.long c2), .second, vA lu, vA lf, vA l2, vA mp, vA l3, vA l4, vA l5, .unset, .unset, .unset] [(.ref x46_r)])) _
    refine st88 _ ?_
    show Steps _ _ _ (T88.setTop (mkF m 190 #[vA a_, .val (.long c0), .second, .val (.long c1), .second, .val (.long c2), .second, vA x46_r, vA el, vA x88_r2, vA x88_rm, vA x88_r3, vA x88_r4, vA x88_r5, vA x88_lh, vA x88_tr, .unset] [])) _
    exact X88.returnOut hx hret (hb hby d429) hr
def Q_rr3 (Z : State) (a_ : Addr) (c0 : Int64) (c1 : Int64) (c2 : Int64) (lu : Addr) (vu : Addr) (ku : ClassId) (lf : Addr) (l2 : Addr) (v2 : Addr) (kv2 : ClassId) (sn2 : Int32) (sN2 : Int32) (vs2 : List Value) (mp : Addr) (l3 : Addr) (v3 : Addr) (kv3 : ClassId) (sn3 : Int32) (sN3 : Int32) (vs3 : List Value) (l4 : Addr) (v4 : Addr) (kv4 : ClassId) (sn4 : Int32) (sN4 : Int32) (vs4 : List Value) (l5 : Addr) (v5 : Addr) (kv5 : ClassId) (sn5 : Int32) (sN5 : Int32) (vs5 : List Value) (nm : Addr) (ot : Addr) (el : Addr) (em : Addr) (mo : Addr) (ml : Addr) (mu : Addr) (h0 : Heap) (n0 : Nat) (v : Option Value) (h : Heap) (L : List Loc) : Prop := ∃ (r : Addr) (ea : Addr) (ke : ClassId), (v = none) ∧ (Fr n0 L) ∧ (Keep h0 h [a_, mp]) ∧ (Exa Z h a_ "com/example/ratify/ratify/recovery/RecoveryReport") ∧ (fld13 Z h a_ (.long c2)) ∧ (fld14 Z h a_ (.ref r)) ∧ (h0.size ≤ r) ∧ (h0.size ≤ ea) ∧ (Exa Z h r "java/util/ImmutableCollections$ListN") ∧ (fld10 Z h r (.ref ea)) ∧ (Arv Z h ea ke (.object "java/lang/Object") (3 : Int32) [(.ref nm), (.ref ot), (.ref nm)] .null)
theorem rm_rr3 (l : Launch) (Z : State) (a0 : Array Value) (hw : HW Z a0) (ws : List Jvm.Cond) (a_ : Addr) (c0 : Int64) (c1 : Int64) (c2 : Int64) (lu : Addr) (vu : Addr) (ku : ClassId) (lf : Addr) (l2 : Addr) (v2 : Addr) (kv2 : ClassId) (sn2 : Int32) (sN2 : Int32) (vs2 : List Value) (mp : Addr) (l3 : Addr) (v3 : Addr) (kv3 : ClassId) (sn3 : Int32) (sN3 : Int32) (vs3 : List Value) (l4 : Addr) (v4 : Addr) (kv4 : ClassId) (sn4 : Int32) (sN4 : Int32) (vs4 : List Value) (l5 : Addr) (v5 : Addr) (kv5 : ClassId) (sn5 : Int32) (sN5 : Int32) (vs5 : List Value) (nm : Addr) (ot : Addr) (el : Addr) (em : Addr) (mo : Addr) (ml : Addr) (mu : Addr) (h0 : Heap) (n0 : Nat) (Z0 : n0 ≤ h0.size) (P0 : Old Z n0 h0) (P1 : sta2 Z (.ref el)) (P2 : sta3 Z (.ref em)) (P3 : Mi Z "[Ljava/lang/Object;" mo) (P4 : Mi Z "java/util/LinkedHashMap" ml) (P5 : Mi Z "java/util/Collections$UnmodifiableMap" mu) (P6 : Exa Z h0 a_ "com/example/ratify/ratify/recovery/RecoveryReport") (P7 : fld11 Z h0 a_ (.long (0 : Int64))) (P8 : fld12 Z h0 a_ (.long (0 : Int64))) (P9 : fld13 Z h0 a_ (.long (0 : Int64))) (P10 : fld14 Z h0 a_ .null) (P11 : fld15 Z h0 a_ .null) (P12 : fld16 Z h0 a_ .null) (P13 : Fld Z h0 a_ "com/example/ratify/ratify/recovery/RecoveryReport" "unfinished" "Ljava/util/Map;" .null) (P14 : fld17 Z h0 a_ .null) (P15 : fld18 Z h0 a_ .null) (P16 : fld19 Z h0 a_ .null) (P17 : Exa Z h0 lu "java/util/ArrayList") (P18 : fld2 Z h0 lu (.int 3)) (P19 : fld3 Z h0 lu (.ref vu)) (P20 : Exa Z h0 vu "[Ljava/lang/Object;") (P21 : Arv Z h0 vu ku (.object "java/lang/Object") (10 : Int32) [(.ref nm), (.ref ot), (.ref nm), .null, .null, .null, .null, .null, .null, .null] .null) (P22 : Exa Z h0 lf "java/util/ArrayList") (P23 : fld2 Z h0 lf (.int 0)) (P24 : Exa Z h0 l2 "java/util/ArrayList") (P25 : fld2 Z h0 l2 (.int sn2)) (P26 : fld3 Z h0 l2 (.ref v2)) (P27 : Exa Z h0 v2 "[Ljava/lang/Object;") (P28 : Arv Z h0 v2 kv2 (.object "java/lang/Object") sN2 vs2 .null) (P29 : Exa Z h0 l3 "java/util/ArrayList") (P30 : fld2 Z h0 l3 (.int sn3)) (P31 : fld3 Z h0 l3 (.ref v3)) (P32 : Exa Z h0 v3 "[Ljava/lang/Object;") (P33 : Arv Z h0 v3 kv3 (.object "java/lang/Object") sN3 vs3 .null) (P34 : Exa Z h0 l4 "java/util/ArrayList") (P35 : fld2 Z h0 l4 (.int sn4)) (P36 : fld3 Z h0 l4 (.ref v4)) (P37 : Exa Z h0 v4 "[Ljava/lang/Object;") (P38 : Arv Z h0 v4 kv4 (.object "java/lang/Object") sN4 vs4 .null) (P39 : Exa Z h0 l5 "java/util/ArrayList") (P40 : fld2 Z h0 l5 (.int sn5)) (P41 : fld3 Z h0 l5 (.ref v5)) (P42 : Exa Z h0 v5 "[Ljava/lang/Object;") (P43 : Arv Z h0 v5 kv5 (.object "java/lang/Object") sN5 vs5 .null) (P44 : Exa Z h0 nm "java/lang/String") (P45 : Exa Z h0 ot "java/lang/String") (P46 : Exa Z h0 mp "java/util/HashMap") (P47 : fld5 Z h0 mp .null) (P48 : fld6 Z h0 mp (.int 0)) (P49 : fld7 Z h0 mp .null) (P50 : n0 ≤ a_) (P51 : n0 ≤ mp) (P52 : a_ ≠ mp) (P53 : l3 ≠ mp) (P54 : v3 ≠ mp) (P55 : l4 ≠ mp) (P56 : v4 ≠ mp) (P57 : l5 ≠ mp) (P58 : v5 ≠ mp) (hls2 : LS1 sn2 sN2 vs2 ot) (hls3 : LS1 sn3 sN3 vs3 nm) (hls4 : LS1 sn4 sN4 vs4 ot) (hls5 : LS1 sn5 sN5 vs5 nm) :
    MF l Z m_50 prog_47_method_1_code 17 none ws (oR 9 15 42 115) #[(.ref a_), (.long c0), (.long c1), (.long c2), (.ref lu), (.ref lf), (.ref l2), (.ref mp), (.ref l3), (.ref l4), (.ref l5)] h0 (Q_rr3 Z a_ c0 c1 c2 lu vu ku lf l2 v2 kv2 sn2 sN2 vs2 mp l3 v3 kv3 sn3 sN3 vs3 l4 v4 kv4 sn4 sN4 vs4 l5 v5 kv5 sn5 sN5 vs5 nm ot el em mo ml mu h0 n0) := by
  refine own_body (cls := "com/example/ratify/ratify/recovery/RecoveryReport") (plainFor_of_name pn_25) rfl (fun p e s m below meth c s₁ hx hby hml hown hnm hret hZ X0 e0 => ?_)
  have N0 := Fr.nil n0
  have K0 := Keep.refl h0 [a_, mp]
  have lt1 := own_l P6.lt
  have lt2 := own_l P7.lt
  have lt3 := own_l P8.lt
  have lt4 := own_l P9.lt
  have lt5 := own_l P10.lt
  have lt6 := own_l P11.lt
  have lt7 := own_l P12.lt
  have lt8 := own_l P13.lt
  have lt9 := own_l P14.lt
  have lt10 := own_l P15.lt
  have lt11 := own_l P16.lt
  have lt12 := own_l P17.lt
  have lt13 := own_l P18.lt
  have lt14 := own_l P19.lt
  have lt15 := own_l P20.lt
  have lt16 := own_l P21.lt
  have lt17 := own_l P22.lt
  have lt18 := own_l P23.lt
  have lt19 := own_l P24.lt
  have lt20 := own_l P25.lt
  have lt21 := own_l P26.lt
  have lt22 := own_l P27.lt
  have lt23 := own_l P28.lt
  have lt24 := own_l P29.lt
  have lt25 := own_l P30.lt
  have lt26 := own_l P31.lt
  have lt27 := own_l P32.lt
  have lt28 := own_l P33.lt
  have lt29 := own_l P34.lt
  have lt30 := own_l P35.lt
  have lt31 := own_l P36.lt
  have lt32 := own_l P37.lt
  have lt33 := own_l P38.lt
  have lt34 := own_l P39.lt
  have lt35 := own_l P40.lt
  have lt36 := own_l P41.lt
  have lt37 := own_l P42.lt
  have lt38 := own_l P43.lt
  have lt39 := own_l P44.lt
  have lt40 := own_l P45.lt
  have lt41 := own_l P46.lt
  have lt42 := own_l P47.lt
  have lt43 := own_l P48.lt
  have lt44 := own_l P49.lt
  obtain ⟨_, _, ⟨T45, L45, k45, n45⟩, -, X45, ⟨Lc45, hQ45, l45, y45, z45⟩, st45⟩ := X0.specialBack hx (y := m_46) rfl hown (mvT hZ (w_107 hw)) (mvT hZ (w_108 hw)) (mvT hZ (w_111 hw)) (by decide) (backOf (W := 0) (rm_rec l Z a0 hw [] a_ h0 n0 (by omega) ) hZ (w_111 hw) (w_110 hw) (by decide) (by decide)) (g := (mkF m 1 #[vA a_, .val (.long c0), .second, .val (.long c1), .second, .val (.long c2), .second, vA lu, vA lf, vA l2, vA mp, vA l3, vA l4, vA l5, .unset, .unset, .unset] [(.ref a_)])) rfl (by rw [hml]; rfl) (Steps.refl _) (a := a_) (argsL := []) (rest := []) (lenOf pd_3 rfl) rfl (Nat.le_of_eq rfl) (hb hby d426) (fun _ _ => ⟨rfl, e0, (by decide : 0 + 0 ≤ _), (by decide : 0 + 0 ≤ _)⟩)
  dsimp only [Pt.U, Pt.locs, Pt.cells, Pt.slots] at X45 l45 y45 z45 st45 hQ45
  rw [l45, y45, z45] at X45
  obtain ⟨rfl, Nq45, Kq45⟩ := hQ45
  have N45 := Fr.app N0 Nq45
  obtain ⟨_, _, ⟨T46, L46, k46, n46⟩, -, X46, ⟨Lc46, hQ46, l46, y46, z46⟩, st46⟩ := Jvm.LawKit.callS X45 hx (y := m_17) hown (mvT hZ (w_113 hw)) (mvT hZ (w_114 hw)) (mvT hZ (w_115 hw)) (mvT hZ (w_116 hw)) (by decide) (backOf (W := 0) (rm_cp3 l Z a0 hw [] lu vu ku nm ot nm mo h0 n0 (by omega) P3 P17 P18 P19 P20 P21 P44 P45 P44) hZ (w_116 hw) (w_115 hw) (by decide) (by decide)) (g := (mkF m 6 #[vA a_, .val (.long c0), .second, .val (.long c1), .second, .val (.long c2), .second, vA lu, vA lf, vA l2, vA mp, vA l3, vA l4, vA l5, .unset, .unset, .unset] [(.ref lu)])) rfl (by rw [hml]; rfl) (argsL := [(.ref lu)]) (rest := []) (lenOf pd_10 rfl) rfl (Nat.le_of_eq rfl) (hb hby d428) (fun _ _ => ⟨rfl, Kq45, (by decide : 0 + 3 ≤ _), (by decide : 0 + 8 ≤ _)⟩)
  dsimp only [Pt.U, Pt.locs, Pt.cells, Pt.slots] at X46 l46 y46 z46 st46 hQ46
  rw [l46, y46, z46] at X46
  obtain ⟨x46_r, x46_ea, x46_ke, rfl, Nq46, Kq46, r46_0, r46_1, r46_2, r46_3, r46_4⟩ := hQ46
  have N46 := Fr.app N45 Nq46
  have z46' := Kq46.1
  have K46 := K0.trans Kq46 all0
  have lt47 := own_l r46_2.lt
  have lt48 := own_l r46_3.lt
  have lt49 := own_l r46_4.lt
  have f50 := P0.keep Kq46 all0
  have f51 := P6.keep Kq46
  have f52 := P7.keep Kq46 nin0
  have f53 := P8.keep Kq46 nin0
  have f54 := P9.keep Kq46 nin0
  have f55 := P10.keep Kq46 nin0
  have f56 := P11.keep Kq46 nin0
  have f57 := P12.keep Kq46 nin0
  have f58 := P13.keep Kq46 nin0
  have f59 := P14.keep Kq46 nin0
  have f60 := P15.keep Kq46 nin0
  have f61 := P16.keep Kq46 nin0
  have f62 := P22.keep Kq46
  have f63 := P23.keep Kq46 nin0
  have f64 := P24.keep Kq46
  have f65 := P25.keep Kq46 nin0
  have f66 := P26.keep Kq46 nin0
  have f67 := P27.keep Kq46
  have f68 := P28.keep Kq46 nin0
  have f69 := P29.keep Kq46
  have f70 := P30.keep Kq46 nin0
  have f71 := P31.keep Kq46 nin0
  have f72 := P32.keep Kq46
  have f73 := P33.keep Kq46 nin0
  have f74 := P34.keep Kq46
  have f75 := P35.keep Kq46 nin0
  have f76 := P36.keep Kq46 nin0
  have f77 := P37.keep Kq46
  have f78 := P38.keep Kq46 nin0
  have f79 := P39.keep Kq46
  have f80 := P40.keep Kq46 nin0
  have f81 := P41.keep Kq46 nin0
  have f82 := P42.keep Kq46
  have f83 := P43.keep Kq46 nin0
  have f84 := P44.keep Kq46
  have f85 := P45.keep Kq46
  have f86 := P46.keep Kq46
  have f87 := P47.keep Kq46 nin0
  have f88 := P48.keep Kq46 nin0
  have f89 := P49.keep Kq46 nin0
  obtain ⟨T90, h90, L90, x90_r2, x90_rm, x90_r3, x90_r4, x90_r5, x90_lh, x90_tr, X90, e90, N90, Kq90, r90_0, r90_1, r90_2, st90⟩ := pz_rrp X46 hx hw hZ hown hby hml a_ c0 c1 c2 lu x46_r lf l2 v2 kv2 sn2 sN2 vs2 mp l3 v3 kv3 sn3 sN3 vs3 l4 v4 kv4 sn4 sN4 vs4 l5 v5 kv5 sn5 sN5 vs5 nm ot el em mo ml mu rfl N46 (by omega) f50 P1 P2 P3 P4 P5 f51 f52 f53 f54 f55 f56 f57 f58 f59 f60 f61 f62 f63 f64 f65 f66 f67 f68 f69 f70 f71 f72 f73 f74 f75 f76 f77 f78 f79 f80 f81 f82 f83 f84 f85 f86 f87 f88 f89 (by omega) (by omega) (fun q => P52 q) (fun q => P53 q) (fun q => P54 q) (fun q => P55 q) (fun q => P56 q) (fun q => P57 q) (fun q => P58 q) hls2 hls3 hls4 hls5 hnm (by decide) (by decide) (by decide) (by decide)
  have z90' := Kq90.1
  have K90 := K46.trans Kq90 (allS (Or.inl (List.mem_of_getElem? (i := 0) rfl)) (allS (Or.inl (List.mem_of_getElem? (i := 1) rfl)) all0))
  have lt91 := own_l r90_0.lt
  have lt92 := own_l r90_1.lt
  have lt93 := own_l r90_2.lt
  have f94 := r46_2.keep Kq90
  have f95 := r46_3.keep Kq90 (ninS (own_ne (by omega)) (ninS (own_ne (by omega)) nin0))
  have f96 := r46_4.keep Kq90 (ninS (own_ne (by omega)) (ninS (own_ne (by omega)) nin0))
  refine ⟨_, _, _, _, none, X90, by decide, by decide, fun _ => rfl, ?_, fun fs hr => castTop (ef_14 m a_ c0 c1 c2 lu lf l2 mp l3 l4 l5) ?_⟩
  · show Q_rr3 Z a_ c0 c1 c2 lu vu ku lf l2 v2 kv2 sn2 sN2 vs2 mp l3 v3 kv3 sn3 sN3 vs3 l4 v4 kv4 sn4 sN4 vs4 l5 v5 kv5 sn5 sN5 vs5 nm ot el em mo ml mu h0 n0 _ T90.heap _
    rw [(e90 : T90.heap = h90)]
    exact ⟨x46_r, x46_ea, x46_ke, rfl, N90, K90, r90_0, r90_1, r90_2, (by omega), (by omega), f94, f95, f96⟩
  · show Steps _ _ _ (s₁.setTop (mkF m 0 #[vA a_, .val (.long c0), .second, .val (.long c1), .second, .val (.long c2), .second, vA lu, vA lf, vA l2, vA mp, vA l3, vA l4, vA l5, .unset, .unset, .unset] [])) _
    refine XS.aloadN X0.here hx rfl (hb hby d425) rfl rfl ?_
    refine st45.trans ?_
    show Steps _ _ _ (T45.setTop (mkF m 4 #[vA a_, .val (.long c0), .second, .val (.long c1), .second, .val (.long c2), .second, vA lu, vA lf, vA l2, vA mp, vA l3, vA l4, vA l5, .unset, .unset, .unset] [])) _
    refine XS.aload X45.here hx rfl (hb hby d427) rfl rfl ?_
    refine st46 _ ?_
    show Steps _ _ _ (T46.setTop (mkF m 9 #[vA a_, .val (.long c0), .second, .val (.long c1), .second, .val (.long c2), .second, vA lu, vA lf, vA l2, vA mp, vA l3, vA l4, vA l5, .unset, .unset, .unset] [(.ref x46_r)])) _
    refine st90 _ ?_
    show Steps _ _ _ (T90.setTop (mkF m 190 #[vA a_, .val (.long c0), .second, .val (.long c1), .second, .val (.long c2), .second, vA x46_r, vA el, vA x90_r2, vA x90_rm, vA x90_r3, vA x90_r4, vA x90_r5, vA x90_lh, vA x90_tr, .unset] [])) _
    exact X90.returnOut hx hret (hb hby d429) hr
theorem d430 : decode jdk_44_method_4_code 0 = .ok (.iconst 0, 1) := by decide +kernel
theorem d431 : decode jdk_44_method_4_code 1 = .ok (.ireturn, 1) := by decide +kernel
abbrev m_51 : MethodName := (⟨"java/util/ImmutableCollections$List12", "isEmpty", "()Z"⟩ : MethodName)
def Q_i12 (Z : State) (a_ : Addr) (h0 : Heap) (n0 : Nat) (v : Option Value) (h : Heap) (L : List Loc) : Prop := (v = some (.int 0)) ∧ (Fr n0 L) ∧ (h = h0)
theorem rm_i12 (l : Launch) (Z : State) (a0 : Array Value) (hw : HW Z a0) (ws : List Jvm.Cond) (a_ : Addr) (h0 : Heap) (n0 : Nat) (Z0 : n0 ≤ h0.size) :
    MF l Z m_51 jdk_44_method_4_code 1 (some .boolean) ws (oR 0 0 0 0) #[(.ref a_)] h0 (Q_i12 Z a_ h0 n0) := by
  refine own_body (cls := "java/util/ImmutableCollections$List12") (plainFor_of_name pn_11) rfl (fun p e s m below meth c s₁ hx hby hml hown hnm hret hZ X0 e0 => ?_)
  have N0 := Fr.nil n0
  refine ⟨_, _, _, _, some (.int 0), X0, by decide, by decide, nofun, ?_, fun fs hr => castTop (ef_2 m a_) ?_⟩
  · show Q_i12 Z a_ h0 n0 _ s₁.heap _
    rw [(e0 : s₁.heap = h0)]
    exact ⟨rfl, N0, rfl⟩
  · show Steps _ _ _ (s₁.setTop (mkF m 0 #[vA a_] [])) _
    refine XS.iconst X0.here hx rfl (hb hby d430) ?_
    exact retN X0 hx (t := .boolean) hret (by simp) (hb hby d431) hr
theorem d432 : decode jdk_45_method_2_code 0 = .ok (.aload_n 0, 1) := by decide +kernel
theorem d433 : decode jdk_45_method_2_code 1 = .ok (.getfield 7, 3) := by decide +kernel
theorem d434 : decode jdk_45_method_2_code 4 = .ok (.arraylength, 1) := by decide +kernel
theorem d435 : decode jdk_45_method_2_code 5 = .ok (.ifCond .ne 7, 3) := by decide +kernel
theorem d436 : decode jdk_45_method_2_code 8 = .ok (.iconst 1, 1) := by decide +kernel
theorem d437 : decode jdk_45_method_2_code 9 = .ok (.goto 4, 3) := by decide +kernel
theorem d438 : decode jdk_45_method_2_code 13 = .ok (.ireturn, 1) := by decide +kernel
abbrev m_52 : MethodName := (⟨"java/util/ImmutableCollections$ListN", "isEmpty", "()Z"⟩ : MethodName)
def Q_iN0 (Z : State) (a_ : Addr) (ea : Addr) (ke : ClassId) (vs : List Value) (h0 : Heap) (n0 : Nat) (v : Option Value) (h : Heap) (L : List Loc) : Prop := (v = some (.int 1)) ∧ (Fr n0 L) ∧ (h = h0)
theorem rm_iN0 (l : Launch) (Z : State) (a0 : Array Value) (hw : HW Z a0) (ws : List Jvm.Cond) (a_ : Addr) (ea : Addr) (ke : ClassId) (vs : List Value) (h0 : Heap) (n0 : Nat) (Z0 : n0 ≤ h0.size) (P0 : fld10 Z h0 a_ (.ref ea)) (P1 : Arv Z h0 ea ke (.object "java/lang/Object") (0 : Int32) vs .null) :
    MF l Z m_52 jdk_45_method_2_code 1 (some .boolean) ws (oR 0 0 0 0) #[(.ref a_)] h0 (Q_iN0 Z a_ ea ke vs h0 n0) := by
  refine own_body (cls := "java/util/ImmutableCollections$ListN") (plainFor_of_name pn_12) rfl (fun p e s m below meth c s₁ hx hby hml hown hnm hret hZ X0 e0 => ?_)
  have N0 := Fr.nil n0
  have lt1 := own_l P0.lt
  have lt2 := own_l P1.lt
  obtain ⟨T3, X3, e3, st3⟩ := getF X0 hx hZ hown (host := "") (Or.inl (w_356 hw)) Via.refl e0 P0 (g := (mkF m 1 #[vA a_] [(.ref a_)])) rfl rfl (hb hby d433)
  obtain ⟨cl4, Ar4, q4, S4, M4, H4, G4⟩ := id P1
  refine ⟨_, _, _, _, some (.int 1), X3, by decide, by decide, nofun, ?_, fun fs hr => castTop (ef_2 m a_) ?_⟩
  · show Q_iN0 Z a_ ea ke vs h0 n0 _ T3.heap _
    rw [(e3 : T3.heap = h0)]
    exact ⟨rfl, N0, rfl⟩
  · show Steps _ _ _ (s₁.setTop (mkF m 0 #[vA a_] [])) _
    refine XS.aloadN X0.here hx rfl (hb hby d432) rfl rfl ?_
    refine st3 _ ?_
    show Steps _ _ _ (T3.setTop (mkF m 4 #[vA a_] [(.ref ea)])) _
    refine X3.arraylength hx (by rw [e3]; exact Ar4.1) (State.isArrayOf_alike hZ.alike Ar4.2.1) (g := (mkF m 4 #[vA a_] [(.ref ea)])) rfl rfl (hb hby d434) _ ?_
    rw [len_of S4 M4]
    show Steps _ _ _ (T3.setTop (mkF m 5 #[vA a_] [(.int 0)])) _
    refine XS.ifNo X3.here hx rfl (hb hby d435) rfl ((if0 _ _).trans (teq ((by decide) : (0 : Int32) = (0 : Int32))).2) ?_
    refine XS.iconst X3.here hx rfl (hb hby d436) ?_
    refine XS.goto X3.here hx rfl (pc0 := 9) (pc' := 13) rfl (hb hby d437) (by decide) (by decide) ?_
    exact retN X3 hx (t := .boolean) hret (by simp) (hb hby d438) hr
theorem d439 : decode jdk_45_method_2_code 12 = .ok (.iconst 0, 1) := by decide +kernel
def Q_iN3 (Z : State) (a_ : Addr) (ea : Addr) (ke : ClassId) (vs : List Value) (h0 : Heap) (n0 : Nat) (v : Option Value) (h : Heap) (L : List Loc) : Prop := (v = some (.int 0)) ∧ (Fr n0 L) ∧ (h = h0)
theorem rm_iN3 (l : Launch) (Z : State) (a0 : Array Value) (hw : HW Z a0) (ws : List Jvm.Cond) (a_ : Addr) (ea : Addr) (ke : ClassId) (vs : List Value) (h0 : Heap) (n0 : Nat) (Z0 : n0 ≤ h0.size) (P0 : fld10 Z h0 a_ (.ref ea)) (P1 : Arv Z h0 ea ke (.object "java/lang/Object") (3 : Int32) vs .null) :
    MF l Z m_52 jdk_45_method_2_code 1 (some .boolean) ws (oR 0 0 0 0) #[(.ref a_)] h0 (Q_iN3 Z a_ ea ke vs h0 n0) := by
  refine own_body (cls := "java/util/ImmutableCollections$ListN") (plainFor_of_name pn_12) rfl (fun p e s m below meth c s₁ hx hby hml hown hnm hret hZ X0 e0 => ?_)
  have N0 := Fr.nil n0
  have lt1 := own_l P0.lt
  have lt2 := own_l P1.lt
  obtain ⟨T3, X3, e3, st3⟩ := getF X0 hx hZ hown (host := "") (Or.inl (w_356 hw)) Via.refl e0 P0 (g := (mkF m 1 #[vA a_] [(.ref a_)])) rfl rfl (hb hby d433)
  obtain ⟨cl4, Ar4, q4, S4, M4, H4, G4⟩ := id P1
  refine ⟨_, _, _, _, some (.int 0), X3, by decide, by decide, nofun, ?_, fun fs hr => castTop (ef_2 m a_) ?_⟩
  · show Q_iN3 Z a_ ea ke vs h0 n0 _ T3.heap _
    rw [(e3 : T3.heap = h0)]
    exact ⟨rfl, N0, rfl⟩
  · show Steps _ _ _ (s₁.setTop (mkF m 0 #[vA a_] [])) _
    refine XS.aloadN X0.here hx rfl (hb hby d432) rfl rfl ?_
    refine st3 _ ?_
    show Steps _ _ _ (T3.setTop (mkF m 4 #[vA a_] [(.ref ea)])) _
    refine X3.arraylength hx (by rw [e3]; exact Ar4.1) (State.isArrayOf_alike hZ.alike Ar4.2.1) (g := (mkF m 4 #[vA a_] [(.ref ea)])) rfl rfl (hb hby d434) _ ?_
    rw [len_of S4 M4]
    show Steps _ _ _ (T3.setTop (mkF m 5 #[vA a_] [(.int 3)])) _
    refine XS.ifYes X3.here hx rfl (pc0 := 5) (pc' := 12) rfl (hb hby d435) rfl ((if0 _ _).trans (feq ((by decide) : ¬ ((3 : Int32) = (0 : Int32)))).2) (by decide) (by decide) ?_
    refine XS.iconst X3.here hx rfl (hb hby d439) ?_
    exact retN X3 hx (t := .boolean) hret (by simp) (hb hby d438) hr
theorem d440 : decode prog_47_method_2_code 0 = .ok (.aload_n 0, 1) := by decide +kernel
theorem d441 : decode prog_47_method_2_code 1 = .ok (.getfield 69, 3) := by decide +kernel
theorem d442 : decode prog_47_method_2_code 4 = .ok (.lconst 0, 1) := by decide +kernel
theorem d443 : decode prog_47_method_2_code 5 = .ok (.lcmp, 1) := by decide +kernel
theorem d444 : decode prog_47_method_2_code 6 = .ok (.ifCond .ne 19, 3) := by decide +kernel
theorem d445 : decode prog_47_method_2_code 25 = .ok (.iconst 0, 1) := by decide +kernel
theorem d446 : decode prog_47_method_2_code 26 = .ok (.ireturn, 1) := by decide +kernel
abbrev m_53 : MethodName := (⟨"com/example/ratify/ratify/recovery/RecoveryReport", "complete", "()Z"⟩ : MethodName)
def Q_cmn (Z : State) (a_ : Addr) (c2 : Int64) (h0 : Heap) (n0 : Nat) (v : Option Value) (h : Heap) (L : List Loc) : Prop := (v = some (.int 0)) ∧ (Fr n0 L) ∧ (h = h0)
theorem rm_cmn (l : Launch) (Z : State) (a0 : Array Value) (hw : HW Z a0) (ws : List Jvm.Cond) (a_ : Addr) (c2 : Int64) (h0 : Heap) (n0 : Nat) (Z0 : n0 ≤ h0.size) (P0 : fld13 Z h0 a_ (.long c2)) (hpn : ¬ ((lcmpW c2 (0 : Int64)) = (0 : Int32))) :
    MF l Z m_53 prog_47_method_2_code 1 (some .boolean) ws (oR 0 0 0 0) #[(.ref a_)] h0 (Q_cmn Z a_ c2 h0 n0) := by
  refine own_body (cls := "com/example/ratify/ratify/recovery/RecoveryReport") (plainFor_of_name pn_25) rfl (fun p e s m below meth c s₁ hx hby hml hown hnm hret hZ X0 e0 => ?_)
  have N0 := Fr.nil n0
  have lt1 := own_l P0.lt
  obtain ⟨T2, X2, e2, st2⟩ := getF X0 hx hZ hown (host := "") (Or.inl (w_316 hw)) Via.refl e0 P0 (g := (mkF m 1 #[vA a_] [(.ref a_)])) rfl rfl (hb hby d441)
  refine ⟨_, _, _, _, some (.int 0), X2, by decide, by decide, nofun, ?_, fun fs hr => castTop (ef_2 m a_) ?_⟩
  · show Q_cmn Z a_ c2 h0 n0 _ T2.heap _
    rw [(e2 : T2.heap = h0)]
    exact ⟨rfl, N0, rfl⟩
  · show Steps _ _ _ (s₁.setTop (mkF m 0 #[vA a_] [])) _
    refine XS.aloadN X0.here hx rfl (hb hby d440) rfl rfl ?_
    refine st2 _ ?_
    show Steps _ _ _ (T2.setTop (mkF m 4 #[vA a_] [(.long c2)])) _
    refine XS.lconst X2.here hx rfl (hb hby d442) ?_
    refine XS.lcmp X2.here hx rfl (hb hby d443) rfl ?_
    refine XS.ifYes X2.here hx rfl (pc0 := 6) (pc' := 25) rfl (hb hby d444) rfl ((if0 _ _).trans (feq (hpn : ¬ ((lcmpW c2 (0 : Int64)) = (0 : Int32)))).2) (by decide) (by decide) ?_
    refine XS.iconst X2.here hx rfl (hb hby d445) ?_
    exact retN X2 hx (t := .boolean) hret (by simp) (hb hby d446) hr
theorem d447 : decode prog_47_method_2_code 9 = .ok (.aload_n 0, 1) := by decide +kernel
theorem d448 : decode prog_47_method_2_code 10 = .ok (.getfield 72, 3) := by decide +kernel
abbrev m_54 : MethodName := (⟨"java/util/List", "isEmpty", "()Z"⟩ : MethodName)
theorem w_360 {Z : State} {a0 : Array Value} (hw : HW Z a0) : (Jvm.Cond.methodLink "com/example/ratify/ratify/recovery/RecoveryReport" (95 : Nat) m_54).before a0 Z = true := hw _ (List.mem_of_getElem? (i := 360) rfl)
theorem w_368 {Z : State} {a0 : Array Value} (hw : HW Z a0) : (Jvm.Cond.code m_51 jdk_44_method_4_code (1 : Nat) (Option.some FieldType.boolean)).before a0 Z = true := hw _ (List.mem_of_getElem? (i := 368) rfl)
theorem d449 : decode prog_47_method_2_code 13 = .ok (.invokeinterface 95 1, 5) := by decide +kernel
theorem w_361 {Z : State} {a0 : Array Value} (hw : HW Z a0) : (Jvm.Cond.declares m_54).before a0 Z = true := hw _ (List.mem_of_getElem? (i := 361) rfl)
theorem w_362 {Z : State} {a0 : Array Value} (hw : HW Z a0) : (Jvm.Cond.interfaceMethod "java/util/List" "java/util/List" "isEmpty" "()Z").before a0 Z = true := hw _ (List.mem_of_getElem? (i := 362) rfl)
theorem w_363 {Z : State} {a0 : Array Value} (hw : HW Z a0) : (Jvm.Cond.selects "java/util/ImmutableCollections$List12" m_54 m_51).before a0 Z = true := hw _ (List.mem_of_getElem? (i := 363) rfl)
theorem w_364 {Z : State} {a0 : Array Value} (hw : HW Z a0) : (Jvm.Cond.instanceMethod m_51).before a0 Z = true := hw _ (List.mem_of_getElem? (i := 364) rfl)
theorem w_365 {Z : State} {a0 : Array Value} (hw : HW Z a0) : (Jvm.Cond.publicMethod m_51).before a0 Z = true := hw _ (List.mem_of_getElem? (i := 365) rfl)
theorem w_366 {Z : State} {a0 : Array Value} (hw : HW Z a0) : (Jvm.Cond.unhidden "java/util/ImmutableCollections$List12" "isEmpty" "()Z").before a0 Z = true := hw _ (List.mem_of_getElem? (i := 366) rfl)
theorem w_367 {Z : State} {a0 : Array Value} (hw : HW Z a0) : (Jvm.Cond.castable "java/util/ImmutableCollections$List12" "java/util/List").before a0 Z = true := hw _ (List.mem_of_getElem? (i := 367) rfl)
theorem d450 : decode prog_47_method_2_code 18 = .ok (.ifCond .eq 7, 3) := by decide +kernel
def Q_cm12 (Z : State) (a_ : Addr) (c2 : Int64) (r : Addr) (h0 : Heap) (n0 : Nat) (v : Option Value) (h : Heap) (L : List Loc) : Prop := (v = some (.int 0)) ∧ (Fr n0 L) ∧ (h = h0)
theorem rm_cm12_y (l : Launch) (Z : State) (a0 : Array Value) (hw : HW Z a0) (ws : List Jvm.Cond) (a_ : Addr) (c2 : Int64) (r : Addr) (h0 : Heap) (n0 : Nat) (Z0 : n0 ≤ h0.size) (P0 : fld13 Z h0 a_ (.long c2)) (P1 : fld14 Z h0 a_ (.ref r)) (P2 : Exa Z h0 r "java/util/ImmutableCollections$List12") (hpe : (lcmpW c2 (0 : Int64)) = (0 : Int32)) :
    MF l Z m_53 prog_47_method_2_code 1 (some .boolean) ws (oR 1 0 0 12) #[(.ref a_)] h0 (Q_cm12 Z a_ c2 r h0 n0) := by
  refine own_body (cls := "com/example/ratify/ratify/recovery/RecoveryReport") (plainFor_of_name pn_25) rfl (fun p e s m below meth c s₁ hx hby hml hown hnm hret hZ X0 e0 => ?_)
  have N0 := Fr.nil n0
  have lt1 := own_l P0.lt
  have lt2 := own_l P1.lt
  have lt3 := own_l P2.lt
  obtain ⟨T4, X4, e4, st4⟩ := getF X0 hx hZ hown (host := "") (Or.inl (w_316 hw)) Via.refl e0 P0 (g := (mkF m 1 #[vA a_] [(.ref a_)])) rfl rfl (hb hby d441)
  obtain ⟨T5, X5, e5, st5⟩ := getF X4 hx hZ hown (host := "") (Or.inl (w_318 hw)) Via.refl e4 P1 (g := (mkF m 10 #[vA a_] [(.ref a_)])) rfl rfl (hb hby d448)
  obtain ⟨cq6, kq6, qa6, qb6, qc6⟩ := isOf hZ e5 P2
  obtain ⟨_, _, ⟨T6, L6, k6, n6⟩, -, X6, ⟨Lc6, hQ6, l6, y6, z6⟩, st6⟩ := X5.interfaceBack hx (xi := m_54) (y := m_51) (C := "java/util/ImmutableCollections$List12") hown (mvT hZ (w_360 hw)) (mvT hZ (w_361 hw)) (mvT hZ (w_362 hw)) (mvT hZ (w_363 hw)) (mvT hZ (w_364 hw)) (mvT hZ (w_365 hw)) (mvT hZ (w_366 hw)) (mvT hZ (w_367 hw)) (by decide) (backOf (W := 0) (rm_i12 l Z a0 hw [] r h0 n0 (by omega) ) hZ (w_368 hw) (w_171 hw) (by decide) (by decide)) qa6 qb6 qc6 (g := (mkF m 13 #[vA a_] [(.ref r)])) rfl (by rw [hml]; rfl) (Steps.refl _) (argsL := []) (rest := []) (lenOf pd_8 rfl) rfl (Nat.le_of_eq rfl) (hb hby d449) (fun _ _ => ⟨rfl, e5, (by decide : 0 + 0 ≤ _), (by decide : 0 + 0 ≤ _)⟩)
  dsimp only [Pt.U, Pt.locs, Pt.cells, Pt.slots] at X6 l6 y6 z6 st6 hQ6
  rw [l6, y6, z6] at X6
  obtain ⟨rfl, Nq6, Kq6⟩ := hQ6
  have N6 := Fr.app N0 Nq6
  refine ⟨_, _, _, _, some (.int 0), X6, by decide, by decide, nofun, ?_, fun fs hr => castTop (ef_2 m a_) ?_⟩
  · show Q_cm12 Z a_ c2 r h0 n0 _ T6.heap _
    rw [(Kq6 : T6.heap = h0)]
    exact ⟨rfl, N6, rfl⟩
  · show Steps _ _ _ (s₁.setTop (mkF m 0 #[vA a_] [])) _
    refine XS.aloadN X0.here hx rfl (hb hby d440) rfl rfl ?_
    refine st4 _ ?_
    show Steps _ _ _ (T4.setTop (mkF m 4 #[vA a_] [(.long c2)])) _
    refine XS.lconst X4.here hx rfl (hb hby d442) ?_
    refine XS.lcmp X4.here hx rfl (hb hby d443) rfl ?_
    refine XS.ifNo X4.here hx rfl (hb hby d444) rfl ((if0 _ _).trans (teq (hpe : (lcmpW c2 (0 : Int64)) = (0 : Int32))).2) ?_
    refine XS.aloadN X4.here hx rfl (hb hby d447) rfl rfl ?_
    refine st5 _ ?_
    show Steps _ _ _ (T5.setTop (mkF m 13 #[vA a_] [(.ref r)])) _
    refine st6.trans ?_
    show Steps _ _ _ (T6.setTop (mkF m 18 #[vA a_] [(.int 0)])) _
    refine XS.ifYes X6.here hx rfl (pc0 := 18) (pc' := 25) rfl (hb hby d450) rfl ((if0 _ _).trans (teq ((by decide) : (0 : Int32) = (0 : Int32))).1) (by decide) (by decide) ?_
    refine XS.iconst X6.here hx rfl (hb hby d445) ?_
    exact retN X6 hx (t := .boolean) hret (by simp) (hb hby d446) hr
theorem rm_cm12_n (l : Launch) (Z : State) (a0 : Array Value) (hw : HW Z a0) (ws : List Jvm.Cond) (a_ : Addr) (c2 : Int64) (r : Addr) (h0 : Heap) (n0 : Nat) (Z0 : n0 ≤ h0.size) (P0 : fld13 Z h0 a_ (.long c2)) (P1 : fld14 Z h0 a_ (.ref r)) (P2 : Exa Z h0 r "java/util/ImmutableCollections$List12") (hpn : ¬ ((lcmpW c2 (0 : Int64)) = (0 : Int32))) :
    MF l Z m_53 prog_47_method_2_code 1 (some .boolean) ws (oR 1 0 0 12) #[(.ref a_)] h0 (Q_cm12 Z a_ c2 r h0 n0) := by
  refine own_body (cls := "com/example/ratify/ratify/recovery/RecoveryReport") (plainFor_of_name pn_25) rfl (fun p e s m below meth c s₁ hx hby hml hown hnm hret hZ X0 e0 => ?_)
  have N0 := Fr.nil n0
  have lt1 := own_l P0.lt
  have lt2 := own_l P1.lt
  have lt3 := own_l P2.lt
  obtain ⟨T4, X4, e4, st4⟩ := getF X0 hx hZ hown (host := "") (Or.inl (w_316 hw)) Via.refl e0 P0 (g := (mkF m 1 #[vA a_] [(.ref a_)])) rfl rfl (hb hby d441)
  refine ⟨_, _, _, _, some (.int 0), X4, by decide, by decide, nofun, ?_, fun fs hr => castTop (ef_2 m a_) ?_⟩
  · show Q_cm12 Z a_ c2 r h0 n0 _ T4.heap _
    rw [(e4 : T4.heap = h0)]
    exact ⟨rfl, N0, rfl⟩
  · show Steps _ _ _ (s₁.setTop (mkF m 0 #[vA a_] [])) _
    refine XS.aloadN X0.here hx rfl (hb hby d440) rfl rfl ?_
    refine st4 _ ?_
    show Steps _ _ _ (T4.setTop (mkF m 4 #[vA a_] [(.long c2)])) _
    refine XS.lconst X4.here hx rfl (hb hby d442) ?_
    refine XS.lcmp X4.here hx rfl (hb hby d443) rfl ?_
    refine XS.ifYes X4.here hx rfl (pc0 := 6) (pc' := 25) rfl (hb hby d444) rfl ((if0 _ _).trans (feq (hpn : ¬ ((lcmpW c2 (0 : Int64)) = (0 : Int32)))).2) (by decide) (by decide) ?_
    refine XS.iconst X4.here hx rfl (hb hby d445) ?_
    exact retN X4 hx (t := .boolean) hret (by simp) (hb hby d446) hr
theorem rm_cm12 (l : Launch) (Z : State) (a0 : Array Value) (hw : HW Z a0) (ws : List Jvm.Cond) (a_ : Addr) (c2 : Int64) (r : Addr) (h0 : Heap) (n0 : Nat) (Z0 : n0 ≤ h0.size) (P0 : fld13 Z h0 a_ (.long c2)) (P1 : fld14 Z h0 a_ (.ref r)) (P2 : Exa Z h0 r "java/util/ImmutableCollections$List12") :
    MF l Z m_53 prog_47_method_2_code 1 (some .boolean) ws (oR 1 0 0 12) #[(.ref a_)] h0 (Q_cm12 Z a_ c2 r h0 n0) := by
  by_cases q : (lcmpW c2 (0 : Int64)) = (0 : Int32)
  · exact rm_cm12_y l Z a0 hw ws a_ c2 r h0 n0 Z0 P0 P1 P2 q
  · exact rm_cm12_n l Z a0 hw ws a_ c2 r h0 n0 Z0 P0 P1 P2 q
theorem w_374 {Z : State} {a0 : Array Value} (hw : HW Z a0) : (Jvm.Cond.code m_52 jdk_45_method_2_code (1 : Nat) (Option.some FieldType.boolean)).before a0 Z = true := hw _ (List.mem_of_getElem? (i := 374) rfl)
theorem w_369 {Z : State} {a0 : Array Value} (hw : HW Z a0) : (Jvm.Cond.selects "java/util/ImmutableCollections$ListN" m_54 m_52).before a0 Z = true := hw _ (List.mem_of_getElem? (i := 369) rfl)
theorem w_370 {Z : State} {a0 : Array Value} (hw : HW Z a0) : (Jvm.Cond.instanceMethod m_52).before a0 Z = true := hw _ (List.mem_of_getElem? (i := 370) rfl)
theorem w_371 {Z : State} {a0 : Array Value} (hw : HW Z a0) : (Jvm.Cond.publicMethod m_52).before a0 Z = true := hw _ (List.mem_of_getElem? (i := 371) rfl)
theorem w_372 {Z : State} {a0 : Array Value} (hw : HW Z a0) : (Jvm.Cond.unhidden "java/util/ImmutableCollections$ListN" "isEmpty" "()Z").before a0 Z = true := hw _ (List.mem_of_getElem? (i := 372) rfl)
theorem w_373 {Z : State} {a0 : Array Value} (hw : HW Z a0) : (Jvm.Cond.castable "java/util/ImmutableCollections$ListN" "java/util/List").before a0 Z = true := hw _ (List.mem_of_getElem? (i := 373) rfl)
def Q_cmN3 (Z : State) (a_ : Addr) (c2 : Int64) (r : Addr) (ea : Addr) (ke : ClassId) (vs : List Value) (h0 : Heap) (n0 : Nat) (v : Option Value) (h : Heap) (L : List Loc) : Prop := (v = some (.int 0)) ∧ (Fr n0 L) ∧ (h = h0)
theorem rm_cmN3_y (l : Launch) (Z : State) (a0 : Array Value) (hw : HW Z a0) (ws : List Jvm.Cond) (a_ : Addr) (c2 : Int64) (r : Addr) (ea : Addr) (ke : ClassId) (vs : List Value) (h0 : Heap) (n0 : Nat) (Z0 : n0 ≤ h0.size) (P0 : fld13 Z h0 a_ (.long c2)) (P1 : fld14 Z h0 a_ (.ref r)) (P2 : Exa Z h0 r "java/util/ImmutableCollections$ListN") (P3 : fld10 Z h0 r (.ref ea)) (P4 : Arv Z h0 ea ke (.object "java/lang/Object") (3 : Int32) vs .null) (hpe : (lcmpW c2 (0 : Int64)) = (0 : Int32)) :
    MF l Z m_53 prog_47_method_2_code 1 (some .boolean) ws (oR 1 0 0 12) #[(.ref a_)] h0 (Q_cmN3 Z a_ c2 r ea ke vs h0 n0) := by
  refine own_body (cls := "com/example/ratify/ratify/recovery/RecoveryReport") (plainFor_of_name pn_25) rfl (fun p e s m below meth c s₁ hx hby hml hown hnm hret hZ X0 e0 => ?_)
  have N0 := Fr.nil n0
  have lt1 := own_l P0.lt
  have lt2 := own_l P1.lt
  have lt3 := own_l P2.lt
  have lt4 := own_l P3.lt
  have lt5 := own_l P4.lt
  obtain ⟨T6, X6, e6, st6⟩ := getF X0 hx hZ hown (host := "") (Or.inl (w_316 hw)) Via.refl e0 P0 (g := (mkF m 1 #[vA a_] [(.ref a_)])) rfl rfl (hb hby d441)
  obtain ⟨T7, X7, e7, st7⟩ := getF X6 hx hZ hown (host := "") (Or.inl (w_318 hw)) Via.refl e6 P1 (g := (mkF m 10 #[vA a_] [(.ref a_)])) rfl rfl (hb hby d448)
  obtain ⟨cq8, kq8, qa8, qb8, qc8⟩ := isOf hZ e7 P2
  obtain ⟨_, _, ⟨T8, L8, k8, n8⟩, -, X8, ⟨Lc8, hQ8, l8, y8, z8⟩, st8⟩ := X7.interfaceBack hx (xi := m_54) (y := m_52) (C := "java/util/ImmutableCollections$ListN") hown (mvT hZ (w_360 hw)) (mvT hZ (w_361 hw)) (mvT hZ (w_362 hw)) (mvT hZ (w_369 hw)) (mvT hZ (w_370 hw)) (mvT hZ (w_371 hw)) (mvT hZ (w_372 hw)) (mvT hZ (w_373 hw)) (by decide) (backOf (W := 0) (rm_iN3 l Z a0 hw [] r ea ke vs h0 n0 (by omega) P3 P4) hZ (w_374 hw) (w_347 hw) (by decide) (by decide)) qa8 qb8 qc8 (g := (mkF m 13 #[vA a_] [(.ref r)])) rfl (by rw [hml]; rfl) (Steps.refl _) (argsL := []) (rest := []) (lenOf pd_8 rfl) rfl (Nat.le_of_eq rfl) (hb hby d449) (fun _ _ => ⟨rfl, e7, (by decide : 0 + 0 ≤ _), (by decide : 0 + 0 ≤ _)⟩)
  dsimp only [Pt.U, Pt.locs, Pt.cells, Pt.slots] at X8 l8 y8 z8 st8 hQ8
  rw [l8, y8, z8] at X8
  obtain ⟨rfl, Nq8, Kq8⟩ := hQ8
  have N8 := Fr.app N0 Nq8
  refine ⟨_, _, _, _, some (.int 0), X8, by decide, by decide, nofun, ?_, fun fs hr => castTop (ef_2 m a_) ?_⟩
  · show Q_cmN3 Z a_ c2 r ea ke vs h0 n0 _ T8.heap _
    rw [(Kq8 : T8.heap = h0)]
    exact ⟨rfl, N8, rfl⟩
  · show Steps _ _ _ (s₁.setTop (mkF m 0 #[vA a_] [])) _
    refine XS.aloadN X0.here hx rfl (hb hby d440) rfl rfl ?_
    refine st6 _ ?_
    show Steps _ _ _ (T6.setTop (mkF m 4 #[vA a_] [(.long c2)])) _
    refine XS.lconst X6.here hx rfl (hb hby d442) ?_
    refine XS.lcmp X6.here hx rfl (hb hby d443) rfl ?_
    refine XS.ifNo X6.here hx rfl (hb hby d444) rfl ((if0 _ _).trans (teq (hpe : (lcmpW c2 (0 : Int64)) = (0 : Int32))).2) ?_
    refine XS.aloadN X6.here hx rfl (hb hby d447) rfl rfl ?_
    refine st7 _ ?_
    show Steps _ _ _ (T7.setTop (mkF m 13 #[vA a_] [(.ref r)])) _
    refine st8.trans ?_
    show Steps _ _ _ (T8.setTop (mkF m 18 #[vA a_] [(.int 0)])) _
    refine XS.ifYes X8.here hx rfl (pc0 := 18) (pc' := 25) rfl (hb hby d450) rfl ((if0 _ _).trans (teq ((by decide) : (0 : Int32) = (0 : Int32))).1) (by decide) (by decide) ?_
    refine XS.iconst X8.here hx rfl (hb hby d445) ?_
    exact retN X8 hx (t := .boolean) hret (by simp) (hb hby d446) hr
theorem rm_cmN3_n (l : Launch) (Z : State) (a0 : Array Value) (hw : HW Z a0) (ws : List Jvm.Cond) (a_ : Addr) (c2 : Int64) (r : Addr) (ea : Addr) (ke : ClassId) (vs : List Value) (h0 : Heap) (n0 : Nat) (Z0 : n0 ≤ h0.size) (P0 : fld13 Z h0 a_ (.long c2)) (P1 : fld14 Z h0 a_ (.ref r)) (P2 : Exa Z h0 r "java/util/ImmutableCollections$ListN") (P3 : fld10 Z h0 r (.ref ea)) (P4 : Arv Z h0 ea ke (.object "java/lang/Object") (3 : Int32) vs .null) (hpn : ¬ ((lcmpW c2 (0 : Int64)) = (0 : Int32))) :
    MF l Z m_53 prog_47_method_2_code 1 (some .boolean) ws (oR 1 0 0 12) #[(.ref a_)] h0 (Q_cmN3 Z a_ c2 r ea ke vs h0 n0) := by
  refine own_body (cls := "com/example/ratify/ratify/recovery/RecoveryReport") (plainFor_of_name pn_25) rfl (fun p e s m below meth c s₁ hx hby hml hown hnm hret hZ X0 e0 => ?_)
  have N0 := Fr.nil n0
  have lt1 := own_l P0.lt
  have lt2 := own_l P1.lt
  have lt3 := own_l P2.lt
  have lt4 := own_l P3.lt
  have lt5 := own_l P4.lt
  obtain ⟨T6, X6, e6, st6⟩ := getF X0 hx hZ hown (host := "") (Or.inl (w_316 hw)) Via.refl e0 P0 (g := (mkF m 1 #[vA a_] [(.ref a_)])) rfl rfl (hb hby d441)
  refine ⟨_, _, _, _, some (.int 0), X6, by decide, by decide, nofun, ?_, fun fs hr => castTop (ef_2 m a_) ?_⟩
  · show Q_cmN3 Z a_ c2 r ea ke vs h0 n0 _ T6.heap _
    rw [(e6 : T6.heap = h0)]
    exact ⟨rfl, N0, rfl⟩
  · show Steps _ _ _ (s₁.setTop (mkF m 0 #[vA a_] [])) _
    refine XS.aloadN X0.here hx rfl (hb hby d440) rfl rfl ?_
    refine st6 _ ?_
    show Steps _ _ _ (T6.setTop (mkF m 4 #[vA a_] [(.long c2)])) _
    refine XS.lconst X6.here hx rfl (hb hby d442) ?_
    refine XS.lcmp X6.here hx rfl (hb hby d443) rfl ?_
    refine XS.ifYes X6.here hx rfl (pc0 := 6) (pc' := 25) rfl (hb hby d444) rfl ((if0 _ _).trans (feq (hpn : ¬ ((lcmpW c2 (0 : Int64)) = (0 : Int32)))).2) (by decide) (by decide) ?_
    refine XS.iconst X6.here hx rfl (hb hby d445) ?_
    exact retN X6 hx (t := .boolean) hret (by simp) (hb hby d446) hr
theorem rm_cmN3 (l : Launch) (Z : State) (a0 : Array Value) (hw : HW Z a0) (ws : List Jvm.Cond) (a_ : Addr) (c2 : Int64) (r : Addr) (ea : Addr) (ke : ClassId) (vs : List Value) (h0 : Heap) (n0 : Nat) (Z0 : n0 ≤ h0.size) (P0 : fld13 Z h0 a_ (.long c2)) (P1 : fld14 Z h0 a_ (.ref r)) (P2 : Exa Z h0 r "java/util/ImmutableCollections$ListN") (P3 : fld10 Z h0 r (.ref ea)) (P4 : Arv Z h0 ea ke (.object "java/lang/Object") (3 : Int32) vs .null) :
    MF l Z m_53 prog_47_method_2_code 1 (some .boolean) ws (oR 1 0 0 12) #[(.ref a_)] h0 (Q_cmN3 Z a_ c2 r ea ke vs h0 n0) := by
  by_cases q : (lcmpW c2 (0 : Int64)) = (0 : Int32)
  · exact rm_cmN3_y l Z a0 hw ws a_ c2 r ea ke vs h0 n0 Z0 P0 P1 P2 P3 P4 q
  · exact rm_cmN3_n l Z a0 hw ws a_ c2 r ea ke vs h0 n0 Z0 P0 P1 P2 P3 P4 q
theorem d451 : decode prog_47_method_2_code 21 = .ok (.iconst 1, 1) := by decide +kernel
theorem d452 : decode prog_47_method_2_code 22 = .ok (.goto 4, 3) := by decide +kernel
def Q_cmN0 (Z : State) (a_ : Addr) (c2 : Int64) (r : Addr) (ea : Addr) (ke : ClassId) (vs : List Value) (h0 : Heap) (n0 : Nat) (v : Option Value) (h : Heap) (L : List Loc) : Prop := (v = some (.int 1)) ∧ (Fr n0 L) ∧ (h = h0)
theorem rm_cmN0 (l : Launch) (Z : State) (a0 : Array Value) (hw : HW Z a0) (ws : List Jvm.Cond) (a_ : Addr) (c2 : Int64) (r : Addr) (ea : Addr) (ke : ClassId) (vs : List Value) (h0 : Heap) (n0 : Nat) (Z0 : n0 ≤ h0.size) (P0 : fld13 Z h0 a_ (.long c2)) (P1 : fld14 Z h0 a_ (.ref r)) (P2 : Exa Z h0 r "java/util/ImmutableCollections$ListN") (P3 : fld10 Z h0 r (.ref ea)) (P4 : Arv Z h0 ea ke (.object "java/lang/Object") (0 : Int32) vs .null) (hpe : (lcmpW c2 (0 : Int64)) = (0 : Int32)) :
    MF l Z m_53 prog_47_method_2_code 1 (some .boolean) ws (oR 1 0 0 12) #[(.ref a_)] h0 (Q_cmN0 Z a_ c2 r ea ke vs h0 n0) := by
  refine own_body (cls := "com/example/ratify/ratify/recovery/RecoveryReport") (plainFor_of_name pn_25) rfl (fun p e s m below meth c s₁ hx hby hml hown hnm hret hZ X0 e0 => ?_)
  have N0 := Fr.nil n0
  have lt1 := own_l P0.lt
  have lt2 := own_l P1.lt
  have lt3 := own_l P2.lt
  have lt4 := own_l P3.lt
  have lt5 := own_l P4.lt
  obtain ⟨T6, X6, e6, st6⟩ := getF X0 hx hZ hown (host := "") (Or.inl (w_316 hw)) Via.refl e0 P0 (g := (mkF m 1 #[vA a_] [(.ref a_)])) rfl rfl (hb hby d441)
  obtain ⟨T7, X7, e7, st7⟩ := getF X6 hx hZ hown (host := "") (Or.inl (w_318 hw)) Via.refl e6 P1 (g := (mkF m 10 #[vA a_] [(.ref a_)])) rfl rfl (hb hby d448)
  obtain ⟨cq8, kq8, qa8, qb8, qc8⟩ := isOf hZ e7 P2
  obtain ⟨_, _, ⟨T8, L8, k8, n8⟩, -, X8, ⟨Lc8, hQ8, l8, y8, z8⟩, st8⟩ := X7.interfaceBack hx (xi := m_54) (y := m_52) (C := "java/util/ImmutableCollections$ListN") hown (mvT hZ (w_360 hw)) (mvT hZ (w_361 hw)) (mvT hZ (w_362 hw)) (mvT hZ (w_369 hw)) (mvT hZ (w_370 hw)) (mvT hZ (w_371 hw)) (mvT hZ (w_372 hw)) (mvT hZ (w_373 hw)) (by decide) (backOf (W := 0) (rm_iN0 l Z a0 hw [] r ea ke vs h0 n0 (by omega) P3 P4) hZ (w_374 hw) (w_347 hw) (by decide) (by decide)) qa8 qb8 qc8 (g := (mkF m 13 #[vA a_] [(.ref r)])) rfl (by rw [hml]; rfl) (Steps.refl _) (argsL := []) (rest := []) (lenOf pd_8 rfl) rfl (Nat.le_of_eq rfl) (hb hby d449) (fun _ _ => ⟨rfl, e7, (by decide : 0 + 0 ≤ _), (by decide : 0 + 0 ≤ _)⟩)
  dsimp only [Pt.U, Pt.locs, Pt.cells, Pt.slots] at X8 l8 y8 z8 st8 hQ8
  rw [l8, y8, z8] at X8
  obtain ⟨rfl, Nq8, Kq8⟩ := hQ8
  have N8 := Fr.app N0 Nq8
  refine ⟨_, _, _, _, some (.int 1), X8, by decide, by decide, nofun, ?_, fun fs hr => castTop (ef_2 m a_) ?_⟩
  · show Q_cmN0 Z a_ c2 r ea ke vs h0 n0 _ T8.heap _
    rw [(Kq8 : T8.heap = h0)]
    exact ⟨rfl, N8, rfl⟩
  · show Steps _ _ _ (s₁.setTop (mkF m 0 #[vA a_] [])) _
    refine XS.aloadN X0.here hx rfl (hb hby d440) rfl rfl ?_
    refine st6 _ ?_
    show Steps _ _ _ (T6.setTop (mkF m 4 #[vA a_] [(.long c2)])) _
    refine XS.lconst X6.here hx rfl (hb hby d442) ?_
    refine XS.lcmp X6.here hx rfl (hb hby d443) rfl ?_
    refine XS.ifNo X6.here hx rfl (hb hby d444) rfl ((if0 _ _).trans (teq (hpe : (lcmpW c2 (0 : Int64)) = (0 : Int32))).2) ?_
    refine XS.aloadN X6.here hx rfl (hb hby d447) rfl rfl ?_
    refine st7 _ ?_
    show Steps _ _ _ (T7.setTop (mkF m 13 #[vA a_] [(.ref r)])) _
    refine st8.trans ?_
    show Steps _ _ _ (T8.setTop (mkF m 18 #[vA a_] [(.int 1)])) _
    refine XS.ifNo X8.here hx rfl (hb hby d450) rfl ((if0 _ _).trans (feq ((by decide) : ¬ ((1 : Int32) = (0 : Int32)))).1) ?_
    refine XS.iconst X8.here hx rfl (hb hby d451) ?_
    refine XS.goto X8.here hx rfl (pc0 := 22) (pc' := 26) rfl (hb hby d452) (by decide) (by decide) ?_
    exact retN X8 hx (t := .boolean) hret (by simp) (hb hby d446) hr
theorem own_ch (y : Int32) : ¬ ((255 : Int32) < (y &&& (255 : Int32)).toUInt32.toUInt16.toUInt32.toInt32) := by
  rw [i2c_mask]
  have q := (c_and y 255 (by decide)).2
  rw [Int32.lt_iff_toInt_lt]
  omega
theorem w_26 {Z : State} {a0 : Array Value} (hw : HW Z a0) : (Jvm.Cond.classLink "com/example/ratify/ratify/recovery/RecoveryReportCompletePinLaw" (13 : Nat) "java/util/ArrayList").before a0 Z = true := hw _ (List.mem_of_getElem? (i := 26) rfl)
theorem w_29 {Z : State} {a0 : Array Value} (hw : HW Z a0) : (Jvm.Cond.methodLink "com/example/ratify/ratify/recovery/RecoveryReportCompletePinLaw" (15 : Nat) m_7).before a0 Z = true := hw _ (List.mem_of_getElem? (i := 29) rfl)
theorem w_31 {Z : State} {a0 : Array Value} (hw : HW Z a0) : (Jvm.Cond.code m_7 jdk_38_method_2_code (1 : Nat) (Option.none : Option Jvm.ClassFile.FieldType)).before a0 Z = true := hw _ (List.mem_of_getElem? (i := 31) rfl)
theorem w_30 {Z : State} {a0 : Array Value} (hw : HW Z a0) : (Jvm.Cond.instanceMethod m_7).before a0 Z = true := hw _ (List.mem_of_getElem? (i := 30) rfl)
abbrev m_55 : MethodName := (⟨"java/util/List", "add", "(Ljava/lang/Object;)Z"⟩ : MethodName)
theorem w_50 {Z : State} {a0 : Array Value} (hw : HW Z a0) : (Jvm.Cond.methodLink "com/example/ratify/ratify/recovery/RecoveryReportCompletePinLaw" (16 : Nat) m_55).before a0 Z = true := hw _ (List.mem_of_getElem? (i := 50) rfl)
theorem w_58 {Z : State} {a0 : Array Value} (hw : HW Z a0) : (Jvm.Cond.code m_12 jdk_38_method_25_code (2 : Nat) (Option.some FieldType.boolean)).before a0 Z = true := hw _ (List.mem_of_getElem? (i := 58) rfl)
theorem pd_23 : parseMethodDescriptor "(Ljava/lang/Object;)Z" = some ⟨[(.object "java/lang/Object")], some .boolean⟩ := by decide +kernel
theorem w_51 {Z : State} {a0 : Array Value} (hw : HW Z a0) : (Jvm.Cond.declares m_55).before a0 Z = true := hw _ (List.mem_of_getElem? (i := 51) rfl)
theorem w_52 {Z : State} {a0 : Array Value} (hw : HW Z a0) : (Jvm.Cond.interfaceMethod "java/util/List" "java/util/List" "add" "(Ljava/lang/Object;)Z").before a0 Z = true := hw _ (List.mem_of_getElem? (i := 52) rfl)
theorem w_53 {Z : State} {a0 : Array Value} (hw : HW Z a0) : (Jvm.Cond.selects "java/util/ArrayList" m_55 m_12).before a0 Z = true := hw _ (List.mem_of_getElem? (i := 53) rfl)
theorem w_54 {Z : State} {a0 : Array Value} (hw : HW Z a0) : (Jvm.Cond.instanceMethod m_12).before a0 Z = true := hw _ (List.mem_of_getElem? (i := 54) rfl)
theorem w_55 {Z : State} {a0 : Array Value} (hw : HW Z a0) : (Jvm.Cond.publicMethod m_12).before a0 Z = true := hw _ (List.mem_of_getElem? (i := 55) rfl)
theorem w_56 {Z : State} {a0 : Array Value} (hw : HW Z a0) : (Jvm.Cond.unhidden "java/util/ArrayList" "add" "(Ljava/lang/Object;)Z").before a0 Z = true := hw _ (List.mem_of_getElem? (i := 56) rfl)
theorem w_57 {Z : State} {a0 : Array Value} (hw : HW Z a0) : (Jvm.Cond.castable "java/util/ArrayList" "java/util/List").before a0 Z = true := hw _ (List.mem_of_getElem? (i := 57) rfl)
theorem pz_fin_n {p : Program} {l : Launch} {e : Env} {R : Room} {s : State} {m : MethodId} {args : Array Value} {below : List Frame} {meth : Method} {c : Code} {T : State} {locs : List Loc} {cells slots : Nat} {Z : State} {a0 : Array Value} (X0 : Stand p l e R s m args below meth c T locs cells slots) (hx : p.tables.exec = Jvm.exec) (hw : HW Z a0) (hZ : Z.Warmed39 s.vm) (hown : s.vm.findClass "com/example/ratify/ratify/recovery/RecoveryReportCompletePinLaw" = some m.cls) (hby : c.code = code) (hml : c.maxLocals = 20) (p0 : Int64) (p1 : Int64) (p2 : Int64) (p3 : Int32) (p4 : Int32) (nm : Addr) (ot : Addr) (lu : Addr) (lf : Addr) (dc : Addr) (kd : ClassId) {h0 : Heap} {n0 : Nat} (e0 : T.heap = h0) (N0 : Fr n0 locs) (Z0 : n0 ≤ h0.size) (P0 : Old Z n0 h0) (P1 : sta1 Z (.ref dc)) (P2 : Arv Z h0 dc kd (.object "java/lang/Object") (0 : Int32) [] .null) (P3 : Exa Z h0 dc "[Ljava/lang/Object;") (P4 : Exa Z h0 ot "java/lang/String") (hc112 : (p3 &&& (4 : Int32)) = (0 : Int32)) (hFr : 5 ≤ R.frames) (hLo : 69 ≤ R.locals) (hCe : cells + 2 ≤ R.cells) (hSl : slots + 13 ≤ R.slots) :
    ∃ (T' : State) (h' : Heap) (locs' : List Loc) (l2 : Addr) (v2 : Addr) (kv2 : ClassId) (sn2 : Int32) (sN2 : Int32) (vs2 : List Value), Stand p l e R s m args below meth c T' locs' (cells + 2) (slots + 13) ∧ T'.heap = h' ∧ Fr n0 locs' ∧ Keep h0 h' [] ∧ (h0.size ≤ l2) ∧ (Exa Z h' l2 "java/util/ArrayList") ∧ (fld2 Z h' l2 (.int sn2)) ∧ (fld3 Z h' l2 (.ref v2)) ∧ (Exa Z h' v2 "[Ljava/lang/Object;") ∧ (Arv Z h' v2 kv2 (.object "java/lang/Object") sN2 vs2 .null) ∧ (LS1 sn2 sN2 vs2 ot) ∧ ∀ target, Steps p.tables e below (T'.setTop (mkF m 125 #[.val (.long p0), .second, .val (.long p1), .second, .val (.long p2), .second, vI p3, vI p4, .val (.int (p3 &&& (3 : Int32))), vA nm, vA ot, vA lu, vA lf, vA l2, .unset, .unset, .unset, .unset, .unset, .unset] [])) target → Steps p.tables e below (T.setTop (mkF m 99 #[.val (.long p0), .second, .val (.long p1), .second, .val (.long p2), .second, vI p3, vI p4, .val (.int (p3 &&& (3 : Int32))), vA nm, vA ot, vA lu, vA lf, .unset, .unset, .unset, .unset, .unset, .unset, .unset] [])) target := by
  have K0 := Keep.refl h0 []
  have lt1 := own_l P2.lt
  have lt2 := own_l P3.lt
  have lt3 := own_l P4.lt
  obtain ⟨T4, h4, X4, e4, E4, A4, D4, -, st4⟩ := newO X0 hx hZ hown (w_26 hw) (w_27 hw) (w_28 hw) e0 (g := (mkF m 99 #[.val (.long p0), .second, .val (.long p1), .second, .val (.long p2), .second, vI p3, vI p4, .val (.int (p3 &&& (3 : Int32))), vA nm, vA ot, vA lu, vA lf, .unset, .unset, .unset, .unset, .unset, .unset, .unset] [])) rfl (hb hby at_99) (by omega) (by omega)
  obtain ⟨b4, g4⟩ : ∃ z, z = h0.size := ⟨_, rfl⟩
  rw [← g4] at A4 D4 st4
  have z4 := E4.1
  have K4 := K0.ext E4
  replace X4 : Stand p l e R s m args below meth c T4 _ (cells + 1) (slots + 3) := X4
  have lt5 := own_l A4.lt
  have F4_46 : Fld Z h4 b4 "java/util/AbstractList" "modCount" "I" (.int 0) := D4 (Or.inl (w_46 hw)) (ty := .int) (by decide)
  have F4_49 : Fld Z h4 b4 "java/util/ArrayList" "elementData" "[Ljava/lang/Object;" .null := D4 (Or.inl (w_49 hw)) (ty := (.array (.object "java/lang/Object"))) (by decide)
  have F4_62 : Fld Z h4 b4 "java/util/ArrayList" "size" "I" (.int 0) := D4 (Or.inl (w_62 hw)) (ty := .int) (by decide)
  have f7 := P0.ext E4
  obtain ⟨_, _, ⟨T6, L6, k6, n6⟩, -, X6, ⟨Lc6, hQ6, l6, y6, z6⟩, st6⟩ := X4.specialBack hx (y := m_7) rfl hown (mvT hZ (w_29 hw)) (mvT hZ (w_30 hw)) (mvT hZ (w_31 hw)) (by decide) (backOf (W := 1) (rm_ali l Z a0 hw [] b4 dc h4 n0 (by omega) f7 P1 A4 F4_46 F4_62 F4_49 (by omega)) hZ (w_31 hw) (w_28 hw) (Nat.le_trans (by decide) hFr) (Nat.le_trans (by decide) hLo)) (g := (mkF m 103 #[.val (.long p0), .second, .val (.long p1), .second, .val (.long p2), .second, vI p3, vI p4, .val (.int (p3 &&& (3 : Int32))), vA nm, vA ot, vA lu, vA lf, .unset, .unset, .unset, .unset, .unset, .unset, .unset] [(.ref b4), (.ref b4)])) rfl (by rw [hml]; rfl) (Steps.refl _) (a := b4) (argsL := []) (rest := [(.ref b4)]) (lenOf pd_3 rfl) rfl (Nat.le_of_eq rfl) (hb hby at_103) (fun _ _ => ⟨rfl, e4, (by show cells + 1 + 0 ≤ _; omega), (by show slots + 3 + 0 ≤ _; omega)⟩)
  dsimp only [Pt.U, Pt.locs, Pt.cells, Pt.slots] at X6 l6 y6 z6 st6 hQ6
  rw [l6, y6, z6] at X6
  obtain ⟨rfl, Nq6, Kq6, r6_0, r6_1, r6_2, r6_3⟩ := hQ6
  have N6 := Fr.app N0 Nq6
  have z6' := Kq6.1
  have K6 := K4.trans Kq6 (allS (Or.inr (by omega)) all0)
  have lt8 := own_l r6_0.lt
  have lt9 := own_l r6_1.lt
  have lt10 := own_l r6_2.lt
  have lt11 := own_l r6_3.lt
  replace X6 : Stand p l e R s m args below meth c T6 _ (cells + 1) (slots + 3) := X6
  have f12 := P3.ext E4
  have f13 := f12.keep Kq6
  have f14 := P2.ext E4
  have f15 := f14.keep Kq6 (ninS (own_ne (by omega)) nin0)
  refine ⟨_, _, _, b4, dc, kd, (0 : Int32), (0 : Int32), [], X6.more (by omega) (by omega), rfl, N6, K6, (by omega), r6_0, r6_2, r6_3, f13, f15, (Or.inl rfl), fun target hk => ?_⟩
  show Steps _ _ _ (T.setTop (mkF m 99 #[.val (.long p0), .second, .val (.long p1), .second, .val (.long p2), .second, vI p3, vI p4, .val (.int (p3 &&& (3 : Int32))), vA nm, vA ot, vA lu, vA lf, .unset, .unset, .unset, .unset, .unset, .unset, .unset] [])) _
  refine st4 _ ?_
  show Steps _ _ _ (T4.setTop (mkF m 102 #[.val (.long p0), .second, .val (.long p1), .second, .val (.long p2), .second, vI p3, vI p4, .val (.int (p3 &&& (3 : Int32))), vA nm, vA ot, vA lu, vA lf, .unset, .unset, .unset, .unset, .unset, .unset, .unset] [(.ref b4)])) _
  refine XS.dup X4.here hx rfl (hb hby at_102) rfl rfl ?_
  refine st6.trans ?_
  show Steps _ _ _ (T6.setTop (mkF m 106 #[.val (.long p0), .second, .val (.long p1), .second, .val (.long p2), .second, vI p3, vI p4, .val (.int (p3 &&& (3 : Int32))), vA nm, vA ot, vA lu, vA lf, .unset, .unset, .unset, .unset, .unset, .unset, .unset] [(.ref b4)])) _
  refine XS.astore X6.here hx rfl (hb hby at_106) rfl rfl (l' := #[.val (.long p0), .second, .val (.long p1), .second, .val (.long p2), .second, vI p3, vI p4, .val (.int (p3 &&& (3 : Int32))), vA nm, vA ot, vA lu, vA lf, vA b4, .unset, .unset, .unset, .unset, .unset, .unset]) rfl ?_
  refine XS.iload X6.here hx rfl (hb hby at_108) rfl ?_
  refine XS.iconst X6.here hx rfl (hb hby at_110) ?_
  refine XS.iand X6.here hx rfl (hb hby at_111) rfl ?_
  refine XS.ifYes X6.here hx rfl (pc0 := 112) (pc' := 125) rfl (hb hby at_112) rfl ((if0 _ _).trans (teq (hc112 : (p3 &&& (4 : Int32)) = (0 : Int32))).1) (by decide) (by decide) ?_
  exact hk
theorem pz_fin_y {p : Program} {l : Launch} {e : Env} {R : Room} {s : State} {m : MethodId} {args : Array Value} {below : List Frame} {meth : Method} {c : Code} {T : State} {locs : List Loc} {cells slots : Nat} {Z : State} {a0 : Array Value} (X0 : Stand p l e R s m args below meth c T locs cells slots) (hx : p.tables.exec = Jvm.exec) (hw : HW Z a0) (hZ : Z.Warmed39 s.vm) (hown : s.vm.findClass "com/example/ratify/ratify/recovery/RecoveryReportCompletePinLaw" = some m.cls) (hby : c.code = code) (hml : c.maxLocals = 20) (p0 : Int64) (p1 : Int64) (p2 : Int64) (p3 : Int32) (p4 : Int32) (nm : Addr) (ot : Addr) (lu : Addr) (lf : Addr) (dc : Addr) (kd : ClassId) {h0 : Heap} {n0 : Nat} (e0 : T.heap = h0) (N0 : Fr n0 locs) (Z0 : n0 ≤ h0.size) (P0 : Old Z n0 h0) (P1 : sta1 Z (.ref dc)) (P2 : Arv Z h0 dc kd (.object "java/lang/Object") (0 : Int32) [] .null) (P3 : Exa Z h0 dc "[Ljava/lang/Object;") (P4 : Exa Z h0 ot "java/lang/String") (hc112 : ¬ ((p3 &&& (4 : Int32)) = (0 : Int32))) (hFr : 5 ≤ R.frames) (hLo : 69 ≤ R.locals) (hCe : cells + 2 ≤ R.cells) (hSl : slots + 13 ≤ R.slots) :
    ∃ (T' : State) (h' : Heap) (locs' : List Loc) (l2 : Addr) (v2 : Addr) (kv2 : ClassId) (sn2 : Int32) (sN2 : Int32) (vs2 : List Value), Stand p l e R s m args below meth c T' locs' (cells + 2) (slots + 13) ∧ T'.heap = h' ∧ Fr n0 locs' ∧ Keep h0 h' [] ∧ (h0.size ≤ l2) ∧ (Exa Z h' l2 "java/util/ArrayList") ∧ (fld2 Z h' l2 (.int sn2)) ∧ (fld3 Z h' l2 (.ref v2)) ∧ (Exa Z h' v2 "[Ljava/lang/Object;") ∧ (Arv Z h' v2 kv2 (.object "java/lang/Object") sN2 vs2 .null) ∧ (LS1 sn2 sN2 vs2 ot) ∧ ∀ target, Steps p.tables e below (T'.setTop (mkF m 125 #[.val (.long p0), .second, .val (.long p1), .second, .val (.long p2), .second, vI p3, vI p4, .val (.int (p3 &&& (3 : Int32))), vA nm, vA ot, vA lu, vA lf, vA l2, .unset, .unset, .unset, .unset, .unset, .unset] [])) target → Steps p.tables e below (T.setTop (mkF m 99 #[.val (.long p0), .second, .val (.long p1), .second, .val (.long p2), .second, vI p3, vI p4, .val (.int (p3 &&& (3 : Int32))), vA nm, vA ot, vA lu, vA lf, .unset, .unset, .unset, .unset, .unset, .unset, .unset] [])) target := by
  have K0 := Keep.refl h0 []
  have lt1 := own_l P2.lt
  have lt2 := own_l P3.lt
  have lt3 := own_l P4.lt
  obtain ⟨T4, h4, X4, e4, E4, A4, D4, -, st4⟩ := newO X0 hx hZ hown (w_26 hw) (w_27 hw) (w_28 hw) e0 (g := (mkF m 99 #[.val (.long p0), .second, .val (.long p1), .second, .val (.long p2), .second, vI p3, vI p4, .val (.int (p3 &&& (3 : Int32))), vA nm, vA ot, vA lu, vA lf, .unset, .unset, .unset, .unset, .unset, .unset, .unset] [])) rfl (hb hby at_99) (by omega) (by omega)
  obtain ⟨b4, g4⟩ : ∃ z, z = h0.size := ⟨_, rfl⟩
  rw [← g4] at A4 D4 st4
  have z4 := E4.1
  have K4 := K0.ext E4
  replace X4 : Stand p l e R s m args below meth c T4 _ (cells + 1) (slots + 3) := X4
  have lt5 := own_l A4.lt
  have F4_46 : Fld Z h4 b4 "java/util/AbstractList" "modCount" "I" (.int 0) := D4 (Or.inl (w_46 hw)) (ty := .int) (by decide)
  have F4_49 : Fld Z h4 b4 "java/util/ArrayList" "elementData" "[Ljava/lang/Object;" .null := D4 (Or.inl (w_49 hw)) (ty := (.array (.object "java/lang/Object"))) (by decide)
  have F4_62 : Fld Z h4 b4 "java/util/ArrayList" "size" "I" (.int 0) := D4 (Or.inl (w_62 hw)) (ty := .int) (by decide)
  have f7 := P0.ext E4
  obtain ⟨_, _, ⟨T6, L6, k6, n6⟩, -, X6, ⟨Lc6, hQ6, l6, y6, z6⟩, st6⟩ := X4.specialBack hx (y := m_7) rfl hown (mvT hZ (w_29 hw)) (mvT hZ (w_30 hw)) (mvT hZ (w_31 hw)) (by decide) (backOf (W := 1) (rm_ali l Z a0 hw [] b4 dc h4 n0 (by omega) f7 P1 A4 F4_46 F4_62 F4_49 (by omega)) hZ (w_31 hw) (w_28 hw) (Nat.le_trans (by decide) hFr) (Nat.le_trans (by decide) hLo)) (g := (mkF m 103 #[.val (.long p0), .second, .val (.long p1), .second, .val (.long p2), .second, vI p3, vI p4, .val (.int (p3 &&& (3 : Int32))), vA nm, vA ot, vA lu, vA lf, .unset, .unset, .unset, .unset, .unset, .unset, .unset] [(.ref b4), (.ref b4)])) rfl (by rw [hml]; rfl) (Steps.refl _) (a := b4) (argsL := []) (rest := [(.ref b4)]) (lenOf pd_3 rfl) rfl (Nat.le_of_eq rfl) (hb hby at_103) (fun _ _ => ⟨rfl, e4, (by show cells + 1 + 0 ≤ _; omega), (by show slots + 3 + 0 ≤ _; omega)⟩)
  dsimp only [Pt.U, Pt.locs, Pt.cells, Pt.slots] at X6 l6 y6 z6 st6 hQ6
  rw [l6, y6, z6] at X6
  obtain ⟨rfl, Nq6, Kq6, r6_0, r6_1, r6_2, r6_3⟩ := hQ6
  have N6 := Fr.app N0 Nq6
  have z6' := Kq6.1
  have K6 := K4.trans Kq6 (allS (Or.inr (by omega)) all0)
  have lt8 := own_l r6_0.lt
  have lt9 := own_l r6_1.lt
  have lt10 := own_l r6_2.lt
  have lt11 := own_l r6_3.lt
  replace X6 : Stand p l e R s m args below meth c T6 _ (cells + 1) (slots + 3) := X6
  have f13 := f7.keep Kq6 (allS (by omega) all0)
  have f14 := P2.ext E4
  have f15 := f14.keep Kq6 (ninS (own_ne (by omega)) nin0)
  have f16 := P4.ext E4
  have f17 := f16.keep Kq6
  obtain ⟨cq12, kq12, qa12, qb12, qc12⟩ := isOf hZ rfl r6_0
  obtain ⟨_, _, ⟨T12, L12, k12, n12⟩, -, X12, ⟨Lc12, hQ12, l12, y12, z12⟩, st12⟩ := X6.interfaceBack hx (xi := m_55) (y := m_12) (C := "java/util/ArrayList") hown (mvT hZ (w_50 hw)) (mvT hZ (w_51 hw)) (mvT hZ (w_52 hw)) (mvT hZ (w_53 hw)) (mvT hZ (w_54 hw)) (mvT hZ (w_55 hw)) (mvT hZ (w_56 hw)) (mvT hZ (w_57 hw)) (by decide) (backOf (W := 0) (rm_add0 l Z a0 hw [] b4 ot ((0 : Int32)) dc kd T6.heap n0 (by omega) f13 P1 r6_0 r6_1 r6_2 r6_3 f15 (by omega) (own_ne (by omega)) f17) hZ (w_58 hw) (w_28 hw) (Nat.le_trans (by decide) hFr) (Nat.le_trans (by decide) hLo)) qa12 qb12 qc12 (g := (mkF m 119 #[.val (.long p0), .second, .val (.long p1), .second, .val (.long p2), .second, vI p3, vI p4, .val (.int (p3 &&& (3 : Int32))), vA nm, vA ot, vA lu, vA lf, vA b4, .unset, .unset, .unset, .unset, .unset, .unset] [(.ref ot), (.ref b4)])) rfl (by rw [hml]; rfl) (Steps.refl _) (argsL := [(.ref ot)]) (rest := []) (lenOf pd_23 rfl) rfl (Nat.le_of_eq rfl) (hb hby at_119) (fun _ _ => ⟨rfl, rfl, (by show cells + 1 + 1 ≤ _; omega), (by show slots + 3 + 10 ≤ _; omega)⟩)
  dsimp only [Pt.U, Pt.locs, Pt.cells, Pt.slots] at X12 l12 y12 z12 st12 hQ12
  rw [l12, y12, z12] at X12
  obtain ⟨x12_b, x12_k, rfl, Nq12, Kq12, r12_0, r12_1, r12_2, r12_3, r12_4, r12_5, r12_6, r12_7⟩ := hQ12
  have N12 := Fr.app N6 Nq12
  have z12' := Kq12.1
  have K12 := K6.trans Kq12 (allS (Or.inr (by omega)) all0)
  have lt18 := own_l r12_1.lt
  have lt19 := own_l r12_2.lt
  have lt20 := own_l r12_3.lt
  have lt21 := own_l r12_4.lt
  have lt22 := own_l r12_5.lt
  have lt23 := own_l r12_7.lt
  replace X12 : Stand p l e R s m args below meth c T12 _ (cells + 2) (slots + 13) := X12
  refine ⟨_, _, _, b4, x12_b, x12_k, (1 : Int32), (10 : Int32), [(.ref ot), .null, .null, .null, .null, .null, .null, .null, .null, .null], X12.more (by omega) (by omega), rfl, N12, K12, (by omega), r12_1, r12_3, r12_4, r12_5, r12_7, (Or.inr ⟨rfl, rfl, rfl⟩), fun target hk => ?_⟩
  show Steps _ _ _ (T.setTop (mkF m 99 #[.val (.long p0), .second, .val (.long p1), .second, .val (.long p2), .second, vI p3, vI p4, .val (.int (p3 &&& (3 : Int32))), vA nm, vA ot, vA lu, vA lf, .unset, .unset, .unset, .unset, .unset, .unset, .unset] [])) _
  refine st4 _ ?_
  show Steps _ _ _ (T4.setTop (mkF m 102 #[.val (.long p0), .second, .val (.long p1), .second, .val (.long p2), .second, vI p3, vI p4, .val (.int (p3 &&& (3 : Int32))), vA nm, vA ot, vA lu, vA lf, .unset, .unset, .unset, .unset, .unset, .unset, .unset] [(.ref b4)])) _
  refine XS.dup X4.here hx rfl (hb hby at_102) rfl rfl ?_
  refine st6.trans ?_
  show Steps _ _ _ (T6.setTop (mkF m 106 #[.val (.long p0), .second, .val (.long p1), .second, .val (.long p2), .second, vI p3, vI p4, .val (.int (p3 &&& (3 : Int32))), vA nm, vA ot, vA lu, vA lf, .unset, .unset, .unset, .unset, .unset, .unset, .unset] [(.ref b4)])) _
  refine XS.astore X6.here hx rfl (hb hby at_106) rfl rfl (l' := #[.val (.long p0), .second, .val (.long p1), .second, .val (.long p2), .second, vI p3, vI p4, .val (.int (p3 &&& (3 : Int32))), vA nm, vA ot, vA lu, vA lf, vA b4, .unset, .unset, .unset, .unset, .unset, .unset]) rfl ?_
  refine XS.iload X6.here hx rfl (hb hby at_108) rfl ?_
  refine XS.iconst X6.here hx rfl (hb hby at_110) ?_
  refine XS.iand X6.here hx rfl (hb hby at_111) rfl ?_
  refine XS.ifNo X6.here hx rfl (hb hby at_112) rfl ((if0 _ _).trans (feq (hc112 : ¬ ((p3 &&& (4 : Int32)) = (0 : Int32)))).1) ?_
  refine XS.aload X6.here hx rfl (hb hby at_115) rfl rfl ?_
  refine XS.aload X6.here hx rfl (hb hby at_117) rfl rfl ?_
  refine st12.trans ?_
  show Steps _ _ _ (T12.setTop (mkF m 124 #[.val (.long p0), .second, .val (.long p1), .second, .val (.long p2), .second, vI p3, vI p4, .val (.int (p3 &&& (3 : Int32))), vA nm, vA ot, vA lu, vA lf, vA b4, .unset, .unset, .unset, .unset, .unset, .unset] [(.int 1)])) _
  refine XS.pop X12.here hx rfl (hb hby at_124) rfl rfl ?_
  exact hk
theorem pz_fin {p : Program} {l : Launch} {e : Env} {R : Room} {s : State} {m : MethodId} {args : Array Value} {below : List Frame} {meth : Method} {c : Code} {T : State} {locs : List Loc} {cells slots : Nat} {Z : State} {a0 : Array Value} (X0 : Stand p l e R s m args below meth c T locs cells slots) (hx : p.tables.exec = Jvm.exec) (hw : HW Z a0) (hZ : Z.Warmed39 s.vm) (hown : s.vm.findClass "com/example/ratify/ratify/recovery/RecoveryReportCompletePinLaw" = some m.cls) (hby : c.code = code) (hml : c.maxLocals = 20) (p0 : Int64) (p1 : Int64) (p2 : Int64) (p3 : Int32) (p4 : Int32) (nm : Addr) (ot : Addr) (lu : Addr) (lf : Addr) (dc : Addr) (kd : ClassId) {h0 : Heap} {n0 : Nat} (e0 : T.heap = h0) (N0 : Fr n0 locs) (Z0 : n0 ≤ h0.size) (P0 : Old Z n0 h0) (P1 : sta1 Z (.ref dc)) (P2 : Arv Z h0 dc kd (.object "java/lang/Object") (0 : Int32) [] .null) (P3 : Exa Z h0 dc "[Ljava/lang/Object;") (P4 : Exa Z h0 ot "java/lang/String") (hFr : 5 ≤ R.frames) (hLo : 69 ≤ R.locals) (hCe : cells + 2 ≤ R.cells) (hSl : slots + 13 ≤ R.slots) :
    ∃ (T' : State) (h' : Heap) (locs' : List Loc) (l2 : Addr) (v2 : Addr) (kv2 : ClassId) (sn2 : Int32) (sN2 : Int32) (vs2 : List Value), Stand p l e R s m args below meth c T' locs' (cells + 2) (slots + 13) ∧ T'.heap = h' ∧ Fr n0 locs' ∧ Keep h0 h' [] ∧ (h0.size ≤ l2) ∧ (Exa Z h' l2 "java/util/ArrayList") ∧ (fld2 Z h' l2 (.int sn2)) ∧ (fld3 Z h' l2 (.ref v2)) ∧ (Exa Z h' v2 "[Ljava/lang/Object;") ∧ (Arv Z h' v2 kv2 (.object "java/lang/Object") sN2 vs2 .null) ∧ (LS1 sn2 sN2 vs2 ot) ∧ ∀ target, Steps p.tables e below (T'.setTop (mkF m 125 #[.val (.long p0), .second, .val (.long p1), .second, .val (.long p2), .second, vI p3, vI p4, .val (.int (p3 &&& (3 : Int32))), vA nm, vA ot, vA lu, vA lf, vA l2, .unset, .unset, .unset, .unset, .unset, .unset] [])) target → Steps p.tables e below (T.setTop (mkF m 99 #[.val (.long p0), .second, .val (.long p1), .second, .val (.long p2), .second, vI p3, vI p4, .val (.int (p3 &&& (3 : Int32))), vA nm, vA ot, vA lu, vA lf, .unset, .unset, .unset, .unset, .unset, .unset, .unset] [])) target := by
  by_cases q : (p3 &&& (4 : Int32)) = (0 : Int32)
  · exact pz_fin_n X0 hx hw hZ hown hby hml p0 p1 p2 p3 p4 nm ot lu lf dc kd e0 N0 Z0 P0 P1 P2 P3 P4 q hFr hLo hCe hSl
  · exact pz_fin_y X0 hx hw hZ hown hby hml p0 p1 p2 p3 p4 nm ot lu lf dc kd e0 N0 Z0 P0 P1 P2 P3 P4 q hFr hLo hCe hSl
theorem pz_wai_n {p : Program} {l : Launch} {e : Env} {R : Room} {s : State} {m : MethodId} {args : Array Value} {below : List Frame} {meth : Method} {c : Code} {T : State} {locs : List Loc} {cells slots : Nat} {Z : State} {a0 : Array Value} (X0 : Stand p l e R s m args below meth c T locs cells slots) (hx : p.tables.exec = Jvm.exec) (hw : HW Z a0) (hZ : Z.Warmed39 s.vm) (hown : s.vm.findClass "com/example/ratify/ratify/recovery/RecoveryReportCompletePinLaw" = some m.cls) (hby : c.code = code) (hml : c.maxLocals = 20) (p0 : Int64) (p1 : Int64) (p2 : Int64) (p3 : Int32) (p4 : Int32) (nm : Addr) (ot : Addr) (lu : Addr) (lf : Addr) (l2 : Addr) (dc : Addr) (kd : ClassId) {h0 : Heap} {n0 : Nat} (e0 : T.heap = h0) (N0 : Fr n0 locs) (Z0 : n0 ≤ h0.size) (P0 : Old Z n0 h0) (P1 : sta1 Z (.ref dc)) (P2 : Arv Z h0 dc kd (.object "java/lang/Object") (0 : Int32) [] .null) (P3 : Exa Z h0 dc "[Ljava/lang/Object;") (P4 : Exa Z h0 nm "java/lang/String") (hc139 : (p3 &&& (8 : Int32)) = (0 : Int32)) (hFr : 5 ≤ R.frames) (hLo : 69 ≤ R.locals) (hCe : cells + 2 ≤ R.cells) (hSl : slots + 13 ≤ R.slots) :
    ∃ (T' : State) (h' : Heap) (locs' : List Loc) (l3 : Addr) (v3 : Addr) (kv3 : ClassId) (sn3 : Int32) (sN3 : Int32) (vs3 : List Value), Stand p l e R s m args below meth c T' locs' (cells + 2) (slots + 13) ∧ T'.heap = h' ∧ Fr n0 locs' ∧ Keep h0 h' [] ∧ (h0.size ≤ l3) ∧ (Exa Z h' l3 "java/util/ArrayList") ∧ (fld2 Z h' l3 (.int sn3)) ∧ (fld3 Z h' l3 (.ref v3)) ∧ (Exa Z h' v3 "[Ljava/lang/Object;") ∧ (Arv Z h' v3 kv3 (.object "java/lang/Object") sN3 vs3 .null) ∧ (LS1 sn3 sN3 vs3 nm) ∧ ∀ target, Steps p.tables e below (T'.setTop (mkF m 152 #[.val (.long p0), .second, .val (.long p1), .second, .val (.long p2), .second, vI p3, vI p4, .val (.int (p3 &&& (3 : Int32))), vA nm, vA ot, vA lu, vA lf, vA l2, vA l3, .unset, .unset, .unset, .unset, .unset] [])) target → Steps p.tables e below (T.setTop (mkF m 125 #[.val (.long p0), .second, .val (.long p1), .second, .val (.long p2), .second, vI p3, vI p4, .val (.int (p3 &&& (3 : Int32))), vA nm, vA ot, vA lu, vA lf, vA l2, .unset, .unset, .unset, .unset, .unset, .unset] [])) target := by
  have K0 := Keep.refl h0 []
  have lt1 := own_l P2.lt
  have lt2 := own_l P3.lt
  have lt3 := own_l P4.lt
  obtain ⟨T4, h4, X4, e4, E4, A4, D4, -, st4⟩ := newO X0 hx hZ hown (w_26 hw) (w_27 hw) (w_28 hw) e0 (g := (mkF m 125 #[.val (.long p0), .second, .val (.long p1), .second, .val (.long p2), .second, vI p3, vI p4, .val (.int (p3 &&& (3 : Int32))), vA nm, vA ot, vA lu, vA lf, vA l2, .unset, .unset, .unset, .unset, .unset, .unset] [])) rfl (hb hby at_125) (by omega) (by omega)
  obtain ⟨b4, g4⟩ : ∃ z, z = h0.size := ⟨_, rfl⟩
  rw [← g4] at A4 D4 st4
  have z4 := E4.1
  have K4 := K0.ext E4
  replace X4 : Stand p l e R s m args below meth c T4 _ (cells + 1) (slots + 3) := X4
  have lt5 := own_l A4.lt
  have F4_46 : Fld Z h4 b4 "java/util/AbstractList" "modCount" "I" (.int 0) := D4 (Or.inl (w_46 hw)) (ty := .int) (by decide)
  have F4_49 : Fld Z h4 b4 "java/util/ArrayList" "elementData" "[Ljava/lang/Object;" .null := D4 (Or.inl (w_49 hw)) (ty := (.array (.object "java/lang/Object"))) (by decide)
  have F4_62 : Fld Z h4 b4 "java/util/ArrayList" "size" "I" (.int 0) := D4 (Or.inl (w_62 hw)) (ty := .int) (by decide)
  have f7 := P0.ext E4
  obtain ⟨_, _, ⟨T6, L6, k6, n6⟩, -, X6, ⟨Lc6, hQ6, l6, y6, z6⟩, st6⟩ := X4.specialBack hx (y := m_7) rfl hown (mvT hZ (w_29 hw)) (mvT hZ (w_30 hw)) (mvT hZ (w_31 hw)) (by decide) (backOf (W := 1) (rm_ali l Z a0 hw [] b4 dc h4 n0 (by omega) f7 P1 A4 F4_46 F4_62 F4_49 (by omega)) hZ (w_31 hw) (w_28 hw) (Nat.le_trans (by decide) hFr) (Nat.le_trans (by decide) hLo)) (g := (mkF m 129 #[.val (.long p0), .second, .val (.long p1), .second, .val (.long p2), .second, vI p3, vI p4, .val (.int (p3 &&& (3 : Int32))), vA nm, vA ot, vA lu, vA lf, vA l2, .unset, .unset, .unset, .unset, .unset, .unset] [(.ref b4), (.ref b4)])) rfl (by rw [hml]; rfl) (Steps.refl _) (a := b4) (argsL := []) (rest := [(.ref b4)]) (lenOf pd_3 rfl) rfl (Nat.le_of_eq rfl) (hb hby at_129) (fun _ _ => ⟨rfl, e4, (by show cells + 1 + 0 ≤ _; omega), (by show slots + 3 + 0 ≤ _; omega)⟩)
  dsimp only [Pt.U, Pt.locs, Pt.cells, Pt.slots] at X6 l6 y6 z6 st6 hQ6
  rw [l6, y6, z6] at X6
  obtain ⟨rfl, Nq6, Kq6, r6_0, r6_1, r6_2, r6_3⟩ := hQ6
  have N6 := Fr.app N0 Nq6
  have z6' := Kq6.1
  have K6 := K4.trans Kq6 (allS (Or.inr (by omega)) all0)
  have lt8 := own_l r6_0.lt
  have lt9 := own_l r6_1.lt
  have lt10 := own_l r6_2.lt
  have lt11 := own_l r6_3.lt
  replace X6 : Stand p l e R s m args below meth c T6 _ (cells + 1) (slots + 3) := X6
  have f12 := P3.ext E4
  have f13 := f12.keep Kq6
  have f14 := P2.ext E4
  have f15 := f14.keep Kq6 (ninS (own_ne (by omega)) nin0)
  refine ⟨_, _, _, b4, dc, kd, (0 : Int32), (0 : Int32), [], X6.more (by omega) (by omega), rfl, N6, K6, (by omega), r6_0, r6_2, r6_3, f13, f15, (Or.inl rfl), fun target hk => ?_⟩
  show Steps _ _ _ (T.setTop (mkF m 125 #[.val (.long p0), .second, .val (.long p1), .second, .val (.long p2), .second, vI p3, vI p4, .val (.int (p3 &&& (3 : Int32))), vA nm, vA ot, vA lu, vA lf, vA l2, .unset, .unset, .unset, .unset, .unset, .unset] [])) _
  refine st4 _ ?_
  show Steps _ _ _ (T4.setTop (mkF m 128 #[.val (.long p0), .second, .val (.long p1), .second, .val (.long p2), .second, vI p3, vI p4, .val (.int (p3 &&& (3 : Int32))), vA nm, vA ot, vA lu, vA lf, vA l2, .unset, .unset, .unset, .unset, .unset, .unset] [(.ref b4)])) _
  refine XS.dup X4.here hx rfl (hb hby at_128) rfl rfl ?_
  refine st6.trans ?_
  show Steps _ _ _ (T6.setTop (mkF m 132 #[.val (.long p0), .second, .val (.long p1), .second, .val (.long p2), .second, vI p3, vI p4, .val (.int (p3 &&& (3 : Int32))), vA nm, vA ot, vA lu, vA lf, vA l2, .unset, .unset, .unset, .unset, .unset, .unset] [(.ref b4)])) _
  refine XS.astore X6.here hx rfl (hb hby at_132) rfl rfl (l' := #[.val (.long p0), .second, .val (.long p1), .second, .val (.long p2), .second, vI p3, vI p4, .val (.int (p3 &&& (3 : Int32))), vA nm, vA ot, vA lu, vA lf, vA l2, vA b4, .unset, .unset, .unset, .unset, .unset]) rfl ?_
  refine XS.iload X6.here hx rfl (hb hby at_134) rfl ?_
  refine XS.bipush X6.here hx rfl (hb hby at_136) ?_
  refine XS.iand X6.here hx rfl (hb hby at_138) rfl ?_
  refine XS.ifYes X6.here hx rfl (pc0 := 139) (pc' := 152) rfl (hb hby at_139) rfl ((if0 _ _).trans (teq (hc139 : (p3 &&& (8 : Int32)) = (0 : Int32))).1) (by decide) (by decide) ?_
  exact hk
theorem pz_wai_y {p : Program} {l : Launch} {e : Env} {R : Room} {s : State} {m : MethodId} {args : Array Value} {below : List Frame} {meth : Method} {c : Code} {T : State} {locs : List Loc} {cells slots : Nat} {Z : State} {a0 : Array Value} (X0 : Stand p l e R s m args below meth c T locs cells slots) (hx : p.tables.exec = Jvm.exec) (hw : HW Z a0) (hZ : Z.Warmed39 s.vm) (hown : s.vm.findClass "com/example/ratify/ratify/recovery/RecoveryReportCompletePinLaw" = some m.cls) (hby : c.code = code) (hml : c.maxLocals = 20) (p0 : Int64) (p1 : Int64) (p2 : Int64) (p3 : Int32) (p4 : Int32) (nm : Addr) (ot : Addr) (lu : Addr) (lf : Addr) (l2 : Addr) (dc : Addr) (kd : ClassId) {h0 : Heap} {n0 : Nat} (e0 : T.heap = h0) (N0 : Fr n0 locs) (Z0 : n0 ≤ h0.size) (P0 : Old Z n0 h0) (P1 : sta1 Z (.ref dc)) (P2 : Arv Z h0 dc kd (.object "java/lang/Object") (0 : Int32) [] .null) (P3 : Exa Z h0 dc "[Ljava/lang/Object;") (P4 : Exa Z h0 nm "java/lang/String") (hc139 : ¬ ((p3 &&& (8 : Int32)) = (0 : Int32))) (hFr : 5 ≤ R.frames) (hLo : 69 ≤ R.locals) (hCe : cells + 2 ≤ R.cells) (hSl : slots + 13 ≤ R.slots) :
    ∃ (T' : State) (h' : Heap) (locs' : List Loc) (l3 : Addr) (v3 : Addr) (kv3 : ClassId) (sn3 : Int32) (sN3 : Int32) (vs3 : List Value), Stand p l e R s m args below meth c T' locs' (cells + 2) (slots + 13) ∧ T'.heap = h' ∧ Fr n0 locs' ∧ Keep h0 h' [] ∧ (h0.size ≤ l3) ∧ (Exa Z h' l3 "java/util/ArrayList") ∧ (fld2 Z h' l3 (.int sn3)) ∧ (fld3 Z h' l3 (.ref v3)) ∧ (Exa Z h' v3 "[Ljava/lang/Object;") ∧ (Arv Z h' v3 kv3 (.object "java/lang/Object") sN3 vs3 .null) ∧ (LS1 sn3 sN3 vs3 nm) ∧ ∀ target, Steps p.tables e below (T'.setTop (mkF m 152 #[.val (.long p0), .second, .val (.long p1), .second, .val (.long p2), .second, vI p3, vI p4, .val (.int (p3 &&& (3 : Int32))), vA nm, vA ot, vA lu, vA lf, vA l2, vA l3, .unset, .unset, .unset, .unset, .unset] [])) target → Steps p.tables e below (T.setTop (mkF m 125 #[.val (.long p0), .second, .val (.long p1), .second, .val (.long p2), .second, vI p3, vI p4, .val (.int (p3 &&& (3 : Int32))), vA nm, vA ot, vA lu, vA lf, vA l2, .unset, .unset, .unset, .unset, .unset, .unset] [])) target := by
  have K0 := Keep.refl h0 []
  have lt1 := own_l P2.lt
  have lt2 := own_l P3.lt
  have lt3 := own_l P4.lt
  obtain ⟨T4, h4, X4, e4, E4, A4, D4, -, st4⟩ := newO X0 hx hZ hown (w_26 hw) (w_27 hw) (w_28 hw) e0 (g := (mkF m 125 #[.val (.long p0), .second, .val (.long p1), .second, .val (.long p2), .second, vI p3, vI p4, .val (.int (p3 &&& (3 : Int32))), vA nm, vA ot, vA lu, vA lf, vA l2, .unset, .unset, .unset, .unset, .unset, .unset] [])) rfl (hb hby at_125) (by omega) (by omega)
  obtain ⟨b4, g4⟩ : ∃ z, z = h0.size := ⟨_, rfl⟩
  rw [← g4] at A4 D4 st4
  have z4 := E4.1
  have K4 := K0.ext E4
  replace X4 : Stand p l e R s m args below meth c T4 _ (cells + 1) (slots + 3) := X4
  have lt5 := own_l A4.lt
  have F4_46 : Fld Z h4 b4 "java/util/AbstractList" "modCount" "I" (.int 0) := D4 (Or.inl (w_46 hw)) (ty := .int) (by decide)
  have F4_49 : Fld Z h4 b4 "java/util/ArrayList" "elementData" "[Ljava/lang/Object;" .null := D4 (Or.inl (w_49 hw)) (ty := (.array (.object "java/lang/Object"))) (by decide)
  have F4_62 : Fld Z h4 b4 "java/util/ArrayList" "size" "I" (.int 0) := D4 (Or.inl (w_62 hw)) (ty := .int) (by decide)
  have f7 := P0.ext E4
  obtain ⟨_, _, ⟨T6, L6, k6, n6⟩, -, X6, ⟨Lc6, hQ6, l6, y6, z6⟩, st6⟩ := X4.specialBack hx (y := m_7) rfl hown (mvT hZ (w_29 hw)) (mvT hZ (w_30 hw)) (mvT hZ (w_31 hw)) (by decide) (backOf (W := 1) (rm_ali l Z a0 hw [] b4 dc h4 n0 (by omega) f7 P1 A4 F4_46 F4_62 F4_49 (by omega)) hZ (w_31 hw) (w_28 hw) (Nat.le_trans (by decide) hFr) (Nat.le_trans (by decide) hLo)) (g := (mkF m 129 #[.val (.long p0), .second, .val (.long p1), .second, .val (.long p2), .second, vI p3, vI p4, .val (.int (p3 &&& (3 : Int32))), vA nm, vA ot, vA lu, vA lf, vA l2, .unset, .unset, .unset, .unset, .unset, .unset] [(.ref b4), (.ref b4)])) rfl (by rw [hml]; rfl) (Steps.refl _) (a := b4) (argsL := []) (rest := [(.ref b4)]) (lenOf pd_3 rfl) rfl (Nat.le_of_eq rfl) (hb hby at_129) (fun _ _ => ⟨rfl, e4, (by show cells + 1 + 0 ≤ _; omega), (by show slots + 3 + 0 ≤ _; omega)⟩)
  dsimp only [Pt.U, Pt.locs, Pt.cells, Pt.slots] at X6 l6 y6 z6 st6 hQ6
  rw [l6, y6, z6] at X6
  obtain ⟨rfl, Nq6, Kq6, r6_0, r6_1, r6_2, r6_3⟩ := hQ6
  have N6 := Fr.app N0 Nq6
  have z6' := Kq6.1
  have K6 := K4.trans Kq6 (allS (Or.inr (by omega)) all0)
  have lt8 := own_l r6_0.lt
  have lt9 := own_l r6_1.lt
  have lt10 := own_l r6_2.lt
  have lt11 := own_l r6_3.lt
  replace X6 : Stand p l e R s m args below meth c T6 _ (cells + 1) (slots + 3) := X6
  have f13 := f7.keep Kq6 (allS (by omega) all0)
  have f14 := P2.ext E4
  have f15 := f14.keep Kq6 (ninS (own_ne (by omega)) nin0)
  have f16 := P4.ext E4
  have f17 := f16.keep Kq6
  obtain ⟨cq12, kq12, qa12, qb12, qc12⟩ := isOf hZ rfl r6_0
  obtain ⟨_, _, ⟨T12, L12, k12, n12⟩, -, X12, ⟨Lc12, hQ12, l12, y12, z12⟩, st12⟩ := X6.interfaceBack hx (xi := m_55) (y := m_12) (C := "java/util/ArrayList") hown (mvT hZ (w_50 hw)) (mvT hZ (w_51 hw)) (mvT hZ (w_52 hw)) (mvT hZ (w_53 hw)) (mvT hZ (w_54 hw)) (mvT hZ (w_55 hw)) (mvT hZ (w_56 hw)) (mvT hZ (w_57 hw)) (by decide) (backOf (W := 0) (rm_add0 l Z a0 hw [] b4 nm ((0 : Int32)) dc kd T6.heap n0 (by omega) f13 P1 r6_0 r6_1 r6_2 r6_3 f15 (by omega) (own_ne (by omega)) f17) hZ (w_58 hw) (w_28 hw) (Nat.le_trans (by decide) hFr) (Nat.le_trans (by decide) hLo)) qa12 qb12 qc12 (g := (mkF m 146 #[.val (.long p0), .second, .val (.long p1), .second, .val (.long p2), .second, vI p3, vI p4, .val (.int (p3 &&& (3 : Int32))), vA nm, vA ot, vA lu, vA lf, vA l2, vA b4, .unset, .unset, .unset, .unset, .unset] [(.ref nm), (.ref b4)])) rfl (by rw [hml]; rfl) (Steps.refl _) (argsL := [(.ref nm)]) (rest := []) (lenOf pd_23 rfl) rfl (Nat.le_of_eq rfl) (hb hby at_146) (fun _ _ => ⟨rfl, rfl, (by show cells + 1 + 1 ≤ _; omega), (by show slots + 3 + 10 ≤ _; omega)⟩)
  dsimp only [Pt.U, Pt.locs, Pt.cells, Pt.slots] at X12 l12 y12 z12 st12 hQ12
  rw [l12, y12, z12] at X12
  obtain ⟨x12_b, x12_k, rfl, Nq12, Kq12, r12_0, r12_1, r12_2, r12_3, r12_4, r12_5, r12_6, r12_7⟩ := hQ12
  have N12 := Fr.app N6 Nq12
  have z12' := Kq12.1
  have K12 := K6.trans Kq12 (allS (Or.inr (by omega)) all0)
  have lt18 := own_l r12_1.lt
  have lt19 := own_l r12_2.lt
  have lt20 := own_l r12_3.lt
  have lt21 := own_l r12_4.lt
  have lt22 := own_l r12_5.lt
  have lt23 := own_l r12_7.lt
  replace X12 : Stand p l e R s m args below meth c T12 _ (cells + 2) (slots + 13) := X12
  refine ⟨_, _, _, b4, x12_b, x12_k, (1 : Int32), (10 : Int32), [(.ref nm), .null, .null, .null, .null, .null, .null, .null, .null, .null], X12.more (by omega) (by omega), rfl, N12, K12, (by omega), r12_1, r12_3, r12_4, r12_5, r12_7, (Or.inr ⟨rfl, rfl, rfl⟩), fun target hk => ?_⟩
  show Steps _ _ _ (T.setTop (mkF m 125 #[.val (.long p0), .second, .val (.long p1), .second, .val (.long p2), .second, vI p3, vI p4, .val (.int (p3 &&& (3 : Int32))), vA nm, vA ot, vA lu, vA lf, vA l2, .unset, .unset, .unset, .unset, .unset, .unset] [])) _
  refine st4 _ ?_
  show Steps _ _ _ (T4.setTop (mkF m 128 #[.val (.long p0), .second, .val (.long p1), .second, .val (.long p2), .second, vI p3, vI p4, .val (.int (p3 &&& (3 : Int32))), vA nm, vA ot, vA lu, vA lf, vA l2, .unset, .unset, .unset, .unset, .unset, .unset] [(.ref b4)])) _
  refine XS.dup X4.here hx rfl (hb hby at_128) rfl rfl ?_
  refine st6.trans ?_
  show Steps _ _ _ (T6.setTop (mkF m 132 #[.val (.long p0), .second, .val (.long p1), .second, .val (.long p2), .second, vI p3, vI p4, .val (.int (p3 &&& (3 : Int32))), vA nm, vA ot, vA lu, vA lf, vA l2, .unset, .unset, .unset, .unset, .unset, .unset] [(.ref b4)])) _
  refine XS.astore X6.here hx rfl (hb hby at_132) rfl rfl (l' := #[.val (.long p0), .second, .val (.long p1), .second, .val (.long p2), .second, vI p3, vI p4, .val (.int (p3 &&& (3 : Int32))), vA nm, vA ot, vA lu, vA lf, vA l2, vA b4, .unset, .unset, .unset, .unset, .unset]) rfl ?_
  refine XS.iload X6.here hx rfl (hb hby at_134) rfl ?_
  refine XS.bipush X6.here hx rfl (hb hby at_136) ?_
  refine XS.iand X6.here hx rfl (hb hby at_138) rfl ?_
  refine XS.ifNo X6.here hx rfl (hb hby at_139) rfl ((if0 _ _).trans (feq (hc139 : ¬ ((p3 &&& (8 : Int32)) = (0 : Int32)))).1) ?_
  refine XS.aload X6.here hx rfl (hb hby at_142) rfl rfl ?_
  refine XS.aload X6.here hx rfl (hb hby at_144) rfl rfl ?_
  refine st12.trans ?_
  show Steps _ _ _ (T12.setTop (mkF m 151 #[.val (.long p0), .second, .val (.long p1), .second, .val (.long p2), .second, vI p3, vI p4, .val (.int (p3 &&& (3 : Int32))), vA nm, vA ot, vA lu, vA lf, vA l2, vA b4, .unset, .unset, .unset, .unset, .unset] [(.int 1)])) _
  refine XS.pop X12.here hx rfl (hb hby at_151) rfl rfl ?_
  exact hk
theorem pz_wai {p : Program} {l : Launch} {e : Env} {R : Room} {s : State} {m : MethodId} {args : Array Value} {below : List Frame} {meth : Method} {c : Code} {T : State} {locs : List Loc} {cells slots : Nat} {Z : State} {a0 : Array Value} (X0 : Stand p l e R s m args below meth c T locs cells slots) (hx : p.tables.exec = Jvm.exec) (hw : HW Z a0) (hZ : Z.Warmed39 s.vm) (hown : s.vm.findClass "com/example/ratify/ratify/recovery/RecoveryReportCompletePinLaw" = some m.cls) (hby : c.code = code) (hml : c.maxLocals = 20) (p0 : Int64) (p1 : Int64) (p2 : Int64) (p3 : Int32) (p4 : Int32) (nm : Addr) (ot : Addr) (lu : Addr) (lf : Addr) (l2 : Addr) (dc : Addr) (kd : ClassId) {h0 : Heap} {n0 : Nat} (e0 : T.heap = h0) (N0 : Fr n0 locs) (Z0 : n0 ≤ h0.size) (P0 : Old Z n0 h0) (P1 : sta1 Z (.ref dc)) (P2 : Arv Z h0 dc kd (.object "java/lang/Object") (0 : Int32) [] .null) (P3 : Exa Z h0 dc "[Ljava/lang/Object;") (P4 : Exa Z h0 nm "java/lang/String") (hFr : 5 ≤ R.frames) (hLo : 69 ≤ R.locals) (hCe : cells + 2 ≤ R.cells) (hSl : slots + 13 ≤ R.slots) :
    ∃ (T' : State) (h' : Heap) (locs' : List Loc) (l3 : Addr) (v3 : Addr) (kv3 : ClassId) (sn3 : Int32) (sN3 : Int32) (vs3 : List Value), Stand p l e R s m args below meth c T' locs' (cells + 2) (slots + 13) ∧ T'.heap = h' ∧ Fr n0 locs' ∧ Keep h0 h' [] ∧ (h0.size ≤ l3) ∧ (Exa Z h' l3 "java/util/ArrayList") ∧ (fld2 Z h' l3 (.int sn3)) ∧ (fld3 Z h' l3 (.ref v3)) ∧ (Exa Z h' v3 "[Ljava/lang/Object;") ∧ (Arv Z h' v3 kv3 (.object "java/lang/Object") sN3 vs3 .null) ∧ (LS1 sn3 sN3 vs3 nm) ∧ ∀ target, Steps p.tables e below (T'.setTop (mkF m 152 #[.val (.long p0), .second, .val (.long p1), .second, .val (.long p2), .second, vI p3, vI p4, .val (.int (p3 &&& (3 : Int32))), vA nm, vA ot, vA lu, vA lf, vA l2, vA l3, .unset, .unset, .unset, .unset, .unset] [])) target → Steps p.tables e below (T.setTop (mkF m 125 #[.val (.long p0), .second, .val (.long p1), .second, .val (.long p2), .second, vI p3, vI p4, .val (.int (p3 &&& (3 : Int32))), vA nm, vA ot, vA lu, vA lf, vA l2, .unset, .unset, .unset, .unset, .unset, .unset] [])) target := by
  by_cases q : (p3 &&& (8 : Int32)) = (0 : Int32)
  · exact pz_wai_n X0 hx hw hZ hown hby hml p0 p1 p2 p3 p4 nm ot lu lf l2 dc kd e0 N0 Z0 P0 P1 P2 P3 P4 q hFr hLo hCe hSl
  · exact pz_wai_y X0 hx hw hZ hown hby hml p0 p1 p2 p3 p4 nm ot lu lf l2 dc kd e0 N0 Z0 P0 P1 P2 P3 P4 q hFr hLo hCe hSl
theorem pz_dfr_n {p : Program} {l : Launch} {e : Env} {R : Room} {s : State} {m : MethodId} {args : Array Value} {below : List Frame} {meth : Method} {c : Code} {T : State} {locs : List Loc} {cells slots : Nat} {Z : State} {a0 : Array Value} (X0 : Stand p l e R s m args below meth c T locs cells slots) (hx : p.tables.exec = Jvm.exec) (hw : HW Z a0) (hZ : Z.Warmed39 s.vm) (hown : s.vm.findClass "com/example/ratify/ratify/recovery/RecoveryReportCompletePinLaw" = some m.cls) (hby : c.code = code) (hml : c.maxLocals = 20) (p0 : Int64) (p1 : Int64) (p2 : Int64) (p3 : Int32) (p4 : Int32) (nm : Addr) (ot : Addr) (lu : Addr) (lf : Addr) (l2 : Addr) (l3 : Addr) (dc : Addr) (kd : ClassId) {h0 : Heap} {n0 : Nat} (e0 : T.heap = h0) (N0 : Fr n0 locs) (Z0 : n0 ≤ h0.size) (P0 : Old Z n0 h0) (P1 : sta1 Z (.ref dc)) (P2 : Arv Z h0 dc kd (.object "java/lang/Object") (0 : Int32) [] .null) (P3 : Exa Z h0 dc "[Ljava/lang/Object;") (P4 : Exa Z h0 ot "java/lang/String") (hc166 : (p3 &&& (16 : Int32)) = (0 : Int32)) (hFr : 5 ≤ R.frames) (hLo : 69 ≤ R.locals) (hCe : cells + 2 ≤ R.cells) (hSl : slots + 13 ≤ R.slots) :
    ∃ (T' : State) (h' : Heap) (locs' : List Loc) (l4 : Addr) (v4 : Addr) (kv4 : ClassId) (sn4 : Int32) (sN4 : Int32) (vs4 : List Value), Stand p l e R s m args below meth c T' locs' (cells + 2) (slots + 13) ∧ T'.heap = h' ∧ Fr n0 locs' ∧ Keep h0 h' [] ∧ (h0.size ≤ l4) ∧ (Exa Z h' l4 "java/util/ArrayList") ∧ (fld2 Z h' l4 (.int sn4)) ∧ (fld3 Z h' l4 (.ref v4)) ∧ (Exa Z h' v4 "[Ljava/lang/Object;") ∧ (Arv Z h' v4 kv4 (.object "java/lang/Object") sN4 vs4 .null) ∧ (LS1 sn4 sN4 vs4 ot) ∧ ∀ target, Steps p.tables e below (T'.setTop (mkF m 179 #[.val (.long p0), .second, .val (.long p1), .second, .val (.long p2), .second, vI p3, vI p4, .val (.int (p3 &&& (3 : Int32))), vA nm, vA ot, vA lu, vA lf, vA l2, vA l3, vA l4, .unset, .unset, .unset, .unset] [])) target → Steps p.tables e below (T.setTop (mkF m 152 #[.val (.long p0), .second, .val (.long p1), .second, .val (.long p2), .second, vI p3, vI p4, .val (.int (p3 &&& (3 : Int32))), vA nm, vA ot, vA lu, vA lf, vA l2, vA l3, .unset, .unset, .unset, .unset, .unset] [])) target := by
  have K0 := Keep.refl h0 []
  have lt1 := own_l P2.lt
  have lt2 := own_l P3.lt
  have lt3 := own_l P4.lt
  obtain ⟨T4, h4, X4, e4, E4, A4, D4, -, st4⟩ := newO X0 hx hZ hown (w_26 hw) (w_27 hw) (w_28 hw) e0 (g := (mkF m 152 #[.val (.long p0), .second, .val (.long p1), .second, .val (.long p2), .second, vI p3, vI p4, .val (.int (p3 &&& (3 : Int32))), vA nm, vA ot, vA lu, vA lf, vA l2, vA l3, .unset, .unset, .unset, .unset, .unset] [])) rfl (hb hby at_152) (by omega) (by omega)
  obtain ⟨b4, g4⟩ : ∃ z, z = h0.size := ⟨_, rfl⟩
  rw [← g4] at A4 D4 st4
  have z4 := E4.1
  have K4 := K0.ext E4
  replace X4 : Stand p l e R s m args below meth c T4 _ (cells + 1) (slots + 3) := X4
  have lt5 := own_l A4.lt
  have F4_46 : Fld Z h4 b4 "java/util/AbstractList" "modCount" "I" (.int 0) := D4 (Or.inl (w_46 hw)) (ty := .int) (by decide)
  have F4_49 : Fld Z h4 b4 "java/util/ArrayList" "elementData" "[Ljava/lang/Object;" .null := D4 (Or.inl (w_49 hw)) (ty := (.array (.object "java/lang/Object"))) (by decide)
  have F4_62 : Fld Z h4 b4 "java/util/ArrayList" "size" "I" (.int 0) := D4 (Or.inl (w_62 hw)) (ty := .int) (by decide)
  have f7 := P0.ext E4
  obtain ⟨_, _, ⟨T6, L6, k6, n6⟩, -, X6, ⟨Lc6, hQ6, l6, y6, z6⟩, st6⟩ := X4.specialBack hx (y := m_7) rfl hown (mvT hZ (w_29 hw)) (mvT hZ (w_30 hw)) (mvT hZ (w_31 hw)) (by decide) (backOf (W := 1) (rm_ali l Z a0 hw [] b4 dc h4 n0 (by omega) f7 P1 A4 F4_46 F4_62 F4_49 (by omega)) hZ (w_31 hw) (w_28 hw) (Nat.le_trans (by decide) hFr) (Nat.le_trans (by decide) hLo)) (g := (mkF m 156 #[.val (.long p0), .second, .val (.long p1), .second, .val (.long p2), .second, vI p3, vI p4, .val (.int (p3 &&& (3 : Int32))), vA nm, vA ot, vA lu, vA lf, vA l2, vA l3, .unset, .unset, .unset, .unset, .unset] [(.ref b4), (.ref b4)])) rfl (by rw [hml]; rfl) (Steps.refl _) (a := b4) (argsL := []) (rest := [(.ref b4)]) (lenOf pd_3 rfl) rfl (Nat.le_of_eq rfl) (hb hby at_156) (fun _ _ => ⟨rfl, e4, (by show cells + 1 + 0 ≤ _; omega), (by show slots + 3 + 0 ≤ _; omega)⟩)
  dsimp only [Pt.U, Pt.locs, Pt.cells, Pt.slots] at X6 l6 y6 z6 st6 hQ6
  rw [l6, y6, z6] at X6
  obtain ⟨rfl, Nq6, Kq6, r6_0, r6_1, r6_2, r6_3⟩ := hQ6
  have N6 := Fr.app N0 Nq6
  have z6' := Kq6.1
  have K6 := K4.trans Kq6 (allS (Or.inr (by omega)) all0)
  have lt8 := own_l r6_0.lt
  have lt9 := own_l r6_1.lt
  have lt10 := own_l r6_2.lt
  have lt11 := own_l r6_3.lt
  replace X6 : Stand p l e R s m args below meth c T6 _ (cells + 1) (slots + 3) := X6
  have f12 := P3.ext E4
  have f13 := f12.keep Kq6
  have f14 := P2.ext E4
  have f15 := f14.keep Kq6 (ninS (own_ne (by omega)) nin0)
  refine ⟨_, _, _, b4, dc, kd, (0 : Int32), (0 : Int32), [], X6.more (by omega) (by omega), rfl, N6, K6, (by omega), r6_0, r6_2, r6_3, f13, f15, (Or.inl rfl), fun target hk => ?_⟩
  show Steps _ _ _ (T.setTop (mkF m 152 #[.val (.long p0), .second, .val (.long p1), .second, .val (.long p2), .second, vI p3, vI p4, .val (.int (p3 &&& (3 : Int32))), vA nm, vA ot, vA lu, vA lf, vA l2, vA l3, .unset, .unset, .unset, .unset, .unset] [])) _
  refine st4 _ ?_
  show Steps _ _ _ (T4.setTop (mkF m 155 #[.val (.long p0), .second, .val (.long p1), .second, .val (.long p2), .second, vI p3, vI p4, .val (.int (p3 &&& (3 : Int32))), vA nm, vA ot, vA lu, vA lf, vA l2, vA l3, .unset, .unset, .unset, .unset, .unset] [(.ref b4)])) _
  refine XS.dup X4.here hx rfl (hb hby at_155) rfl rfl ?_
  refine st6.trans ?_
  show Steps _ _ _ (T6.setTop (mkF m 159 #[.val (.long p0), .second, .val (.long p1), .second, .val (.long p2), .second, vI p3, vI p4, .val (.int (p3 &&& (3 : Int32))), vA nm, vA ot, vA lu, vA lf, vA l2, vA l3, .unset, .unset, .unset, .unset, .unset] [(.ref b4)])) _
  refine XS.astore X6.here hx rfl (hb hby at_159) rfl rfl (l' := #[.val (.long p0), .second, .val (.long p1), .second, .val (.long p2), .second, vI p3, vI p4, .val (.int (p3 &&& (3 : Int32))), vA nm, vA ot, vA lu, vA lf, vA l2, vA l3, vA b4, .unset, .unset, .unset, .unset]) rfl ?_
  refine XS.iload X6.here hx rfl (hb hby at_161) rfl ?_
  refine XS.bipush X6.here hx rfl (hb hby at_163) ?_
  refine XS.iand X6.here hx rfl (hb hby at_165) rfl ?_
  refine XS.ifYes X6.here hx rfl (pc0 := 166) (pc' := 179) rfl (hb hby at_166) rfl ((if0 _ _).trans (teq (hc166 : (p3 &&& (16 : Int32)) = (0 : Int32))).1) (by decide) (by decide) ?_
  exact hk
theorem pz_dfr_y {p : Program} {l : Launch} {e : Env} {R : Room} {s : State} {m : MethodId} {args : Array Value} {below : List Frame} {meth : Method} {c : Code} {T : State} {locs : List Loc} {cells slots : Nat} {Z : State} {a0 : Array Value} (X0 : Stand p l e R s m args below meth c T locs cells slots) (hx : p.tables.exec = Jvm.exec) (hw : HW Z a0) (hZ : Z.Warmed39 s.vm) (hown : s.vm.findClass "com/example/ratify/ratify/recovery/RecoveryReportCompletePinLaw" = some m.cls) (hby : c.code = code) (hml : c.maxLocals = 20) (p0 : Int64) (p1 : Int64) (p2 : Int64) (p3 : Int32) (p4 : Int32) (nm : Addr) (ot : Addr) (lu : Addr) (lf : Addr) (l2 : Addr) (l3 : Addr) (dc : Addr) (kd : ClassId) {h0 : Heap} {n0 : Nat} (e0 : T.heap = h0) (N0 : Fr n0 locs) (Z0 : n0 ≤ h0.size) (P0 : Old Z n0 h0) (P1 : sta1 Z (.ref dc)) (P2 : Arv Z h0 dc kd (.object "java/lang/Object") (0 : Int32) [] .null) (P3 : Exa Z h0 dc "[Ljava/lang/Object;") (P4 : Exa Z h0 ot "java/lang/String") (hc166 : ¬ ((p3 &&& (16 : Int32)) = (0 : Int32))) (hFr : 5 ≤ R.frames) (hLo : 69 ≤ R.locals) (hCe : cells + 2 ≤ R.cells) (hSl : slots + 13 ≤ R.slots) :
    ∃ (T' : State) (h' : Heap) (locs' : List Loc) (l4 : Addr) (v4 : Addr) (kv4 : ClassId) (sn4 : Int32) (sN4 : Int32) (vs4 : List Value), Stand p l e R s m args below meth c T' locs' (cells + 2) (slots + 13) ∧ T'.heap = h' ∧ Fr n0 locs' ∧ Keep h0 h' [] ∧ (h0.size ≤ l4) ∧ (Exa Z h' l4 "java/util/ArrayList") ∧ (fld2 Z h' l4 (.int sn4)) ∧ (fld3 Z h' l4 (.ref v4)) ∧ (Exa Z h' v4 "[Ljava/lang/Object;") ∧ (Arv Z h' v4 kv4 (.object "java/lang/Object") sN4 vs4 .null) ∧ (LS1 sn4 sN4 vs4 ot) ∧ ∀ target, Steps p.tables e below (T'.setTop (mkF m 179 #[.val (.long p0), .second, .val (.long p1), .second, .val (.long p2), .second, vI p3, vI p4, .val (.int (p3 &&& (3 : Int32))), vA nm, vA ot, vA lu, vA lf, vA l2, vA l3, vA l4, .unset, .unset, .unset, .unset] [])) target → Steps p.tables e below (T.setTop (mkF m 152 #[.val (.long p0), .second, .val (.long p1), .second, .val (.long p2), .second, vI p3, vI p4, .val (.int (p3 &&& (3 : Int32))), vA nm, vA ot, vA lu, vA lf, vA l2, vA l3, .unset, .unset, .unset, .unset, .unset] [])) target := by
  have K0 := Keep.refl h0 []
  have lt1 := own_l P2.lt
  have lt2 := own_l P3.lt
  have lt3 := own_l P4.lt
  obtain ⟨T4, h4, X4, e4, E4, A4, D4, -, st4⟩ := newO X0 hx hZ hown (w_26 hw) (w_27 hw) (w_28 hw) e0 (g := (mkF m 152 #[.val (.long p0), .second, .val (.long p1), .second, .val (.long p2), .second, vI p3, vI p4, .val (.int (p3 &&& (3 : Int32))), vA nm, vA ot, vA lu, vA lf, vA l2, vA l3, .unset, .unset, .unset, .unset, .unset] [])) rfl (hb hby at_152) (by omega) (by omega)
  obtain ⟨b4, g4⟩ : ∃ z, z = h0.size := ⟨_, rfl⟩
  rw [← g4] at A4 D4 st4
  have z4 := E4.1
  have K4 := K0.ext E4
  replace X4 : Stand p l e R s m args below meth c T4 _ (cells + 1) (slots + 3) := X4
  have lt5 := own_l A4.lt
  have F4_46 : Fld Z h4 b4 "java/util/AbstractList" "modCount" "I" (.int 0) := D4 (Or.inl (w_46 hw)) (ty := .int) (by decide)
  have F4_49 : Fld Z h4 b4 "java/util/ArrayList" "elementData" "[Ljava/lang/Object;" .null := D4 (Or.inl (w_49 hw)) (ty := (.array (.object "java/lang/Object"))) (by decide)
  have F4_62 : Fld Z h4 b4 "java/util/ArrayList" "size" "I" (.int 0) := D4 (Or.inl (w_62 hw)) (ty := .int) (by decide)
  have f7 := P0.ext E4
  obtain ⟨_, _, ⟨T6, L6, k6, n6⟩, -, X6, ⟨Lc6, hQ6, l6, y6, z6⟩, st6⟩ := X4.specialBack hx (y := m_7) rfl hown (mvT hZ (w_29 hw)) (mvT hZ (w_30 hw)) (mvT hZ (w_31 hw)) (by decide) (backOf (W := 1) (rm_ali l Z a0 hw [] b4 dc h4 n0 (by omega) f7 P1 A4 F4_46 F4_62 F4_49 (by omega)) hZ (w_31 hw) (w_28 hw) (Nat.le_trans (by decide) hFr) (Nat.le_trans (by decide) hLo)) (g := (mkF m 156 #[.val (.long p0), .second, .val (.long p1), .second, .val (.long p2), .second, vI p3, vI p4, .val (.int (p3 &&& (3 : Int32))), vA nm, vA ot, vA lu, vA lf, vA l2, vA l3, .unset, .unset, .unset, .unset, .unset] [(.ref b4), (.ref b4)])) rfl (by rw [hml]; rfl) (Steps.refl _) (a := b4) (argsL := []) (rest := [(.ref b4)]) (lenOf pd_3 rfl) rfl (Nat.le_of_eq rfl) (hb hby at_156) (fun _ _ => ⟨rfl, e4, (by show cells + 1 + 0 ≤ _; omega), (by show slots + 3 + 0 ≤ _; omega)⟩)
  dsimp only [Pt.U, Pt.locs, Pt.cells, Pt.slots] at X6 l6 y6 z6 st6 hQ6
  rw [l6, y6, z6] at X6
  obtain ⟨rfl, Nq6, Kq6, r6_0, r6_1, r6_2, r6_3⟩ := hQ6
  have N6 := Fr.app N0 Nq6
  have z6' := Kq6.1
  have K6 := K4.trans Kq6 (allS (Or.inr (by omega)) all0)
  have lt8 := own_l r6_0.lt
  have lt9 := own_l r6_1.lt
  have lt10 := own_l r6_2.lt
  have lt11 := own_l r6_3.lt
  replace X6 : Stand p l e R s m args below meth c T6 _ (cells + 1) (slots + 3) := X6
  have f13 := f7.keep Kq6 (allS (by omega) all0)
  have f14 := P2.ext E4
  have f15 := f14.keep Kq6 (ninS (own_ne (by omega)) nin0)
  have f16 := P4.ext E4
  have f17 := f16.keep Kq6
  obtain ⟨cq12, kq12, qa12, qb12, qc12⟩ := isOf hZ rfl r6_0
  obtain ⟨_, _, ⟨T12, L12, k12, n12⟩, -, X12, ⟨Lc12, hQ12, l12, y12, z12⟩, st12⟩ := X6.interfaceBack hx (xi := m_55) (y := m_12) (C := "java/util/ArrayList") hown (mvT hZ (w_50 hw)) (mvT hZ (w_51 hw)) (mvT hZ (w_52 hw)) (mvT hZ (w_53 hw)) (mvT hZ (w_54 hw)) (mvT hZ (w_55 hw)) (mvT hZ (w_56 hw)) (mvT hZ (w_57 hw)) (by decide) (backOf (W := 0) (rm_add0 l Z a0 hw [] b4 ot ((0 : Int32)) dc kd T6.heap n0 (by omega) f13 P1 r6_0 r6_1 r6_2 r6_3 f15 (by omega) (own_ne (by omega)) f17) hZ (w_58 hw) (w_28 hw) (Nat.le_trans (by decide) hFr) (Nat.le_trans (by decide) hLo)) qa12 qb12 qc12 (g := (mkF m 173 #[.val (.long p0), .second, .val (.long p1), .second, .val (.long p2), .second, vI p3, vI p4, .val (.int (p3 &&& (3 : Int32))), vA nm, vA ot, vA lu, vA lf, vA l2, vA l3, vA b4, .unset, .unset, .unset, .unset] [(.ref ot), (.ref b4)])) rfl (by rw [hml]; rfl) (Steps.refl _) (argsL := [(.ref ot)]) (rest := []) (lenOf pd_23 rfl) rfl (Nat.le_of_eq rfl) (hb hby at_173) (fun _ _ => ⟨rfl, rfl, (by show cells + 1 + 1 ≤ _; omega), (by show slots + 3 + 10 ≤ _; omega)⟩)
  dsimp only [Pt.U, Pt.locs, Pt.cells, Pt.slots] at X12 l12 y12 z12 st12 hQ12
  rw [l12, y12, z12] at X12
  obtain ⟨x12_b, x12_k, rfl, Nq12, Kq12, r12_0, r12_1, r12_2, r12_3, r12_4, r12_5, r12_6, r12_7⟩ := hQ12
  have N12 := Fr.app N6 Nq12
  have z12' := Kq12.1
  have K12 := K6.trans Kq12 (allS (Or.inr (by omega)) all0)
  have lt18 := own_l r12_1.lt
  have lt19 := own_l r12_2.lt
  have lt20 := own_l r12_3.lt
  have lt21 := own_l r12_4.lt
  have lt22 := own_l r12_5.lt
  have lt23 := own_l r12_7.lt
  replace X12 : Stand p l e R s m args below meth c T12 _ (cells + 2) (slots + 13) := X12
  refine ⟨_, _, _, b4, x12_b, x12_k, (1 : Int32), (10 : Int32), [(.ref ot), .null, .null, .null, .null, .null, .null, .null, .null, .null], X12.more (by omega) (by omega), rfl, N12, K12, (by omega), r12_1, r12_3, r12_4, r12_5, r12_7, (Or.inr ⟨rfl, rfl, rfl⟩), fun target hk => ?_⟩
  show Steps _ _ _ (T.setTop (mkF m 152 #[.val (.long p0), .second, .val (.long p1), .second, .val (.long p2), .second, vI p3, vI p4, .val (.int (p3 &&& (3 : Int32))), vA nm, vA ot, vA lu, vA lf, vA l2, vA l3, .unset, .unset, .unset, .unset, .unset] [])) _
  refine st4 _ ?_
  show Steps _ _ _ (T4.setTop (mkF m 155 #[.val (.long p0), .second, .val (.long p1), .second, .val (.long p2), .second, vI p3, vI p4, .val (.int (p3 &&& (3 : Int32))), vA nm, vA ot, vA lu, vA lf, vA l2, vA l3, .unset, .unset, .unset, .unset, .unset] [(.ref b4)])) _
  refine XS.dup X4.here hx rfl (hb hby at_155) rfl rfl ?_
  refine st6.trans ?_
  show Steps _ _ _ (T6.setTop (mkF m 159 #[.val (.long p0), .second, .val (.long p1), .second, .val (.long p2), .second, vI p3, vI p4, .val (.int (p3 &&& (3 : Int32))), vA nm, vA ot, vA lu, vA lf, vA l2, vA l3, .unset, .unset, .unset, .unset, .unset] [(.ref b4)])) _
  refine XS.astore X6.here hx rfl (hb hby at_159) rfl rfl (l' := #[.val (.long p0), .second, .val (.long p1), .second, .val (.long p2), .second, vI p3, vI p4, .val (.int (p3 &&& (3 : Int32))), vA nm, vA ot, vA lu, vA lf, vA l2, vA l3, vA b4, .unset, .unset, .unset, .unset]) rfl ?_
  refine XS.iload X6.here hx rfl (hb hby at_161) rfl ?_
  refine XS.bipush X6.here hx rfl (hb hby at_163) ?_
  refine XS.iand X6.here hx rfl (hb hby at_165) rfl ?_
  refine XS.ifNo X6.here hx rfl (hb hby at_166) rfl ((if0 _ _).trans (feq (hc166 : ¬ ((p3 &&& (16 : Int32)) = (0 : Int32)))).1) ?_
  refine XS.aload X6.here hx rfl (hb hby at_169) rfl rfl ?_
  refine XS.aload X6.here hx rfl (hb hby at_171) rfl rfl ?_
  refine st12.trans ?_
  show Steps _ _ _ (T12.setTop (mkF m 178 #[.val (.long p0), .second, .val (.long p1), .second, .val (.long p2), .second, vI p3, vI p4, .val (.int (p3 &&& (3 : Int32))), vA nm, vA ot, vA lu, vA lf, vA l2, vA l3, vA b4, .unset, .unset, .unset, .unset] [(.int 1)])) _
  refine XS.pop X12.here hx rfl (hb hby at_178) rfl rfl ?_
  exact hk
theorem pz_dfr {p : Program} {l : Launch} {e : Env} {R : Room} {s : State} {m : MethodId} {args : Array Value} {below : List Frame} {meth : Method} {c : Code} {T : State} {locs : List Loc} {cells slots : Nat} {Z : State} {a0 : Array Value} (X0 : Stand p l e R s m args below meth c T locs cells slots) (hx : p.tables.exec = Jvm.exec) (hw : HW Z a0) (hZ : Z.Warmed39 s.vm) (hown : s.vm.findClass "com/example/ratify/ratify/recovery/RecoveryReportCompletePinLaw" = some m.cls) (hby : c.code = code) (hml : c.maxLocals = 20) (p0 : Int64) (p1 : Int64) (p2 : Int64) (p3 : Int32) (p4 : Int32) (nm : Addr) (ot : Addr) (lu : Addr) (lf : Addr) (l2 : Addr) (l3 : Addr) (dc : Addr) (kd : ClassId) {h0 : Heap} {n0 : Nat} (e0 : T.heap = h0) (N0 : Fr n0 locs) (Z0 : n0 ≤ h0.size) (P0 : Old Z n0 h0) (P1 : sta1 Z (.ref dc)) (P2 : Arv Z h0 dc kd (.object "java/lang/Object") (0 : Int32) [] .null) (P3 : Exa Z h0 dc "[Ljava/lang/Object;") (P4 : Exa Z h0 ot "java/lang/String") (hFr : 5 ≤ R.frames) (hLo : 69 ≤ R.locals) (hCe : cells + 2 ≤ R.cells) (hSl : slots + 13 ≤ R.slots) :
    ∃ (T' : State) (h' : Heap) (locs' : List Loc) (l4 : Addr) (v4 : Addr) (kv4 : ClassId) (sn4 : Int32) (sN4 : Int32) (vs4 : List Value), Stand p l e R s m args below meth c T' locs' (cells + 2) (slots + 13) ∧ T'.heap = h' ∧ Fr n0 locs' ∧ Keep h0 h' [] ∧ (h0.size ≤ l4) ∧ (Exa Z h' l4 "java/util/ArrayList") ∧ (fld2 Z h' l4 (.int sn4)) ∧ (fld3 Z h' l4 (.ref v4)) ∧ (Exa Z h' v4 "[Ljava/lang/Object;") ∧ (Arv Z h' v4 kv4 (.object "java/lang/Object") sN4 vs4 .null) ∧ (LS1 sn4 sN4 vs4 ot) ∧ ∀ target, Steps p.tables e below (T'.setTop (mkF m 179 #[.val (.long p0), .second, .val (.long p1), .second, .val (.long p2), .second, vI p3, vI p4, .val (.int (p3 &&& (3 : Int32))), vA nm, vA ot, vA lu, vA lf, vA l2, vA l3, vA l4, .unset, .unset, .unset, .unset] [])) target → Steps p.tables e below (T.setTop (mkF m 152 #[.val (.long p0), .second, .val (.long p1), .second, .val (.long p2), .second, vI p3, vI p4, .val (.int (p3 &&& (3 : Int32))), vA nm, vA ot, vA lu, vA lf, vA l2, vA l3, .unset, .unset, .unset, .unset, .unset] [])) target := by
  by_cases q : (p3 &&& (16 : Int32)) = (0 : Int32)
  · exact pz_dfr_n X0 hx hw hZ hown hby hml p0 p1 p2 p3 p4 nm ot lu lf l2 l3 dc kd e0 N0 Z0 P0 P1 P2 P3 P4 q hFr hLo hCe hSl
  · exact pz_dfr_y X0 hx hw hZ hown hby hml p0 p1 p2 p3 p4 nm ot lu lf l2 l3 dc kd e0 N0 Z0 P0 P1 P2 P3 P4 q hFr hLo hCe hSl
theorem pz_dcd_n {p : Program} {l : Launch} {e : Env} {R : Room} {s : State} {m : MethodId} {args : Array Value} {below : List Frame} {meth : Method} {c : Code} {T : State} {locs : List Loc} {cells slots : Nat} {Z : State} {a0 : Array Value} (X0 : Stand p l e R s m args below meth c T locs cells slots) (hx : p.tables.exec = Jvm.exec) (hw : HW Z a0) (hZ : Z.Warmed39 s.vm) (hown : s.vm.findClass "com/example/ratify/ratify/recovery/RecoveryReportCompletePinLaw" = some m.cls) (hby : c.code = code) (hml : c.maxLocals = 20) (p0 : Int64) (p1 : Int64) (p2 : Int64) (p3 : Int32) (p4 : Int32) (nm : Addr) (ot : Addr) (lu : Addr) (lf : Addr) (l2 : Addr) (l3 : Addr) (l4 : Addr) (dc : Addr) (kd : ClassId) {h0 : Heap} {n0 : Nat} (e0 : T.heap = h0) (N0 : Fr n0 locs) (Z0 : n0 ≤ h0.size) (P0 : Old Z n0 h0) (P1 : sta1 Z (.ref dc)) (P2 : Arv Z h0 dc kd (.object "java/lang/Object") (0 : Int32) [] .null) (P3 : Exa Z h0 dc "[Ljava/lang/Object;") (P4 : Exa Z h0 nm "java/lang/String") (hc193 : (p3 &&& (32 : Int32)) = (0 : Int32)) (hFr : 5 ≤ R.frames) (hLo : 69 ≤ R.locals) (hCe : cells + 2 ≤ R.cells) (hSl : slots + 13 ≤ R.slots) :
    ∃ (T' : State) (h' : Heap) (locs' : List Loc) (l5 : Addr) (v5 : Addr) (kv5 : ClassId) (sn5 : Int32) (sN5 : Int32) (vs5 : List Value), Stand p l e R s m args below meth c T' locs' (cells + 2) (slots + 13) ∧ T'.heap = h' ∧ Fr n0 locs' ∧ Keep h0 h' [] ∧ (h0.size ≤ l5) ∧ (Exa Z h' l5 "java/util/ArrayList") ∧ (fld2 Z h' l5 (.int sn5)) ∧ (fld3 Z h' l5 (.ref v5)) ∧ (Exa Z h' v5 "[Ljava/lang/Object;") ∧ (Arv Z h' v5 kv5 (.object "java/lang/Object") sN5 vs5 .null) ∧ (LS1 sn5 sN5 vs5 nm) ∧ ∀ target, Steps p.tables e below (T'.setTop (mkF m 206 #[.val (.long p0), .second, .val (.long p1), .second, .val (.long p2), .second, vI p3, vI p4, .val (.int (p3 &&& (3 : Int32))), vA nm, vA ot, vA lu, vA lf, vA l2, vA l3, vA l4, vA l5, .unset, .unset, .unset] [])) target → Steps p.tables e below (T.setTop (mkF m 179 #[.val (.long p0), .second, .val (.long p1), .second, .val (.long p2), .second, vI p3, vI p4, .val (.int (p3 &&& (3 : Int32))), vA nm, vA ot, vA lu, vA lf, vA l2, vA l3, vA l4, .unset, .unset, .unset, .unset] [])) target := by
  have K0 := Keep.refl h0 []
  have lt1 := own_l P2.lt
  have lt2 := own_l P3.lt
  have lt3 := own_l P4.lt
  obtain ⟨T4, h4, X4, e4, E4, A4, D4, -, st4⟩ := newO X0 hx hZ hown (w_26 hw) (w_27 hw) (w_28 hw) e0 (g := (mkF m 179 #[.val (.long p0), .second, .val (.long p1), .second, .val (.long p2), .second, vI p3, vI p4, .val (.int (p3 &&& (3 : Int32))), vA nm, vA ot, vA lu, vA lf, vA l2, vA l3, vA l4, .unset, .unset, .unset, .unset] [])) rfl (hb hby at_179) (by omega) (by omega)
  obtain ⟨b4, g4⟩ : ∃ z, z = h0.size := ⟨_, rfl⟩
  rw [← g4] at A4 D4 st4
  have z4 := E4.1
  have K4 := K0.ext E4
  replace X4 : Stand p l e R s m args below meth c T4 _ (cells + 1) (slots + 3) := X4
  have lt5 := own_l A4.lt
  have F4_46 : Fld Z h4 b4 "java/util/AbstractList" "modCount" "I" (.int 0) := D4 (Or.inl (w_46 hw)) (ty := .int) (by decide)
  have F4_49 : Fld Z h4 b4 "java/util/ArrayList" "elementData" "[Ljava/lang/Object;" .null := D4 (Or.inl (w_49 hw)) (ty := (.array (.object "java/lang/Object"))) (by decide)
  have F4_62 : Fld Z h4 b4 "java/util/ArrayList" "size" "I" (.int 0) := D4 (Or.inl (w_62 hw)) (ty := .int) (by decide)
  have f7 := P0.ext E4
  obtain ⟨_, _, ⟨T6, L6, k6, n6⟩, -, X6, ⟨Lc6, hQ6, l6, y6, z6⟩, st6⟩ := X4.specialBack hx (y := m_7) rfl hown (mvT hZ (w_29 hw)) (mvT hZ (w_30 hw)) (mvT hZ (w_31 hw)) (by decide) (backOf (W := 1) (rm_ali l Z a0 hw [] b4 dc h4 n0 (by omega) f7 P1 A4 F4_46 F4_62 F4_49 (by omega)) hZ (w_31 hw) (w_28 hw) (Nat.le_trans (by decide) hFr) (Nat.le_trans (by decide) hLo)) (g := (mkF m 183 #[.val (.long p0), .second, .val (.long p1), .second, .val (.long p2), .second, vI p3, vI p4, .val (.int (p3 &&& (3 : Int32))), vA nm, vA ot, vA lu, vA lf, vA l2, vA l3, vA l4, .unset, .unset, .unset, .unset] [(.ref b4), (.ref b4)])) rfl (by rw [hml]; rfl) (Steps.refl _) (a := b4) (argsL := []) (rest := [(.ref b4)]) (lenOf pd_3 rfl) rfl (Nat.le_of_eq rfl) (hb hby at_183) (fun _ _ => ⟨rfl, e4, (by show cells + 1 + 0 ≤ _; omega), (by show slots + 3 + 0 ≤ _; omega)⟩)
  dsimp only [Pt.U, Pt.locs, Pt.cells, Pt.slots] at X6 l6 y6 z6 st6 hQ6
  rw [l6, y6, z6] at X6
  obtain ⟨rfl, Nq6, Kq6, r6_0, r6_1, r6_2, r6_3⟩ := hQ6
  have N6 := Fr.app N0 Nq6
  have z6' := Kq6.1
  have K6 := K4.trans Kq6 (allS (Or.inr (by omega)) all0)
  have lt8 := own_l r6_0.lt
  have lt9 := own_l r6_1.lt
  have lt10 := own_l r6_2.lt
  have lt11 := own_l r6_3.lt
  replace X6 : Stand p l e R s m args below meth c T6 _ (cells + 1) (slots + 3) := X6
  have f12 := P3.ext E4
  have f13 := f12.keep Kq6
  have f14 := P2.ext E4
  have f15 := f14.keep Kq6 (ninS (own_ne (by omega)) nin0)
  refine ⟨_, _, _, b4, dc, kd, (0 : Int32), (0 : Int32), [], X6.more (by omega) (by omega), rfl, N6, K6, (by omega), r6_0, r6_2, r6_3, f13, f15, (Or.inl rfl), fun target hk => ?_⟩
  show Steps _ _ _ (T.setTop (mkF m 179 #[.val (.long p0), .second, .val (.long p1), .second, .val (.long p2), .second, vI p3, vI p4, .val (.int (p3 &&& (3 : Int32))), vA nm, vA ot, vA lu, vA lf, vA l2, vA l3, vA l4, .unset, .unset, .unset, .unset] [])) _
  refine st4 _ ?_
  show Steps _ _ _ (T4.setTop (mkF m 182 #[.val (.long p0), .second, .val (.long p1), .second, .val (.long p2), .second, vI p3, vI p4, .val (.int (p3 &&& (3 : Int32))), vA nm, vA ot, vA lu, vA lf, vA l2, vA l3, vA l4, .unset, .unset, .unset, .unset] [(.ref b4)])) _
  refine XS.dup X4.here hx rfl (hb hby at_182) rfl rfl ?_
  refine st6.trans ?_
  show Steps _ _ _ (T6.setTop (mkF m 186 #[.val (.long p0), .second, .val (.long p1), .second, .val (.long p2), .second, vI p3, vI p4, .val (.int (p3 &&& (3 : Int32))), vA nm, vA ot, vA lu, vA lf, vA l2, vA l3, vA l4, .unset, .unset, .unset, .unset] [(.ref b4)])) _
  refine XS.astore X6.here hx rfl (hb hby at_186) rfl rfl (l' := #[.val (.long p0), .second, .val (.long p1), .second, .val (.long p2), .second, vI p3, vI p4, .val (.int (p3 &&& (3 : Int32))), vA nm, vA ot, vA lu, vA lf, vA l2, vA l3, vA l4, vA b4, .unset, .unset, .unset]) rfl ?_
  refine XS.iload X6.here hx rfl (hb hby at_188) rfl ?_
  refine XS.bipush X6.here hx rfl (hb hby at_190) ?_
  refine XS.iand X6.here hx rfl (hb hby at_192) rfl ?_
  refine XS.ifYes X6.here hx rfl (pc0 := 193) (pc' := 206) rfl (hb hby at_193) rfl ((if0 _ _).trans (teq (hc193 : (p3 &&& (32 : Int32)) = (0 : Int32))).1) (by decide) (by decide) ?_
  exact hk
theorem pz_dcd_y {p : Program} {l : Launch} {e : Env} {R : Room} {s : State} {m : MethodId} {args : Array Value} {below : List Frame} {meth : Method} {c : Code} {T : State} {locs : List Loc} {cells slots : Nat} {Z : State} {a0 : Array Value} (X0 : Stand p l e R s m args below meth c T locs cells slots) (hx : p.tables.exec = Jvm.exec) (hw : HW Z a0) (hZ : Z.Warmed39 s.vm) (hown : s.vm.findClass "com/example/ratify/ratify/recovery/RecoveryReportCompletePinLaw" = some m.cls) (hby : c.code = code) (hml : c.maxLocals = 20) (p0 : Int64) (p1 : Int64) (p2 : Int64) (p3 : Int32) (p4 : Int32) (nm : Addr) (ot : Addr) (lu : Addr) (lf : Addr) (l2 : Addr) (l3 : Addr) (l4 : Addr) (dc : Addr) (kd : ClassId) {h0 : Heap} {n0 : Nat} (e0 : T.heap = h0) (N0 : Fr n0 locs) (Z0 : n0 ≤ h0.size) (P0 : Old Z n0 h0) (P1 : sta1 Z (.ref dc)) (P2 : Arv Z h0 dc kd (.object "java/lang/Object") (0 : Int32) [] .null) (P3 : Exa Z h0 dc "[Ljava/lang/Object;") (P4 : Exa Z h0 nm "java/lang/String") (hc193 : ¬ ((p3 &&& (32 : Int32)) = (0 : Int32))) (hFr : 5 ≤ R.frames) (hLo : 69 ≤ R.locals) (hCe : cells + 2 ≤ R.cells) (hSl : slots + 13 ≤ R.slots) :
    ∃ (T' : State) (h' : Heap) (locs' : List Loc) (l5 : Addr) (v5 : Addr) (kv5 : ClassId) (sn5 : Int32) (sN5 : Int32) (vs5 : List Value), Stand p l e R s m args below meth c T' locs' (cells + 2) (slots + 13) ∧ T'.heap = h' ∧ Fr n0 locs' ∧ Keep h0 h' [] ∧ (h0.size ≤ l5) ∧ (Exa Z h' l5 "java/util/ArrayList") ∧ (fld2 Z h' l5 (.int sn5)) ∧ (fld3 Z h' l5 (.ref v5)) ∧ (Exa Z h' v5 "[Ljava/lang/Object;") ∧ (Arv Z h' v5 kv5 (.object "java/lang/Object") sN5 vs5 .null) ∧ (LS1 sn5 sN5 vs5 nm) ∧ ∀ target, Steps p.tables e below (T'.setTop (mkF m 206 #[.val (.long p0), .second, .val (.long p1), .second, .val (.long p2), .second, vI p3, vI p4, .val (.int (p3 &&& (3 : Int32))), vA nm, vA ot, vA lu, vA lf, vA l2, vA l3, vA l4, vA l5, .unset, .unset, .unset] [])) target → Steps p.tables e below (T.setTop (mkF m 179 #[.val (.long p0), .second, .val (.long p1), .second, .val (.long p2), .second, vI p3, vI p4, .val (.int (p3 &&& (3 : Int32))), vA nm, vA ot, vA lu, vA lf, vA l2, vA l3, vA l4, .unset, .unset, .unset, .unset] [])) target := by
  have K0 := Keep.refl h0 []
  have lt1 := own_l P2.lt
  have lt2 := own_l P3.lt
  have lt3 := own_l P4.lt
  obtain ⟨T4, h4, X4, e4, E4, A4, D4, -, st4⟩ := newO X0 hx hZ hown (w_26 hw) (w_27 hw) (w_28 hw) e0 (g := (mkF m 179 #[.val (.long p0), .second, .val (.long p1), .second, .val (.long p2), .second, vI p3, vI p4, .val (.int (p3 &&& (3 : Int32))), vA nm, vA ot, vA lu, vA lf, vA l2, vA l3, vA l4, .unset, .unset, .unset, .unset] [])) rfl (hb hby at_179) (by omega) (by omega)
  obtain ⟨b4, g4⟩ : ∃ z, z = h0.size := ⟨_, rfl⟩
  rw [← g4] at A4 D4 st4
  have z4 := E4.1
  have K4 := K0.ext E4
  replace X4 : Stand p l e R s m args below meth c T4 _ (cells + 1) (slots + 3) := X4
  have lt5 := own_l A4.lt
  have F4_46 : Fld Z h4 b4 "java/util/AbstractList" "modCount" "I" (.int 0) := D4 (Or.inl (w_46 hw)) (ty := .int) (by decide)
  have F4_49 : Fld Z h4 b4 "java/util/ArrayList" "elementData" "[Ljava/lang/Object;" .null := D4 (Or.inl (w_49 hw)) (ty := (.array (.object "java/lang/Object"))) (by decide)
  have F4_62 : Fld Z h4 b4 "java/util/ArrayList" "size" "I" (.int 0) := D4 (Or.inl (w_62 hw)) (ty := .int) (by decide)
  have f7 := P0.ext E4
  obtain ⟨_, _, ⟨T6, L6, k6, n6⟩, -, X6, ⟨Lc6, hQ6, l6, y6, z6⟩, st6⟩ := X4.specialBack hx (y := m_7) rfl hown (mvT hZ (w_29 hw)) (mvT hZ (w_30 hw)) (mvT hZ (w_31 hw)) (by decide) (backOf (W := 1) (rm_ali l Z a0 hw [] b4 dc h4 n0 (by omega) f7 P1 A4 F4_46 F4_62 F4_49 (by omega)) hZ (w_31 hw) (w_28 hw) (Nat.le_trans (by decide) hFr) (Nat.le_trans (by decide) hLo)) (g := (mkF m 183 #[.val (.long p0), .second, .val (.long p1), .second, .val (.long p2), .second, vI p3, vI p4, .val (.int (p3 &&& (3 : Int32))), vA nm, vA ot, vA lu, vA lf, vA l2, vA l3, vA l4, .unset, .unset, .unset, .unset] [(.ref b4), (.ref b4)])) rfl (by rw [hml]; rfl) (Steps.refl _) (a := b4) (argsL := []) (rest := [(.ref b4)]) (lenOf pd_3 rfl) rfl (Nat.le_of_eq rfl) (hb hby at_183) (fun _ _ => ⟨rfl, e4, (by show cells + 1 + 0 ≤ _; omega), (by show slots + 3 + 0 ≤ _; omega)⟩)
  dsimp only [Pt.U, Pt.locs, Pt.cells, Pt.slots] at X6 l6 y6 z6 st6 hQ6
  rw [l6, y6, z6] at X6
  obtain ⟨rfl, Nq6, Kq6, r6_0, r6_1, r6_2, r6_3⟩ := hQ6
  have N6 := Fr.app N0 Nq6
  have z6' := Kq6.1
  have K6 := K4.trans Kq6 (allS (Or.inr (by omega)) all0)
  have lt8 := own_l r6_0.lt
  have lt9 := own_l r6_1.lt
  have lt10 := own_l r6_2.lt
  have lt11 := own_l r6_3.lt
  replace X6 : Stand p l e R s m args below meth c T6 _ (cells + 1) (slots + 3) := X6
  have f13 := f7.keep Kq6 (allS (by omega) all0)
  have f14 := P2.ext E4
  have f15 := f14.keep Kq6 (ninS (own_ne (by omega)) nin0)
  have f16 := P4.ext E4
  have f17 := f16.keep Kq6
  obtain ⟨cq12, kq12, qa12, qb12, qc12⟩ := isOf hZ rfl r6_0
  obtain ⟨_, _, ⟨T12, L12, k12, n12⟩, -, X12, ⟨Lc12, hQ12, l12, y12, z12⟩, st12⟩ := X6.interfaceBack hx (xi := m_55) (y := m_12) (C := "java/util/ArrayList") hown (mvT hZ (w_50 hw)) (mvT hZ (w_51 hw)) (mvT hZ (w_52 hw)) (mvT hZ (w_53 hw)) (mvT hZ (w_54 hw)) (mvT hZ (w_55 hw)) (mvT hZ (w_56 hw)) (mvT hZ (w_57 hw)) (by decide) (backOf (W := 0) (rm_add0 l Z a0 hw [] b4 nm ((0 : Int32)) dc kd T6.heap n0 (by omega) f13 P1 r6_0 r6_1 r6_2 r6_3 f15 (by omega) (own_ne (by omega)) f17) hZ (w_58 hw) (w_28 hw) (Nat.le_trans (by decide) hFr) (Nat.le_trans (by decide) hLo)) qa12 qb12 qc12 (g := (mkF m 200 #[.val (.long p0), .second, .val (.long p1), .second, .val (.long p2), .second, vI p3, vI p4, .val (.int (p3 &&& (3 : Int32))), vA nm, vA ot, vA lu, vA lf, vA l2, vA l3, vA l4, vA b4, .unset, .unset, .unset] [(.ref nm), (.ref b4)])) rfl (by rw [hml]; rfl) (Steps.refl _) (argsL := [(.ref nm)]) (rest := []) (lenOf pd_23 rfl) rfl (Nat.le_of_eq rfl) (hb hby at_200) (fun _ _ => ⟨rfl, rfl, (by show cells + 1 + 1 ≤ _; omega), (by show slots + 3 + 10 ≤ _; omega)⟩)
  dsimp only [Pt.U, Pt.locs, Pt.cells, Pt.slots] at X12 l12 y12 z12 st12 hQ12
  rw [l12, y12, z12] at X12
  obtain ⟨x12_b, x12_k, rfl, Nq12, Kq12, r12_0, r12_1, r12_2, r12_3, r12_4, r12_5, r12_6, r12_7⟩ := hQ12
  have N12 := Fr.app N6 Nq12
  have z12' := Kq12.1
  have K12 := K6.trans Kq12 (allS (Or.inr (by omega)) all0)
  have lt18 := own_l r12_1.lt
  have lt19 := own_l r12_2.lt
  have lt20 := own_l r12_3.lt
  have lt21 := own_l r12_4.lt
  have lt22 := own_l r12_5.lt
  have lt23 := own_l r12_7.lt
  replace X12 : Stand p l e R s m args below meth c T12 _ (cells + 2) (slots + 13) := X12
  refine ⟨_, _, _, b4, x12_b, x12_k, (1 : Int32), (10 : Int32), [(.ref nm), .null, .null, .null, .null, .null, .null, .null, .null, .null], X12.more (by omega) (by omega), rfl, N12, K12, (by omega), r12_1, r12_3, r12_4, r12_5, r12_7, (Or.inr ⟨rfl, rfl, rfl⟩), fun target hk => ?_⟩
  show Steps _ _ _ (T.setTop (mkF m 179 #[.val (.long p0), .second, .val (.long p1), .second, .val (.long p2), .second, vI p3, vI p4, .val (.int (p3 &&& (3 : Int32))), vA nm, vA ot, vA lu, vA lf, vA l2, vA l3, vA l4, .unset, .unset, .unset, .unset] [])) _
  refine st4 _ ?_
  show Steps _ _ _ (T4.setTop (mkF m 182 #[.val (.long p0), .second, .val (.long p1), .second, .val (.long p2), .second, vI p3, vI p4, .val (.int (p3 &&& (3 : Int32))), vA nm, vA ot, vA lu, vA lf, vA l2, vA l3, vA l4, .unset, .unset, .unset, .unset] [(.ref b4)])) _
  refine XS.dup X4.here hx rfl (hb hby at_182) rfl rfl ?_
  refine st6.trans ?_
  show Steps _ _ _ (T6.setTop (mkF m 186 #[.val (.long p0), .second, .val (.long p1), .second, .val (.long p2), .second, vI p3, vI p4, .val (.int (p3 &&& (3 : Int32))), vA nm, vA ot, vA lu, vA lf, vA l2, vA l3, vA l4, .unset, .unset, .unset, .unset] [(.ref b4)])) _
  refine XS.astore X6.here hx rfl (hb hby at_186) rfl rfl (l' := #[.val (.long p0), .second, .val (.long p1), .second, .val (.long p2), .second, vI p3, vI p4, .val (.int (p3 &&& (3 : Int32))), vA nm, vA ot, vA lu, vA lf, vA l2, vA l3, vA l4, vA b4, .unset, .unset, .unset]) rfl ?_
  refine XS.iload X6.here hx rfl (hb hby at_188) rfl ?_
  refine XS.bipush X6.here hx rfl (hb hby at_190) ?_
  refine XS.iand X6.here hx rfl (hb hby at_192) rfl ?_
  refine XS.ifNo X6.here hx rfl (hb hby at_193) rfl ((if0 _ _).trans (feq (hc193 : ¬ ((p3 &&& (32 : Int32)) = (0 : Int32)))).1) ?_
  refine XS.aload X6.here hx rfl (hb hby at_196) rfl rfl ?_
  refine XS.aload X6.here hx rfl (hb hby at_198) rfl rfl ?_
  refine st12.trans ?_
  show Steps _ _ _ (T12.setTop (mkF m 205 #[.val (.long p0), .second, .val (.long p1), .second, .val (.long p2), .second, vI p3, vI p4, .val (.int (p3 &&& (3 : Int32))), vA nm, vA ot, vA lu, vA lf, vA l2, vA l3, vA l4, vA b4, .unset, .unset, .unset] [(.int 1)])) _
  refine XS.pop X12.here hx rfl (hb hby at_205) rfl rfl ?_
  exact hk
theorem pz_dcd {p : Program} {l : Launch} {e : Env} {R : Room} {s : State} {m : MethodId} {args : Array Value} {below : List Frame} {meth : Method} {c : Code} {T : State} {locs : List Loc} {cells slots : Nat} {Z : State} {a0 : Array Value} (X0 : Stand p l e R s m args below meth c T locs cells slots) (hx : p.tables.exec = Jvm.exec) (hw : HW Z a0) (hZ : Z.Warmed39 s.vm) (hown : s.vm.findClass "com/example/ratify/ratify/recovery/RecoveryReportCompletePinLaw" = some m.cls) (hby : c.code = code) (hml : c.maxLocals = 20) (p0 : Int64) (p1 : Int64) (p2 : Int64) (p3 : Int32) (p4 : Int32) (nm : Addr) (ot : Addr) (lu : Addr) (lf : Addr) (l2 : Addr) (l3 : Addr) (l4 : Addr) (dc : Addr) (kd : ClassId) {h0 : Heap} {n0 : Nat} (e0 : T.heap = h0) (N0 : Fr n0 locs) (Z0 : n0 ≤ h0.size) (P0 : Old Z n0 h0) (P1 : sta1 Z (.ref dc)) (P2 : Arv Z h0 dc kd (.object "java/lang/Object") (0 : Int32) [] .null) (P3 : Exa Z h0 dc "[Ljava/lang/Object;") (P4 : Exa Z h0 nm "java/lang/String") (hFr : 5 ≤ R.frames) (hLo : 69 ≤ R.locals) (hCe : cells + 2 ≤ R.cells) (hSl : slots + 13 ≤ R.slots) :
    ∃ (T' : State) (h' : Heap) (locs' : List Loc) (l5 : Addr) (v5 : Addr) (kv5 : ClassId) (sn5 : Int32) (sN5 : Int32) (vs5 : List Value), Stand p l e R s m args below meth c T' locs' (cells + 2) (slots + 13) ∧ T'.heap = h' ∧ Fr n0 locs' ∧ Keep h0 h' [] ∧ (h0.size ≤ l5) ∧ (Exa Z h' l5 "java/util/ArrayList") ∧ (fld2 Z h' l5 (.int sn5)) ∧ (fld3 Z h' l5 (.ref v5)) ∧ (Exa Z h' v5 "[Ljava/lang/Object;") ∧ (Arv Z h' v5 kv5 (.object "java/lang/Object") sN5 vs5 .null) ∧ (LS1 sn5 sN5 vs5 nm) ∧ ∀ target, Steps p.tables e below (T'.setTop (mkF m 206 #[.val (.long p0), .second, .val (.long p1), .second, .val (.long p2), .second, vI p3, vI p4, .val (.int (p3 &&& (3 : Int32))), vA nm, vA ot, vA lu, vA lf, vA l2, vA l3, vA l4, vA l5, .unset, .unset, .unset] [])) target → Steps p.tables e below (T.setTop (mkF m 179 #[.val (.long p0), .second, .val (.long p1), .second, .val (.long p2), .second, vI p3, vI p4, .val (.int (p3 &&& (3 : Int32))), vA nm, vA ot, vA lu, vA lf, vA l2, vA l3, vA l4, .unset, .unset, .unset, .unset] [])) target := by
  by_cases q : (p3 &&& (32 : Int32)) = (0 : Int32)
  · exact pz_dcd_n X0 hx hw hZ hown hby hml p0 p1 p2 p3 p4 nm ot lu lf l2 l3 l4 dc kd e0 N0 Z0 P0 P1 P2 P3 P4 q hFr hLo hCe hSl
  · exact pz_dcd_y X0 hx hw hZ hown hby hml p0 p1 p2 p3 p4 nm ot lu lf l2 l3 l4 dc kd e0 N0 Z0 P0 P1 P2 P3 P4 q hFr hLo hCe hSl
theorem w_85 {Z : State} {a0 : Array Value} (hw : HW Z a0) : (Jvm.Cond.classLink "com/example/ratify/ratify/recovery/RecoveryReportCompletePinLaw" (22 : Nat) "java/util/HashMap").before a0 Z = true := hw _ (List.mem_of_getElem? (i := 85) rfl)
theorem w_88 {Z : State} {a0 : Array Value} (hw : HW Z a0) : (Jvm.Cond.methodLink "com/example/ratify/ratify/recovery/RecoveryReportCompletePinLaw" (24 : Nat) m_34).before a0 Z = true := hw _ (List.mem_of_getElem? (i := 88) rfl)
theorem pz_rest {p : Program} {l : Launch} {e : Env} {R : Room} {s : State} {m : MethodId} {args : Array Value} {below : List Frame} {meth : Method} {c : Code} {T : State} {locs : List Loc} {cells slots : Nat} {Z : State} {a0 : Array Value} (X0 : Stand p l e R s m args below meth c T locs cells slots) (hx : p.tables.exec = Jvm.exec) (hw : HW Z a0) (hZ : Z.Warmed39 s.vm) (hown : s.vm.findClass "com/example/ratify/ratify/recovery/RecoveryReportCompletePinLaw" = some m.cls) (hby : c.code = code) (hml : c.maxLocals = 20) (p0 : Int64) (p1 : Int64) (p2 : Int64) (p3 : Int32) (p4 : Int32) (nm : Addr) (ot : Addr) (lu : Addr) (dc : Addr) (kd : ClassId) {h0 : Heap} {n0 : Nat} (e0 : T.heap = h0) (N0 : Fr n0 locs) (Z0 : n0 ≤ h0.size) (P0 : Old Z n0 h0) (P1 : sta1 Z (.ref dc)) (P2 : Arv Z h0 dc kd (.object "java/lang/Object") (0 : Int32) [] .null) (P3 : Exa Z h0 dc "[Ljava/lang/Object;") (P4 : Exa Z h0 nm "java/lang/String") (P5 : Exa Z h0 ot "java/lang/String") (hFr : 5 ≤ R.frames) (hLo : 69 ≤ R.locals) (hCe : cells + 10 ≤ R.cells) (hSl : slots + 63 ≤ R.slots) :
    ∃ (T' : State) (h' : Heap) (locs' : List Loc) (lf : Addr) (l2 : Addr) (v2 : Addr) (kv2 : ClassId) (sn2 : Int32) (sN2 : Int32) (vs2 : List Value) (l3 : Addr) (v3 : Addr) (kv3 : ClassId) (sn3 : Int32) (sN3 : Int32) (vs3 : List Value) (l4 : Addr) (v4 : Addr) (kv4 : ClassId) (sn4 : Int32) (sN4 : Int32) (vs4 : List Value) (l5 : Addr) (v5 : Addr) (kv5 : ClassId) (sn5 : Int32) (sN5 : Int32) (vs5 : List Value) (mp : Addr), Stand p l e R s m args below meth c T' locs' (cells + 10) (slots + 63) ∧ T'.heap = h' ∧ Fr n0 locs' ∧ Keep h0 h' [] ∧ (Exa Z h' lf "java/util/ArrayList") ∧ (fld2 Z h' lf (.int 0)) ∧ (Exa Z h' l2 "java/util/ArrayList") ∧ (fld2 Z h' l2 (.int sn2)) ∧ (fld3 Z h' l2 (.ref v2)) ∧ (Exa Z h' v2 "[Ljava/lang/Object;") ∧ (Arv Z h' v2 kv2 (.object "java/lang/Object") sN2 vs2 .null) ∧ (Exa Z h' l3 "java/util/ArrayList") ∧ (fld2 Z h' l3 (.int sn3)) ∧ (fld3 Z h' l3 (.ref v3)) ∧ (Exa Z h' v3 "[Ljava/lang/Object;") ∧ (Arv Z h' v3 kv3 (.object "java/lang/Object") sN3 vs3 .null) ∧ (Exa Z h' l4 "java/util/ArrayList") ∧ (fld2 Z h' l4 (.int sn4)) ∧ (fld3 Z h' l4 (.ref v4)) ∧ (Exa Z h' v4 "[Ljava/lang/Object;") ∧ (Arv Z h' v4 kv4 (.object "java/lang/Object") sN4 vs4 .null) ∧ (Exa Z h' l5 "java/util/ArrayList") ∧ (fld2 Z h' l5 (.int sn5)) ∧ (fld3 Z h' l5 (.ref v5)) ∧ (Exa Z h' v5 "[Ljava/lang/Object;") ∧ (Arv Z h' v5 kv5 (.object "java/lang/Object") sN5 vs5 .null) ∧ (LS1 sn2 sN2 vs2 ot) ∧ (LS1 sn3 sN3 vs3 nm) ∧ (LS1 sn4 sN4 vs4 ot) ∧ (LS1 sn5 sN5 vs5 nm) ∧ (Exa Z h' mp "java/util/HashMap") ∧ (fld5 Z h' mp .null) ∧ (fld6 Z h' mp (.int 0)) ∧ (fld7 Z h' mp .null) ∧ (h0.size ≤ mp) ∧ (l3 ≠ mp) ∧ (v3 ≠ mp) ∧ (l4 ≠ mp) ∧ (v4 ≠ mp) ∧ (l5 ≠ mp) ∧ (v5 ≠ mp) ∧ ∀ target, Steps p.tables e below (T'.setTop (mkF m 215 #[.val (.long p0), .second, .val (.long p1), .second, .val (.long p2), .second, vI p3, vI p4, .val (.int (p3 &&& (3 : Int32))), vA nm, vA ot, vA lu, vA lf, vA l2, vA l3, vA l4, vA l5, vA mp, .unset, .unset] [])) target → Steps p.tables e below (T.setTop (mkF m 90 #[.val (.long p0), .second, .val (.long p1), .second, .val (.long p2), .second, vI p3, vI p4, .val (.int (p3 &&& (3 : Int32))), vA nm, vA ot, vA lu, .unset, .unset, .unset, .unset, .unset, .unset, .unset, .unset] [])) target := by
  have K0 := Keep.refl h0 []
  have lt1 := own_l P2.lt
  have lt2 := own_l P3.lt
  have lt3 := own_l P4.lt
  have lt4 := own_l P5.lt
  obtain ⟨T5, h5, X5, e5, E5, A5, D5, -, st5⟩ := newO X0 hx hZ hown (w_26 hw) (w_27 hw) (w_28 hw) e0 (g := (mkF m 90 #[.val (.long p0), .second, .val (.long p1), .second, .val (.long p2), .second, vI p3, vI p4, .val (.int (p3 &&& (3 : Int32))), vA nm, vA ot, vA lu, .unset, .unset, .unset, .unset, .unset, .unset, .unset, .unset] [])) rfl (hb hby at_90) (by omega) (by omega)
  obtain ⟨b5, g5⟩ : ∃ z, z = h0.size := ⟨_, rfl⟩
  rw [← g5] at A5 D5 st5
  have z5 := E5.1
  have K5 := K0.ext E5
  replace X5 : Stand p l e R s m args below meth c T5 _ (cells + 1) (slots + 3) := X5
  have lt6 := own_l A5.lt
  have F5_46 : Fld Z h5 b5 "java/util/AbstractList" "modCount" "I" (.int 0) := D5 (Or.inl (w_46 hw)) (ty := .int) (by decide)
  have F5_49 : Fld Z h5 b5 "java/util/ArrayList" "elementData" "[Ljava/lang/Object;" .null := D5 (Or.inl (w_49 hw)) (ty := (.array (.object "java/lang/Object"))) (by decide)
  have F5_62 : Fld Z h5 b5 "java/util/ArrayList" "size" "I" (.int 0) := D5 (Or.inl (w_62 hw)) (ty := .int) (by decide)
  have f8 := P0.ext E5
  obtain ⟨_, _, ⟨T7, L7, k7, n7⟩, -, X7, ⟨Lc7, hQ7, l7, y7, z7⟩, st7⟩ := X5.specialBack hx (y := m_7) rfl hown (mvT hZ (w_29 hw)) (mvT hZ (w_30 hw)) (mvT hZ (w_31 hw)) (by decide) (backOf (W := 1) (rm_ali l Z a0 hw [] b5 dc h5 n0 (by omega) f8 P1 A5 F5_46 F5_62 F5_49 (by omega)) hZ (w_31 hw) (w_28 hw) (Nat.le_trans (by decide) hFr) (Nat.le_trans (by decide) hLo)) (g := (mkF m 94 #[.val (.long p0), .second, .val (.long p1), .second, .val (.long p2), .second, vI p3, vI p4, .val (.int (p3 &&& (3 : Int32))), vA nm, vA ot, vA lu, .unset, .unset, .unset, .unset, .unset, .unset, .unset, .unset] [(.ref b5), (.ref b5)])) rfl (by rw [hml]; rfl) (Steps.refl _) (a := b5) (argsL := []) (rest := [(.ref b5)]) (lenOf pd_3 rfl) rfl (Nat.le_of_eq rfl) (hb hby at_94) (fun _ _ => ⟨rfl, e5, (by show cells + 1 + 0 ≤ _; omega), (by show slots + 3 + 0 ≤ _; omega)⟩)
  dsimp only [Pt.U, Pt.locs, Pt.cells, Pt.slots] at X7 l7 y7 z7 st7 hQ7
  rw [l7, y7, z7] at X7
  obtain ⟨rfl, Nq7, Kq7, r7_0, r7_1, r7_2, r7_3⟩ := hQ7
  have N7 := Fr.app N0 Nq7
  have z7' := Kq7.1
  have K7 := K5.trans Kq7 (allS (Or.inr (by omega)) all0)
  have lt9 := own_l r7_0.lt
  have lt10 := own_l r7_1.lt
  have lt11 := own_l r7_2.lt
  have lt12 := own_l r7_3.lt
  replace X7 : Stand p l e R s m args below meth c T7 _ (cells + 1) (slots + 3) := X7
  have f13 := f8.keep Kq7 (allS (by omega) all0)
  have f14 := P2.ext E5
  have f15 := f14.keep Kq7 (ninS (own_ne (by omega)) nin0)
  have f16 := P3.ext E5
  have f17 := f16.keep Kq7
  have f18 := P5.ext E5
  have f19 := f18.keep Kq7
  obtain ⟨T20, h20, L20, x20_l2, x20_v2, x20_kv2, x20_sn2, x20_sN2, x20_vs2, X20, e20, N20, Kq20, r20_0, r20_1, r20_2, r20_3, r20_4, r20_5, r20_6, st20⟩ := pz_fin X7 hx hw hZ hown hby hml p0 p1 p2 p3 p4 nm ot lu b5 dc kd rfl N7 (by omega) f13 P1 f15 f17 f19 (Nat.le_trans (by decide) hFr) (Nat.le_trans (by decide) hLo) (by omega) (by omega)
  have z20' := Kq20.1
  have K20 := K7.trans Kq20 all0
  replace X20 : Stand p l e R s m args below meth c T20 _ (cells + 3) (slots + 16) := X20
  have lt21 := own_l r20_1.lt
  have lt22 := own_l r20_2.lt
  have lt23 := own_l r20_3.lt
  have lt24 := own_l r20_4.lt
  have lt25 := own_l r20_5.lt
  have f26 := f13.keep Kq20 all0
  have f27 := f15.keep Kq20 nin0
  have f28 := f17.keep Kq20
  have f29 := P4.ext E5
  have f30 := f29.keep Kq7
  have f31 := f30.keep Kq20
  obtain ⟨T32, h32, L32, x32_l3, x32_v3, x32_kv3, x32_sn3, x32_sN3, x32_vs3, X32, e32, N32, Kq32, r32_0, r32_1, r32_2, r32_3, r32_4, r32_5, r32_6, st32⟩ := pz_wai X20 hx hw hZ hown hby hml p0 p1 p2 p3 p4 nm ot lu b5 x20_l2 dc kd e20 N20 (by omega) f26 P1 f27 f28 f31 (Nat.le_trans (by decide) hFr) (Nat.le_trans (by decide) hLo) (by omega) (by omega)
  have z32' := Kq32.1
  have K32 := K20.trans Kq32 all0
  replace X32 : Stand p l e R s m args below meth c T32 _ (cells + 5) (slots + 29) := X32
  have lt33 := own_l r32_1.lt
  have lt34 := own_l r32_2.lt
  have lt35 := own_l r32_3.lt
  have lt36 := own_l r32_4.lt
  have lt37 := own_l r32_5.lt
  have f38 := f26.keep Kq32 all0
  have f39 := f27.keep Kq32 nin0
  have f40 := f28.keep Kq32
  have f41 := f19.keep Kq20
  have f42 := f41.keep Kq32
  obtain ⟨T43, h43, L43, x43_l4, x43_v4, x43_kv4, x43_sn4, x43_sN4, x43_vs4, X43, e43, N43, Kq43, r43_0, r43_1, r43_2, r43_3, r43_4, r43_5, r43_6, st43⟩ := pz_dfr X32 hx hw hZ hown hby hml p0 p1 p2 p3 p4 nm ot lu b5 x20_l2 x32_l3 dc kd e32 N32 (by omega) f38 P1 f39 f40 f42 (Nat.le_trans (by decide) hFr) (Nat.le_trans (by decide) hLo) (by omega) (by omega)
  have z43' := Kq43.1
  have K43 := K32.trans Kq43 all0
  replace X43 : Stand p l e R s m args below meth c T43 _ (cells + 7) (slots + 42) := X43
  have lt44 := own_l r43_1.lt
  have lt45 := own_l r43_2.lt
  have lt46 := own_l r43_3.lt
  have lt47 := own_l r43_4.lt
  have lt48 := own_l r43_5.lt
  have f49 := f38.keep Kq43 all0
  have f50 := f39.keep Kq43 nin0
  have f51 := f40.keep Kq43
  have f52 := f31.keep Kq32
  have f53 := f52.keep Kq43
  obtain ⟨T54, h54, L54, x54_l5, x54_v5, x54_kv5, x54_sn5, x54_sN5, x54_vs5, X54, e54, N54, Kq54, r54_0, r54_1, r54_2, r54_3, r54_4, r54_5, r54_6, st54⟩ := pz_dcd X43 hx hw hZ hown hby hml p0 p1 p2 p3 p4 nm ot lu b5 x20_l2 x32_l3 x43_l4 dc kd e43 N43 (by omega) f49 P1 f50 f51 f53 (Nat.le_trans (by decide) hFr) (Nat.le_trans (by decide) hLo) (by omega) (by omega)
  have z54' := Kq54.1
  have K54 := K43.trans Kq54 all0
  replace X54 : Stand p l e R s m args below meth c T54 _ (cells + 9) (slots + 55) := X54
  have lt55 := own_l r54_1.lt
  have lt56 := own_l r54_2.lt
  have lt57 := own_l r54_3.lt
  have lt58 := own_l r54_4.lt
  have lt59 := own_l r54_5.lt
  obtain ⟨T60, h60, X60, e60, E60, A60, D60, -, st60⟩ := newO X54 hx hZ hown (w_85 hw) (w_86 hw) (w_87 hw) e54 (g := (mkF m 206 #[.val (.long p0), .second, .val (.long p1), .second, .val (.long p2), .second, vI p3, vI p4, .val (.int (p3 &&& (3 : Int32))), vA nm, vA ot, vA lu, vA b5, vA x20_l2, vA x32_l3, vA x43_l4, vA x54_l5, .unset, .unset, .unset] [])) rfl (hb hby at_206) (by omega) (by omega)
  obtain ⟨b60, g60⟩ : ∃ z, z = h54.size := ⟨_, rfl⟩
  rw [← g60] at A60 D60 st60
  have z60 := E60.1
  have K60 := K54.ext E60
  replace X60 : Stand p l e R s m args below meth c T60 _ (cells + 10) (slots + 63) := X60
  have lt61 := own_l A60.lt
  have F60_100 : Fld Z h60 b60 "java/util/HashMap" "loadFactor" "F" (.float 0) := D60 (Or.inr (w_100 hw)) (ty := .float) (by decide)
  have F60_227 : Fld Z h60 b60 "java/util/HashMap" "entrySet" "Ljava/util/Set;" .null := D60 (Or.inl (w_227 hw)) (ty := (.object "java/util/Set")) (by decide)
  have F60_271 : Fld Z h60 b60 "java/util/HashMap" "modCount" "I" (.int 0) := D60 (Or.inl (w_271 hw)) (ty := .int) (by decide)
  have F60_275 : Fld Z h60 b60 "java/util/HashMap" "table" "[Ljava/util/HashMap$Node;" .null := D60 (Or.inl (w_275 hw)) (ty := (.array (.object "java/util/HashMap$Node"))) (by decide)
  obtain ⟨_, _, ⟨T62, L62, k62, n62⟩, -, X62, ⟨Lc62, hQ62, l62, y62, z62⟩, st62⟩ := X60.specialBack hx (y := m_34) rfl hown (mvT hZ (w_88 hw)) (mvT hZ (w_89 hw)) (mvT hZ (w_90 hw)) (by decide) (backOf (W := 1) (rm_hmi l Z a0 hw [] b60 h60 n0 (by omega) A60 F60_100 F60_227 F60_271 F60_275 (by omega)) hZ (w_90 hw) (w_87 hw) (Nat.le_trans (by decide) hFr) (Nat.le_trans (by decide) hLo)) (g := (mkF m 210 #[.val (.long p0), .second, .val (.long p1), .second, .val (.long p2), .second, vI p3, vI p4, .val (.int (p3 &&& (3 : Int32))), vA nm, vA ot, vA lu, vA b5, vA x20_l2, vA x32_l3, vA x43_l4, vA x54_l5, .unset, .unset, .unset] [(.ref b60), (.ref b60)])) rfl (by rw [hml]; rfl) (Steps.refl _) (a := b60) (argsL := []) (rest := [(.ref b60)]) (lenOf pd_3 rfl) rfl (Nat.le_of_eq rfl) (hb hby at_210) (fun _ _ => ⟨rfl, e60, (by show cells + 10 + 0 ≤ _; omega), (by show slots + 63 + 0 ≤ _; omega)⟩)
  dsimp only [Pt.U, Pt.locs, Pt.cells, Pt.slots] at X62 l62 y62 z62 st62 hQ62
  rw [l62, y62, z62] at X62
  obtain ⟨rfl, Nq62, Kq62, r62_0, r62_1, r62_2, r62_3⟩ := hQ62
  have N62 := Fr.app N54 Nq62
  have z62' := Kq62.1
  have K62 := K60.trans Kq62 (allS (Or.inr (by omega)) all0)
  have lt63 := own_l r62_0.lt
  have lt64 := own_l r62_1.lt
  have lt65 := own_l r62_2.lt
  have lt66 := own_l r62_3.lt
  replace X62 : Stand p l e R s m args below meth c T62 _ (cells + 10) (slots + 63) := X62
  have f67 := r7_0.keep Kq20
  have f68 := f67.keep Kq32
  have f69 := f68.keep Kq43
  have f70 := f69.keep Kq54
  have f71 := f70.ext E60
  have f72 := f71.keep Kq62
  have f73 := r7_2.keep Kq20 nin0
  have f74 := f73.keep Kq32 nin0
  have f75 := f74.keep Kq43 nin0
  have f76 := f75.keep Kq54 nin0
  have f77 := f76.ext E60
  have f78 := f77.keep Kq62 (ninS (own_ne (by omega)) nin0)
  have f79 := r20_1.keep Kq32
  have f80 := f79.keep Kq43
  have f81 := f80.keep Kq54
  have f82 := f81.ext E60
  have f83 := f82.keep Kq62
  have f84 := r20_2.keep Kq32 nin0
  have f85 := f84.keep Kq43 nin0
  have f86 := f85.keep Kq54 nin0
  have f87 := f86.ext E60
  have f88 := f87.keep Kq62 (ninS (own_ne (by omega)) nin0)
  have f89 := r20_3.keep Kq32 nin0
  have f90 := f89.keep Kq43 nin0
  have f91 := f90.keep Kq54 nin0
  have f92 := f91.ext E60
  have f93 := f92.keep Kq62 (ninS (own_ne (by omega)) nin0)
  have f94 := r20_4.keep Kq32
  have f95 := f94.keep Kq43
  have f96 := f95.keep Kq54
  have f97 := f96.ext E60
  have f98 := f97.keep Kq62
  have f99 := r20_5.keep Kq32 nin0
  have f100 := f99.keep Kq43 nin0
  have f101 := f100.keep Kq54 nin0
  have f102 := f101.ext E60
  have f103 := f102.keep Kq62 (ninS (own_ne (by omega)) nin0)
  have f104 := r32_1.keep Kq43
  have f105 := f104.keep Kq54
  have f106 := f105.ext E60
  have f107 := f106.keep Kq62
  have f108 := r32_2.keep Kq43 nin0
  have f109 := f108.keep Kq54 nin0
  have f110 := f109.ext E60
  have f111 := f110.keep Kq62 (ninS (own_ne (by omega)) nin0)
  have f112 := r32_3.keep Kq43 nin0
  have f113 := f112.keep Kq54 nin0
  have f114 := f113.ext E60
  have f115 := f114.keep Kq62 (ninS (own_ne (by omega)) nin0)
  have f116 := r32_4.keep Kq43
  have f117 := f116.keep Kq54
  have f118 := f117.ext E60
  have f119 := f118.keep Kq62
  have f120 := r32_5.keep Kq43 nin0
  have f121 := f120.keep Kq54 nin0
  have f122 := f121.ext E60
  have f123 := f122.keep Kq62 (ninS (own_ne (by omega)) nin0)
  have f124 := r43_1.keep Kq54
  have f125 := f124.ext E60
  have f126 := f125.keep Kq62
  have f127 := r43_2.keep Kq54 nin0
  have f128 := f127.ext E60
  have f129 := f128.keep Kq62 (ninS (own_ne (by omega)) nin0)
  have f130 := r43_3.keep Kq54 nin0
  have f131 := f130.ext E60
  have f132 := f131.keep Kq62 (ninS (own_ne (by omega)) nin0)
  have f133 := r43_4.keep Kq54
  have f134 := f133.ext E60
  have f135 := f134.keep Kq62
  have f136 := r43_5.keep Kq54 nin0
  have f137 := f136.ext E60
  have f138 := f137.keep Kq62 (ninS (own_ne (by omega)) nin0)
  have f139 := r54_1.ext E60
  have f140 := f139.keep Kq62
  have f141 := r54_2.ext E60
  have f142 := f141.keep Kq62 (ninS (own_ne (by omega)) nin0)
  have f143 := r54_3.ext E60
  have f144 := f143.keep Kq62 (ninS (own_ne (by omega)) nin0)
  have f145 := r54_4.ext E60
  have f146 := f145.keep Kq62
  have f147 := r54_5.ext E60
  have f148 := f147.keep Kq62 (ninS (own_ne (by omega)) nin0)
  refine ⟨_, _, _, b5, x20_l2, x20_v2, x20_kv2, x20_sn2, x20_sN2, x20_vs2, x32_l3, x32_v3, x32_kv3, x32_sn3, x32_sN3, x32_vs3, x43_l4, x43_v4, x43_kv4, x43_sn4, x43_sN4, x43_vs4, x54_l5, x54_v5, x54_kv5, x54_sn5, x54_sN5, x54_vs5, b60, X62.more (by omega) (by omega), rfl, N62, K62, f72, f78, f83, f88, f93, f98, f103, f107, f111, f115, f119, f123, f126, f129, f132, f135, f138, f140, f142, f144, f146, f148, r20_6, r32_6, r43_6, r54_6, r62_0, r62_1, r62_2, r62_3, (by omega), (own_ne (by omega)), (own_ne (by omega)), (own_ne (by omega)), (own_ne (by omega)), (own_ne (by omega)), (own_ne (by omega)), fun target hk => ?_⟩
  show Steps _ _ _ (T.setTop (mkF m 90 #[.val (.long p0), .second, .val (.long p1), .second, .val (.long p2), .second, vI p3, vI p4, .val (.int (p3 &&& (3 : Int32))), vA nm, vA ot, vA lu, .unset, .unset, .unset, .unset, .unset, .unset, .unset, .unset] [])) _
  refine st5 _ ?_
  show Steps _ _ _ (T5.setTop (mkF m 93 #[.val (.long p0), .second, .val (.long p1), .second, .val (.long p2), .second, vI p3, vI p4, .val (.int (p3 &&& (3 : Int32))), vA nm, vA ot, vA lu, .unset, .unset, .unset, .unset, .unset, .unset, .unset, .unset] [(.ref b5)])) _
  refine XS.dup X5.here hx rfl (hb hby at_93) rfl rfl ?_
  refine st7.trans ?_
  show Steps _ _ _ (T7.setTop (mkF m 97 #[.val (.long p0), .second, .val (.long p1), .second, .val (.long p2), .second, vI p3, vI p4, .val (.int (p3 &&& (3 : Int32))), vA nm, vA ot, vA lu, .unset, .unset, .unset, .unset, .unset, .unset, .unset, .unset] [(.ref b5)])) _
  refine XS.astore X7.here hx rfl (hb hby at_97) rfl rfl (l' := #[.val (.long p0), .second, .val (.long p1), .second, .val (.long p2), .second, vI p3, vI p4, .val (.int (p3 &&& (3 : Int32))), vA nm, vA ot, vA lu, vA b5, .unset, .unset, .unset, .unset, .unset, .unset, .unset]) rfl ?_
  refine st20 _ ?_
  show Steps _ _ _ (T20.setTop (mkF m 125 #[.val (.long p0), .second, .val (.long p1), .second, .val (.long p2), .second, vI p3, vI p4, .val (.int (p3 &&& (3 : Int32))), vA nm, vA ot, vA lu, vA b5, vA x20_l2, .unset, .unset, .unset, .unset, .unset, .unset] [])) _
  refine st32 _ ?_
  show Steps _ _ _ (T32.setTop (mkF m 152 #[.val (.long p0), .second, .val (.long p1), .second, .val (.long p2), .second, vI p3, vI p4, .val (.int (p3 &&& (3 : Int32))), vA nm, vA ot, vA lu, vA b5, vA x20_l2, vA x32_l3, .unset, .unset, .unset, .unset, .unset] [])) _
  refine st43 _ ?_
  show Steps _ _ _ (T43.setTop (mkF m 179 #[.val (.long p0), .second, .val (.long p1), .second, .val (.long p2), .second, vI p3, vI p4, .val (.int (p3 &&& (3 : Int32))), vA nm, vA ot, vA lu, vA b5, vA x20_l2, vA x32_l3, vA x43_l4, .unset, .unset, .unset, .unset] [])) _
  refine st54 _ ?_
  show Steps _ _ _ (T54.setTop (mkF m 206 #[.val (.long p0), .second, .val (.long p1), .second, .val (.long p2), .second, vI p3, vI p4, .val (.int (p3 &&& (3 : Int32))), vA nm, vA ot, vA lu, vA b5, vA x20_l2, vA x32_l3, vA x43_l4, vA x54_l5, .unset, .unset, .unset] [])) _
  refine st60 _ ?_
  show Steps _ _ _ (T60.setTop (mkF m 209 #[.val (.long p0), .second, .val (.long p1), .second, .val (.long p2), .second, vI p3, vI p4, .val (.int (p3 &&& (3 : Int32))), vA nm, vA ot, vA lu, vA b5, vA x20_l2, vA x32_l3, vA x43_l4, vA x54_l5, .unset, .unset, .unset] [(.ref b60)])) _
  refine XS.dup X60.here hx rfl (hb hby at_209) rfl rfl ?_
  refine st62.trans ?_
  show Steps _ _ _ (T62.setTop (mkF m 213 #[.val (.long p0), .second, .val (.long p1), .second, .val (.long p2), .second, vI p3, vI p4, .val (.int (p3 &&& (3 : Int32))), vA nm, vA ot, vA lu, vA b5, vA x20_l2, vA x32_l3, vA x43_l4, vA x54_l5, .unset, .unset, .unset] [(.ref b60)])) _
  refine XS.astore X62.here hx rfl (hb hby at_213) rfl rfl (l' := #[.val (.long p0), .second, .val (.long p1), .second, .val (.long p2), .second, vI p3, vI p4, .val (.int (p3 &&& (3 : Int32))), vA nm, vA ot, vA lu, vA b5, vA x20_l2, vA x32_l3, vA x43_l4, vA x54_l5, vA b60, .unset, .unset]) rfl ?_
  exact hk
theorem pz_xz_y {p : Program} {l : Launch} {e : Env} {R : Room} {s : State} {m : MethodId} {args : Array Value} {below : List Frame} {meth : Method} {c : Code} {T : State} {locs : List Loc} {cells slots : Nat} {Z : State} {a0 : Array Value} (X0 : Stand p l e R s m args below meth c T locs cells slots) (hx : p.tables.exec = Jvm.exec) (hw : HW Z a0) (hZ : Z.Warmed39 s.vm) (hown : s.vm.findClass "com/example/ratify/ratify/recovery/RecoveryReportCompletePinLaw" = some m.cls) (hby : c.code = code) (hml : c.maxLocals = 20) (p0 : Int64) (p1 : Int64) (p2 : Int64) (p3 : Int32) (p4 : Int32) (nm : Addr) (ot : Addr) (lu : Addr) (lf : Addr) (l2 : Addr) (l3 : Addr) (l4 : Addr) (l5 : Addr) (mp : Addr) (rp : Addr) {h0 : Heap} {n0 : Nat} (e0 : T.heap = h0) (N0 : Fr n0 locs) (Z0 : n0 ≤ h0.size) (hz : ¬ ((p3 &&& (3 : Int32)) = (0 : Int32))) (hp : (lcmpW p2 (0 : Int64)) = (0 : Int32)) (hFr : 0 ≤ R.frames) (hLo : 0 ≤ R.locals) (hCe : cells + 0 ≤ R.cells) (hSl : slots + 0 ≤ R.slots) :
    ∃ (T' : State) (h' : Heap) (locs' : List Loc), Stand p l e R s m args below meth c T' locs' (cells + 0) (slots + 0) ∧ T'.heap = h' ∧ Fr n0 locs' ∧ Keep h0 h' [] ∧ ∀ target, Steps p.tables e below (T'.setTop (mkF m 260 #[.val (.long p0), .second, .val (.long p1), .second, .val (.long p2), .second, vI p3, vI p4, .val (.int (p3 &&& (3 : Int32))), vA nm, vA ot, vA lu, vA lf, vA l2, vA l3, vA l4, vA l5, vA mp, vA rp, vI 0] [])) target → Steps p.tables e below (T.setTop (mkF m 242 #[.val (.long p0), .second, .val (.long p1), .second, .val (.long p2), .second, vI p3, vI p4, .val (.int (p3 &&& (3 : Int32))), vA nm, vA ot, vA lu, vA lf, vA l2, vA l3, vA l4, vA l5, vA mp, vA rp, .unset] [])) target := by
  have K0 := Keep.refl h0 []
  refine ⟨_, _, _, X0.more (by omega) (by omega), e0, N0, K0, fun target hk => ?_⟩
  show Steps _ _ _ (T.setTop (mkF m 242 #[.val (.long p0), .second, .val (.long p1), .second, .val (.long p2), .second, vI p3, vI p4, .val (.int (p3 &&& (3 : Int32))), vA nm, vA ot, vA lu, vA lf, vA l2, vA l3, vA l4, vA l5, vA mp, vA rp, .unset] [])) _
  refine XS.iconst X0.here hx rfl (hb hby at_242) ?_
  refine XS.istore X0.here hx rfl (hb hby at_243) rfl (l' := #[.val (.long p0), .second, .val (.long p1), .second, .val (.long p2), .second, vI p3, vI p4, .val (.int (p3 &&& (3 : Int32))), vA nm, vA ot, vA lu, vA lf, vA l2, vA l3, vA l4, vA l5, vA mp, vA rp, vI 0]) rfl ?_
  refine XS.lload X0.here hx rfl (hb hby at_245) rfl ?_
  refine XS.lconst X0.here hx rfl (hb hby at_247) ?_
  refine XS.lcmp X0.here hx rfl (hb hby at_248) rfl ?_
  refine XS.ifNo X0.here hx rfl (hb hby at_249) rfl ((if0 _ _).trans (teq (hp : (lcmpW p2 (0 : Int64)) = (0 : Int32))).2) ?_
  refine XS.iload X0.here hx rfl (hb hby at_252) rfl ?_
  refine XS.ifYes X0.here hx rfl (pc0 := 254) (pc' := 260) rfl (hb hby at_254) rfl ((if0 _ _).trans (feq (hz : ¬ ((p3 &&& (3 : Int32)) = (0 : Int32)))).2) (by decide) (by decide) ?_
  exact hk
theorem pz_xz_n {p : Program} {l : Launch} {e : Env} {R : Room} {s : State} {m : MethodId} {args : Array Value} {below : List Frame} {meth : Method} {c : Code} {T : State} {locs : List Loc} {cells slots : Nat} {Z : State} {a0 : Array Value} (X0 : Stand p l e R s m args below meth c T locs cells slots) (hx : p.tables.exec = Jvm.exec) (hw : HW Z a0) (hZ : Z.Warmed39 s.vm) (hown : s.vm.findClass "com/example/ratify/ratify/recovery/RecoveryReportCompletePinLaw" = some m.cls) (hby : c.code = code) (hml : c.maxLocals = 20) (p0 : Int64) (p1 : Int64) (p2 : Int64) (p3 : Int32) (p4 : Int32) (nm : Addr) (ot : Addr) (lu : Addr) (lf : Addr) (l2 : Addr) (l3 : Addr) (l4 : Addr) (l5 : Addr) (mp : Addr) (rp : Addr) {h0 : Heap} {n0 : Nat} (e0 : T.heap = h0) (N0 : Fr n0 locs) (Z0 : n0 ≤ h0.size) (hz : ¬ ((p3 &&& (3 : Int32)) = (0 : Int32))) (hp : ¬ ((lcmpW p2 (0 : Int64)) = (0 : Int32))) (hFr : 0 ≤ R.frames) (hLo : 0 ≤ R.locals) (hCe : cells + 0 ≤ R.cells) (hSl : slots + 0 ≤ R.slots) :
    ∃ (T' : State) (h' : Heap) (locs' : List Loc), Stand p l e R s m args below meth c T' locs' (cells + 0) (slots + 0) ∧ T'.heap = h' ∧ Fr n0 locs' ∧ Keep h0 h' [] ∧ ∀ target, Steps p.tables e below (T'.setTop (mkF m 260 #[.val (.long p0), .second, .val (.long p1), .second, .val (.long p2), .second, vI p3, vI p4, .val (.int (p3 &&& (3 : Int32))), vA nm, vA ot, vA lu, vA lf, vA l2, vA l3, vA l4, vA l5, vA mp, vA rp, vI 0] [])) target → Steps p.tables e below (T.setTop (mkF m 242 #[.val (.long p0), .second, .val (.long p1), .second, .val (.long p2), .second, vI p3, vI p4, .val (.int (p3 &&& (3 : Int32))), vA nm, vA ot, vA lu, vA lf, vA l2, vA l3, vA l4, vA l5, vA mp, vA rp, .unset] [])) target := by
  have K0 := Keep.refl h0 []
  refine ⟨_, _, _, X0.more (by omega) (by omega), e0, N0, K0, fun target hk => ?_⟩
  show Steps _ _ _ (T.setTop (mkF m 242 #[.val (.long p0), .second, .val (.long p1), .second, .val (.long p2), .second, vI p3, vI p4, .val (.int (p3 &&& (3 : Int32))), vA nm, vA ot, vA lu, vA lf, vA l2, vA l3, vA l4, vA l5, vA mp, vA rp, .unset] [])) _
  refine XS.iconst X0.here hx rfl (hb hby at_242) ?_
  refine XS.istore X0.here hx rfl (hb hby at_243) rfl (l' := #[.val (.long p0), .second, .val (.long p1), .second, .val (.long p2), .second, vI p3, vI p4, .val (.int (p3 &&& (3 : Int32))), vA nm, vA ot, vA lu, vA lf, vA l2, vA l3, vA l4, vA l5, vA mp, vA rp, vI 0]) rfl ?_
  refine XS.lload X0.here hx rfl (hb hby at_245) rfl ?_
  refine XS.lconst X0.here hx rfl (hb hby at_247) ?_
  refine XS.lcmp X0.here hx rfl (hb hby at_248) rfl ?_
  refine XS.ifYes X0.here hx rfl (pc0 := 249) (pc' := 260) rfl (hb hby at_249) rfl ((if0 _ _).trans (feq (hp : ¬ ((lcmpW p2 (0 : Int64)) = (0 : Int32)))).2) (by decide) (by decide) ?_
  exact hk
theorem pz_xz {p : Program} {l : Launch} {e : Env} {R : Room} {s : State} {m : MethodId} {args : Array Value} {below : List Frame} {meth : Method} {c : Code} {T : State} {locs : List Loc} {cells slots : Nat} {Z : State} {a0 : Array Value} (X0 : Stand p l e R s m args below meth c T locs cells slots) (hx : p.tables.exec = Jvm.exec) (hw : HW Z a0) (hZ : Z.Warmed39 s.vm) (hown : s.vm.findClass "com/example/ratify/ratify/recovery/RecoveryReportCompletePinLaw" = some m.cls) (hby : c.code = code) (hml : c.maxLocals = 20) (p0 : Int64) (p1 : Int64) (p2 : Int64) (p3 : Int32) (p4 : Int32) (nm : Addr) (ot : Addr) (lu : Addr) (lf : Addr) (l2 : Addr) (l3 : Addr) (l4 : Addr) (l5 : Addr) (mp : Addr) (rp : Addr) {h0 : Heap} {n0 : Nat} (e0 : T.heap = h0) (N0 : Fr n0 locs) (Z0 : n0 ≤ h0.size) (hz : ¬ ((p3 &&& (3 : Int32)) = (0 : Int32))) (hFr : 0 ≤ R.frames) (hLo : 0 ≤ R.locals) (hCe : cells + 0 ≤ R.cells) (hSl : slots + 0 ≤ R.slots) :
    ∃ (T' : State) (h' : Heap) (locs' : List Loc), Stand p l e R s m args below meth c T' locs' (cells + 0) (slots + 0) ∧ T'.heap = h' ∧ Fr n0 locs' ∧ Keep h0 h' [] ∧ ∀ target, Steps p.tables e below (T'.setTop (mkF m 260 #[.val (.long p0), .second, .val (.long p1), .second, .val (.long p2), .second, vI p3, vI p4, .val (.int (p3 &&& (3 : Int32))), vA nm, vA ot, vA lu, vA lf, vA l2, vA l3, vA l4, vA l5, vA mp, vA rp, vI 0] [])) target → Steps p.tables e below (T.setTop (mkF m 242 #[.val (.long p0), .second, .val (.long p1), .second, .val (.long p2), .second, vI p3, vI p4, .val (.int (p3 &&& (3 : Int32))), vA nm, vA ot, vA lu, vA lf, vA l2, vA l3, vA l4, vA l5, vA mp, vA rp, .unset] [])) target := by
  by_cases q : (lcmpW p2 (0 : Int64)) = (0 : Int32)
  · exact pz_xz_y X0 hx hw hZ hown hby hml p0 p1 p2 p3 p4 nm ot lu lf l2 l3 l4 l5 mp rp e0 N0 Z0 hz q hFr hLo hCe hSl
  · exact pz_xz_n X0 hx hw hZ hown hby hml p0 p1 p2 p3 p4 nm ot lu lf l2 l3 l4 l5 mp rp e0 N0 Z0 hz q hFr hLo hCe hSl
theorem w_0 {Z : State} {a0 : Array Value} (hw : HW Z a0) : (Jvm.Cond.methodLink "com/example/ratify/ratify/recovery/RecoveryReportCompletePinLaw" (7 : Nat) m_4).before a0 Z = true := hw _ (List.mem_of_getElem? (i := 0) rfl)
theorem w_3 {Z : State} {a0 : Array Value} (hw : HW Z a0) : (Jvm.Cond.code m_4 jdk_42_method_139_code (1 : Nat) (Option.some (FieldType.object "java/lang/String"))).before a0 Z = true := hw _ (List.mem_of_getElem? (i := 3) rfl)
theorem pd_24 : parseMethodDescriptor "(C)Ljava/lang/String;" = some ⟨[.char], some (.object "java/lang/String")⟩ := by decide +kernel
theorem w_1 {Z : State} {a0 : Array Value} (hw : HW Z a0) : (Jvm.Cond.static m_4).before a0 Z = true := hw _ (List.mem_of_getElem? (i := 1) rfl)
theorem w_101 {Z : State} {a0 : Array Value} (hw : HW Z a0) : (Jvm.Cond.classLink "com/example/ratify/ratify/recovery/RecoveryReportCompletePinLaw" (25 : Nat) "com/example/ratify/ratify/recovery/RecoveryReport").before a0 Z = true := hw _ (List.mem_of_getElem? (i := 101) rfl)
theorem w_103 {Z : State} {a0 : Array Value} (hw : HW Z a0) : (Jvm.Cond.initialized "com/example/ratify/ratify/recovery/RecoveryReport").before a0 Z = true := hw _ (List.mem_of_getElem? (i := 103) rfl)
theorem w_104 {Z : State} {a0 : Array Value} (hw : HW Z a0) : (Jvm.Cond.methodLink "com/example/ratify/ratify/recovery/RecoveryReportCompletePinLaw" (27 : Nat) m_50).before a0 Z = true := hw _ (List.mem_of_getElem? (i := 104) rfl)
theorem w_106 {Z : State} {a0 : Array Value} (hw : HW Z a0) : (Jvm.Cond.code m_50 prog_47_method_1_code (17 : Nat) (Option.none : Option Jvm.ClassFile.FieldType)).before a0 Z = true := hw _ (List.mem_of_getElem? (i := 106) rfl)
theorem pd_25 : parseMethodDescriptor "(JJJLjava/util/List;Ljava/util/List;Ljava/util/List;Ljava/util/Map;Ljava/util/List;Ljava/util/List;Ljava/util/List;)V" = some ⟨[.long, .long, .long, (.object "java/util/List"), (.object "java/util/List"), (.object "java/util/List"), (.object "java/util/Map"), (.object "java/util/List"), (.object "java/util/List"), (.object "java/util/List")], none⟩ := by decide +kernel
theorem w_105 {Z : State} {a0 : Array Value} (hw : HW Z a0) : (Jvm.Cond.instanceMethod m_50).before a0 Z = true := hw _ (List.mem_of_getElem? (i := 105) rfl)
theorem w_332 {Z : State} {a0 : Array Value} (hw : HW Z a0) : (Jvm.Cond.methodLink "com/example/ratify/ratify/recovery/RecoveryReportCompletePinLaw" (30 : Nat) m_53).before a0 Z = true := hw _ (List.mem_of_getElem? (i := 332) rfl)
theorem w_336 {Z : State} {a0 : Array Value} (hw : HW Z a0) : (Jvm.Cond.code m_53 prog_47_method_2_code (1 : Nat) (Option.some FieldType.boolean)).before a0 Z = true := hw _ (List.mem_of_getElem? (i := 336) rfl)
theorem w_335 {Z : State} {a0 : Array Value} (hw : HW Z a0) : (Jvm.Cond.selects "com/example/ratify/ratify/recovery/RecoveryReport" m_53 m_53).before a0 Z = true := hw _ (List.mem_of_getElem? (i := 335) rfl)
theorem w_333 {Z : State} {a0 : Array Value} (hw : HW Z a0) : (Jvm.Cond.declares m_53).before a0 Z = true := hw _ (List.mem_of_getElem? (i := 333) rfl)
theorem w_334 {Z : State} {a0 : Array Value} (hw : HW Z a0) : (Jvm.Cond.instanceMethod m_53).before a0 Z = true := hw _ (List.mem_of_getElem? (i := 334) rfl)
theorem pn_26 : plainName "com/example/ratify/ratify/recovery/RecoveryReportCompletePinLaw" = true := by first | (simp [plainName, overriddenIn]; done) | decide +kernel
theorem ef_15 (m : MethodId) (x0 : Int64) (x1 : Int64) (x2 : Int64) (x3 : Int32) (x4 : Int32) : entryFrame m #[(.long x0), (.long x1), (.long x2), (.int x3), (.int x4)] maxLocals = mkF m 0 #[.val (.long x0), .second, .val (.long x1), .second, .val (.long x2), .second, vI x3, vI x4, .unset, .unset, .unset, .unset, .unset, .unset, .unset, .unset, .unset, .unset, .unset, .unset] [] := by first | (simp [entryFrame, mkF, argsToLocals, Value.category, maxLocals]; done) | rfl
def Q_law (Z : State) (p0 : Int64) (p1 : Int64) (p2 : Int64) (p3 : Int32) (p4 : Int32) (cp : Int32) (dc : Addr) (kd : ClassId) (el : Addr) (em : Addr) (mo : Addr) (ml : Addr) (mu : Addr) (ee : Addr) (ke : ClassId) (h0 : Heap) (n0 : Nat) (v : Option Value) (h : Heap) (L : List Loc) : Prop := v = some (.int 1) ∧ Fr n0 L
theorem rm_law_01 (l : Launch) (Z : State) (a0 : Array Value) (hw : HW Z a0) (ws : List Jvm.Cond) (p0 : Int64) (p1 : Int64) (p2 : Int64) (p3 : Int32) (p4 : Int32) (cp : Int32) (dc : Addr) (kd : ClassId) (el : Addr) (em : Addr) (mo : Addr) (ml : Addr) (mu : Addr) (ee : Addr) (ke : ClassId) (h0 : Heap) (n0 : Nat) (Z0 : n0 ≤ h0.size) (P0 : Old Z n0 h0) (P1 : sta0 Z (.int cp)) (P2 : sta1 Z (.ref dc)) (P3 : Arv Z h0 dc kd (.object "java/lang/Object") (0 : Int32) [] .null) (P4 : Exa Z h0 dc "[Ljava/lang/Object;") (P5 : sta2 Z (.ref el)) (P6 : sta3 Z (.ref em)) (P7 : Mi Z "[Ljava/lang/Object;" mo) (P8 : Mi Z "java/util/LinkedHashMap" ml) (P9 : Mi Z "java/util/Collections$UnmodifiableMap" mu) (P10 : Exa Z h0 el "java/util/ImmutableCollections$ListN") (P11 : fld10 Z h0 el (.ref ee)) (P12 : Arv Z h0 ee ke (.object "java/lang/Object") (0 : Int32) [] .null) (hcs : ¬ (cp = (0 : Int32))) (h1 : (p3 &&& (3 : Int32)) < (1 : Int32)) (h2 : (p3 &&& (3 : Int32)) < (2 : Int32)) (h3 : (p3 &&& (3 : Int32)) < (3 : Int32)) (hz : (p3 &&& (3 : Int32)) = (0 : Int32)) (hp : (lcmpW p2 (0 : Int64)) = (0 : Int32)) :
    MetFree l x (head1 (Jvm.Cond.code x code maxLocals ret :: ws) room_1) (fun as' U => as' = #[(.long p0), (.long p1), (.long p2), (.int p3), (.int p4)] ∧ Z.Warmed39 U.vm ∧ U.heap = h0) (fun _ _ _ _ _ => True) (fun _ U o U' => ∃ v L, o = .returned v ∧ Q_law Z p0 p1 p2 p3 p4 cp dc kd el em mo ml mu ee ke h0 n0 v U'.heap L ∧ FrameEnd U o U' L room_1.cells room_1.slots) := by
  refine MetFree.of_bodySF (plainFor_of_name pn_26) hisR ?_
  intro p e s m args below meth c s₁ Bd hml0 hP hK
  have hK0 := hK
  obtain ⟨rfl, hZ, hh⟩ := hP
  have hx := Bd.exec
  have hby := Bd.bytes
  have hml : c.maxLocals = 20 := hml0
  have hown : s.vm.findClass "com/example/ratify/ratify/recovery/RecoveryReportCompletePinLaw" = some m.cls := findClass_of_methodNamed Bd.named
  have hnm := (name_of_methodNamed Bd.named Bd.method).1
  have X0 : Stand p l e room_1 s m #[(.long p0), (.long p1), (.long p2), (.int p3), (.int p4)] below meth c s₁ [] 0 0 := Stand.of_body Bd
  have e0 : s₁.heap = h0 := by rw [← hh, Bd.state]; rfl
  have N0 := Fr.nil n0
  have lt1 := own_l P3.lt
  have lt2 := own_l P4.lt
  have lt3 := own_l P10.lt
  have lt4 := own_l P11.lt
  have lt5 := own_l P12.lt
  obtain ⟨_, _, ⟨T6, L6, k6, n6⟩, -, X6, ⟨Lc6, hQ6, l6, y6, z6⟩, st6⟩ := Jvm.LawKit.callS X0 hx (y := m_4) hown (mvT hZ (w_0 hw)) (mvT hZ (w_1 hw)) (mvT hZ (w_2 hw)) (mvT hZ (w_3 hw)) (by decide) (backOf (W := 0) (rm_valueC l Z a0 hw [] (((p4 &&& (255 : Int32)).toUInt32.toUInt16.toUInt32.toInt32)) cp h0 n0 (by omega) P0 P1 hcs (own_ch _)) hZ (w_3 hw) (w_2 hw) (by decide) (by decide)) (g := (mkF m 13 #[.val (.long p0), .second, .val (.long p1), .second, .val (.long p2), .second, vI p3, vI p4, .val (.int (p3 &&& (3 : Int32))), .unset, .unset, .unset, .unset, .unset, .unset, .unset, .unset, .unset, .unset, .unset] [(.int ((p4 &&& (255 : Int32)).toUInt32.toUInt16.toUInt32.toInt32))])) rfl (by rw [hml]; rfl) (argsL := [(.int ((p4 &&& (255 : Int32)).toUInt32.toUInt16.toUInt32.toInt32))]) (rest := []) (lenOf pd_24 rfl) rfl (Nat.le_of_eq rfl) (hb hby at_13) (fun _ _ => ⟨rfl, e0, (by decide : 0 + 2 ≤ _), (by decide : 0 + 5 ≤ _)⟩)
  dsimp only [Pt.U, Pt.locs, Pt.cells, Pt.slots] at X6 l6 y6 z6 st6 hQ6
  rw [l6, y6, z6] at X6
  obtain ⟨x6_a_, rfl, Nq6, Kq6, r6_0, r6_1⟩ := hQ6
  have N6 := Fr.app N0 Nq6
  have z6' := Kq6.1
  have lt7 := own_l r6_1.lt
  have f9 := P0.keep Kq6 all0
  obtain ⟨_, _, ⟨T8, L8, k8, n8⟩, -, X8, ⟨Lc8, hQ8, l8, y8, z8⟩, st8⟩ := Jvm.LawKit.callS X6 hx (y := m_4) hown (mvT hZ (w_0 hw)) (mvT hZ (w_1 hw)) (mvT hZ (w_2 hw)) (mvT hZ (w_3 hw)) (by decide) (backOf (W := 0) (rm_valueC l Z a0 hw [] (((((p4.toUInt32 >>> ((8 : Int32) &&& 31).toUInt32).toInt32) &&& (255 : Int32)).toUInt32.toUInt16.toUInt32.toInt32)) cp T6.heap n0 (by omega) f9 P1 hcs (own_ch _)) hZ (w_3 hw) (w_2 hw) (by decide) (by decide)) (g := (mkF m 28 #[.val (.long p0), .second, .val (.long p1), .second, .val (.long p2), .second, vI p3, vI p4, .val (.int (p3 &&& (3 : Int32))), vA x6_a_, .unset, .unset, .unset, .unset, .unset, .unset, .unset, .unset, .unset, .unset] [(.int ((((p4.toUInt32 >>> ((8 : Int32) &&& 31).toUInt32).toInt32) &&& (255 : Int32)).toUInt32.toUInt16.toUInt32.toInt32))])) rfl (by rw [hml]; rfl) (argsL := [(.int ((((p4.toUInt32 >>> ((8 : Int32) &&& 31).toUInt32).toInt32) &&& (255 : Int32)).toUInt32.toUInt16.toUInt32.toInt32))]) (rest := []) (lenOf pd_24 rfl) rfl (Nat.le_of_eq rfl) (hb hby at_28) (fun _ _ => ⟨rfl, rfl, (by decide : 2 + 2 ≤ _), (by decide : 5 + 5 ≤ _)⟩)
  dsimp only [Pt.U, Pt.locs, Pt.cells, Pt.slots] at X8 l8 y8 z8 st8 hQ8
  rw [l8, y8, z8] at X8
  obtain ⟨x8_a_, rfl, Nq8, Kq8, r8_0, r8_1⟩ := hQ8
  have N8 := Fr.app N6 Nq8
  have z8' := Kq8.1
  have lt10 := own_l r8_1.lt
  obtain ⟨T11, h11, X11, e11, E11, A11, D11, -, st11⟩ := newO X8 hx hZ hown (w_26 hw) (w_27 hw) (w_28 hw) rfl (g := (mkF m 33 #[.val (.long p0), .second, .val (.long p1), .second, .val (.long p2), .second, vI p3, vI p4, .val (.int (p3 &&& (3 : Int32))), vA x6_a_, vA x8_a_, .unset, .unset, .unset, .unset, .unset, .unset, .unset, .unset, .unset] [])) rfl (hb hby at_33) (by decide) (by decide)
  obtain ⟨b11, g11⟩ : ∃ z, z = T8.heap.size := ⟨_, rfl⟩
  rw [← g11] at A11 D11 st11
  have z11 := E11.1
  have lt12 := own_l A11.lt
  have F11_46 : Fld Z h11 b11 "java/util/AbstractList" "modCount" "I" (.int 0) := D11 (Or.inl (w_46 hw)) (ty := .int) (by decide)
  have F11_49 : Fld Z h11 b11 "java/util/ArrayList" "elementData" "[Ljava/lang/Object;" .null := D11 (Or.inl (w_49 hw)) (ty := (.array (.object "java/lang/Object"))) (by decide)
  have F11_62 : Fld Z h11 b11 "java/util/ArrayList" "size" "I" (.int 0) := D11 (Or.inl (w_62 hw)) (ty := .int) (by decide)
  have f14 := f9.keep Kq8 all0
  have f15 := f14.ext E11
  obtain ⟨_, _, ⟨T13, L13, k13, n13⟩, -, X13, ⟨Lc13, hQ13, l13, y13, z13⟩, st13⟩ := X11.specialBack hx (y := m_7) rfl hown (mvT hZ (w_29 hw)) (mvT hZ (w_30 hw)) (mvT hZ (w_31 hw)) (by decide) (backOf (W := 1) (rm_ali l Z a0 hw [] b11 dc h11 n0 (by omega) f15 P2 A11 F11_46 F11_62 F11_49 (by omega)) hZ (w_31 hw) (w_28 hw) (by decide) (by decide)) (g := (mkF m 37 #[.val (.long p0), .second, .val (.long p1), .second, .val (.long p2), .second, vI p3, vI p4, .val (.int (p3 &&& (3 : Int32))), vA x6_a_, vA x8_a_, .unset, .unset, .unset, .unset, .unset, .unset, .unset, .unset, .unset] [(.ref b11), (.ref b11)])) rfl (by rw [hml]; rfl) (Steps.refl _) (a := b11) (argsL := []) (rest := [(.ref b11)]) (lenOf pd_3 rfl) rfl (Nat.le_of_eq rfl) (hb hby at_37) (fun _ _ => ⟨rfl, e11, (by decide : 5 + 0 ≤ _), (by decide : 13 + 0 ≤ _)⟩)
  dsimp only [Pt.U, Pt.locs, Pt.cells, Pt.slots] at X13 l13 y13 z13 st13 hQ13
  rw [l13, y13, z13] at X13
  obtain ⟨rfl, Nq13, Kq13, r13_0, r13_1, r13_2, r13_3⟩ := hQ13
  have N13 := Fr.app N8 Nq13
  have z13' := Kq13.1
  have lt16 := own_l r13_0.lt
  have lt17 := own_l r13_1.lt
  have lt18 := own_l r13_2.lt
  have lt19 := own_l r13_3.lt
  have f20 := f15.keep Kq13 (allS (by omega) all0)
  have f21 := P3.keep Kq6 nin0
  have f22 := f21.keep Kq8 nin0
  have f23 := f22.ext E11
  have f24 := f23.keep Kq13 (ninS (own_ne (by omega)) nin0)
  have f25 := P4.keep Kq6
  have f26 := f25.keep Kq8
  have f27 := f26.ext E11
  have f28 := f27.keep Kq13
  have f29 := r6_1.keep Kq8
  have f30 := f29.ext E11
  have f31 := f30.keep Kq13
  have f32 := r8_1.ext E11
  have f33 := f32.keep Kq13
  obtain ⟨T34, h34, L34, x34_lf, x34_l2, x34_v2, x34_kv2, x34_sn2, x34_sN2, x34_vs2, x34_l3, x34_v3, x34_kv3, x34_sn3, x34_sN3, x34_vs3, x34_l4, x34_v4, x34_kv4, x34_sn4, x34_sN4, x34_vs4, x34_l5, x34_v5, x34_kv5, x34_sn5, x34_sN5, x34_vs5, x34_mp, X34, e34, N34, Kq34, r34_0, r34_1, r34_2, r34_3, r34_4, r34_5, r34_6, r34_7, r34_8, r34_9, r34_10, r34_11, r34_12, r34_13, r34_14, r34_15, r34_16, r34_17, r34_18, r34_19, r34_20, r34_21, r34_22, r34_23, r34_24, r34_25, r34_26, r34_27, r34_28, r34_29, r34_30, r34_31, r34_32, r34_33, r34_34, r34_35, r34_36, st34⟩ := pz_rest X13 hx hw hZ hown hby hml p0 p1 p2 p3 p4 x6_a_ x8_a_ b11 dc kd rfl N13 (by omega) f20 P2 f24 f28 f31 f33 (by decide) (by decide) (by decide) (by decide)
  have z34' := Kq34.1
  have lt35 := own_l r34_0.lt
  have lt36 := own_l r34_1.lt
  have lt37 := own_l r34_2.lt
  have lt38 := own_l r34_3.lt
  have lt39 := own_l r34_4.lt
  have lt40 := own_l r34_5.lt
  have lt41 := own_l r34_6.lt
  have lt42 := own_l r34_7.lt
  have lt43 := own_l r34_8.lt
  have lt44 := own_l r34_9.lt
  have lt45 := own_l r34_10.lt
  have lt46 := own_l r34_11.lt
  have lt47 := own_l r34_12.lt
  have lt48 := own_l r34_13.lt
  have lt49 := own_l r34_14.lt
  have lt50 := own_l r34_15.lt
  have lt51 := own_l r34_16.lt
  have lt52 := own_l r34_17.lt
  have lt53 := own_l r34_18.lt
  have lt54 := own_l r34_19.lt
  have lt55 := own_l r34_20.lt
  have lt56 := own_l r34_21.lt
  have lt57 := own_l r34_26.lt
  have lt58 := own_l r34_27.lt
  have lt59 := own_l r34_28.lt
  have lt60 := own_l r34_29.lt
  obtain ⟨T61, h61, X61, e61, E61, A61, D61, -, st61⟩ := newO X34 hx hZ hown (w_101 hw) (w_102 hw) (w_103 hw) e34 (g := (mkF m 215 #[.val (.long p0), .second, .val (.long p1), .second, .val (.long p2), .second, vI p3, vI p4, .val (.int (p3 &&& (3 : Int32))), vA x6_a_, vA x8_a_, vA b11, vA x34_lf, vA x34_l2, vA x34_l3, vA x34_l4, vA x34_l5, vA x34_mp, .unset, .unset] [])) rfl (hb hby at_215) (by decide) (by decide)
  obtain ⟨b61, g61⟩ : ∃ z, z = h34.size := ⟨_, rfl⟩
  rw [← g61] at A61 D61 st61
  have z61 := E61.1
  have lt62 := own_l A61.lt
  have F61_313 : Fld Z h61 b61 "com/example/ratify/ratify/recovery/RecoveryReport" "committed" "J" (.long (0 : Int64)) := D61 (Or.inr (w_313 hw)) (ty := .long) (by decide)
  have F61_315 : Fld Z h61 b61 "com/example/ratify/ratify/recovery/RecoveryReport" "rolledBack" "J" (.long (0 : Int64)) := D61 (Or.inr (w_315 hw)) (ty := .long) (by decide)
  have F61_317 : Fld Z h61 b61 "com/example/ratify/ratify/recovery/RecoveryReport" "pending" "J" (.long (0 : Int64)) := D61 (Or.inr (w_317 hw)) (ty := .long) (by decide)
  have F61_319 : Fld Z h61 b61 "com/example/ratify/ratify/recovery/RecoveryReport" "unreachable" "Ljava/util/List;" .null := D61 (Or.inr (w_319 hw)) (ty := (.object "java/util/List")) (by decide)
  have F61_321 : Fld Z h61 b61 "com/example/ratify/ratify/recovery/RecoveryReport" "failures" "Ljava/util/List;" .null := D61 (Or.inr (w_321 hw)) (ty := (.object "java/util/List")) (by decide)
  have F61_323 : Fld Z h61 b61 "com/example/ratify/ratify/recovery/RecoveryReport" "finished" "Ljava/util/List;" .null := D61 (Or.inr (w_323 hw)) (ty := (.object "java/util/List")) (by decide)
  have F61_325 : Fld Z h61 b61 "com/example/ratify/ratify/recovery/RecoveryReport" "unfinished" "Ljava/util/Map;" .null := D61 (Or.inr (w_325 hw)) (ty := (.object "java/util/Map")) (by decide)
  have F61_327 : Fld Z h61 b61 "com/example/ratify/ratify/recovery/RecoveryReport" "waiting" "Ljava/util/List;" .null := D61 (Or.inr (w_327 hw)) (ty := (.object "java/util/List")) (by decide)
  have F61_329 : Fld Z h61 b61 "com/example/ratify/ratify/recovery/RecoveryReport" "deferred" "Ljava/util/List;" .null := D61 (Or.inr (w_329 hw)) (ty := (.object "java/util/List")) (by decide)
  have F61_331 : Fld Z h61 b61 "com/example/ratify/ratify/recovery/RecoveryReport" "decided" "Ljava/util/List;" .null := D61 (Or.inr (w_331 hw)) (ty := (.object "java/util/List")) (by decide)
  have f64 := f20.keep Kq34 all0
  have f65 := f64.ext E61
  have f66 := r13_0.keep Kq34
  have f67 := f66.ext E61
  have f68 := r13_2.keep Kq34 nin0
  have f69 := f68.ext E61
  have f70 := r34_0.ext E61
  have f71 := r34_1.ext E61
  have f72 := r34_2.ext E61
  have f73 := r34_3.ext E61
  have f74 := r34_4.ext E61
  have f75 := r34_5.ext E61
  have f76 := r34_6.ext E61
  have f77 := r34_7.ext E61
  have f78 := r34_8.ext E61
  have f79 := r34_9.ext E61
  have f80 := r34_10.ext E61
  have f81 := r34_11.ext E61
  have f82 := r34_12.ext E61
  have f83 := r34_13.ext E61
  have f84 := r34_14.ext E61
  have f85 := r34_15.ext E61
  have f86 := r34_16.ext E61
  have f87 := r34_17.ext E61
  have f88 := r34_18.ext E61
  have f89 := r34_19.ext E61
  have f90 := r34_20.ext E61
  have f91 := r34_21.ext E61
  have f92 := f31.keep Kq34
  have f93 := f92.ext E61
  have f94 := f33.keep Kq34
  have f95 := f94.ext E61
  have f96 := r34_26.ext E61
  have f97 := r34_27.ext E61
  have f98 := r34_28.ext E61
  have f99 := r34_29.ext E61
  obtain ⟨_, _, ⟨T63, L63, k63, n63⟩, -, X63, ⟨Lc63, hQ63, l63, y63, z63⟩, st63⟩ := X61.specialBack hx (y := m_50) rfl hown (mvT hZ (w_104 hw)) (mvT hZ (w_105 hw)) (mvT hZ (w_106 hw)) (by decide) (backOf (W := 1) (rm_rr0 l Z a0 hw [] b61 p0 p1 p2 b11 x34_lf x34_l2 x34_v2 x34_kv2 x34_sn2 x34_sN2 x34_vs2 x34_mp x34_l3 x34_v3 x34_kv3 x34_sn3 x34_sN3 x34_vs3 x34_l4 x34_v4 x34_kv4 x34_sn4 x34_sN4 x34_vs4 x34_l5 x34_v5 x34_kv5 x34_sn5 x34_sN5 x34_vs5 x6_a_ x8_a_ el em mo ml mu h61 n0 (by omega) f65 P5 P6 P7 P8 P9 A61 F61_313 F61_315 F61_317 F61_319 F61_321 F61_323 F61_325 F61_327 F61_329 F61_331 f67 f69 f70 f71 f72 f73 f74 f75 f76 f77 f78 f79 f80 f81 f82 f83 f84 f85 f86 f87 f88 f89 f90 f91 f93 f95 f96 f97 f98 f99 (by omega) (by omega) (own_ne (by omega)) (fun q => r34_31 q) (fun q => r34_32 q) (fun q => r34_33 q) (fun q => r34_34 q) (fun q => r34_35 q) (fun q => r34_36 q) r34_22 r34_23 r34_24 r34_25) hZ (w_106 hw) (w_103 hw) (by decide) (by decide)) (g := (mkF m 237 #[.val (.long p0), .second, .val (.long p1), .second, .val (.long p2), .second, vI p3, vI p4, .val (.int (p3 &&& (3 : Int32))), vA x6_a_, vA x8_a_, vA b11, vA x34_lf, vA x34_l2, vA x34_l3, vA x34_l4, vA x34_l5, vA x34_mp, .unset, .unset] [(.ref x34_l5), (.ref x34_l4), (.ref x34_l3), (.ref x34_mp), (.ref x34_l2), (.ref x34_lf), (.ref b11), (.long p2), (.long p1), (.long p0), (.ref b61), (.ref b61)])) rfl (by rw [hml]; rfl) (Steps.refl _) (a := b61) (argsL := [(.long p0), (.long p1), (.long p2), (.ref b11), (.ref x34_lf), (.ref x34_l2), (.ref x34_mp), (.ref x34_l3), (.ref x34_l4), (.ref x34_l5)]) (rest := [(.ref b61)]) (lenOf pd_25 rfl) rfl (Nat.le_of_eq rfl) (hb hby at_237) (fun _ _ => ⟨rfl, e61, (by decide : 16 + 12 ≤ _), (by decide : 86 + 34 ≤ _)⟩)
  dsimp only [Pt.U, Pt.locs, Pt.cells, Pt.slots] at X63 l63 y63 z63 st63 hQ63
  rw [l63, y63, z63] at X63
  obtain ⟨rfl, Nq63, Kq63, r63_0, r63_1, r63_2⟩ := hQ63
  have N63 := Fr.app N34 Nq63
  have z63' := Kq63.1
  have lt100 := own_l r63_0.lt
  have lt101 := own_l r63_1.lt
  have lt102 := own_l r63_2.lt
  have f104 := P10.keep Kq6
  have f105 := f104.keep Kq8
  have f106 := f105.ext E11
  have f107 := f106.keep Kq13
  have f108 := f107.keep Kq34
  have f109 := f108.ext E61
  have f110 := f109.keep Kq63
  have f111 := P11.keep Kq6 nin0
  have f112 := f111.keep Kq8 nin0
  have f113 := f112.ext E11
  have f114 := f113.keep Kq13 (ninS (own_ne (by omega)) nin0)
  have f115 := f114.keep Kq34 nin0
  have f116 := f115.ext E61
  have f117 := f116.keep Kq63 (ninS (own_ne (by omega)) (ninS (own_ne (by omega)) nin0))
  have f118 := P12.keep Kq6 nin0
  have f119 := f118.keep Kq8 nin0
  have f120 := f119.ext E11
  have f121 := f120.keep Kq13 (ninS (own_ne (by omega)) nin0)
  have f122 := f121.keep Kq34 nin0
  have f123 := f122.ext E61
  have f124 := f123.keep Kq63 (ninS (own_ne (by omega)) (ninS (own_ne (by omega)) nin0))
  obtain ⟨cq103, kq103, qa103, qb103, qc103⟩ := isOf hZ rfl r63_0
  obtain ⟨_, _, ⟨T103, L103, k103, n103⟩, -, X103, ⟨Lc103, hQ103, l103, y103, z103⟩, st103⟩ := X63.virtualBack hx (y := m_53) (z := m_53) hown (mvT hZ (w_332 hw)) (mvT hZ (w_333 hw)) (notFace_of_selects (args := #[]) (mvT hZ (w_335 hw))) (mvT hZ (w_335 hw)) (mvT hZ (w_334 hw)) (by decide) (backOf (W := 0) (rm_cmN0 l Z a0 hw [] b61 p2 el ee ke ([]) T63.heap n0 (by omega) r63_1 r63_2 f110 f117 f124 hp) hZ (w_336 hw) (w_103 hw) (by decide) (by decide)) qa103 qc103 (g := (mkF m 262 #[.val (.long p0), .second, .val (.long p1), .second, .val (.long p2), .second, vI p3, vI p4, .val (.int (p3 &&& (3 : Int32))), vA x6_a_, vA x8_a_, vA b11, vA x34_lf, vA x34_l2, vA x34_l3, vA x34_l4, vA x34_l5, vA x34_mp, vA b61, vI 1] [(.ref b61)])) rfl (by rw [hml]; rfl) (Steps.refl _) (argsL := []) (rest := []) (lenOf pd_8 rfl) rfl (Nat.le_of_eq rfl) (hb hby at_262) (fun _ _ => ⟨rfl, rfl, (by decide : 28 + 0 ≤ _), (by decide : 120 + 0 ≤ _)⟩)
  dsimp only [Pt.U, Pt.locs, Pt.cells, Pt.slots] at X103 l103 y103 z103 st103 hQ103
  rw [l103, y103, z103] at X103
  obtain ⟨rfl, Nq103, Kq103⟩ := hQ103
  have N103 := Fr.app N63 Nq103
  obtain ⟨fs, hr, hrun, hended, hW, hsame⟩ := X103.leave (v := some (.int 1)) (fun h => by rw [Bd.returns] at h; cases h)
  refine ⟨_, _, castTop (ef_15 m p0 p1 p2 p3 p4) ?_, hrun, hended, _, _, rfl, ?_, ⟨_, rfl⟩, hW, hsame.mono (by decide) (by decide)⟩
  · show Steps _ _ _ (s₁.setTop (mkF m 0 #[.val (.long p0), .second, .val (.long p1), .second, .val (.long p2), .second, vI p3, vI p4, .unset, .unset, .unset, .unset, .unset, .unset, .unset, .unset, .unset, .unset, .unset, .unset] [])) _
    refine XS.iload X0.here hx rfl (hb hby at_0) rfl ?_
    refine XS.iconst X0.here hx rfl (hb hby at_2) ?_
    refine XS.iand X0.here hx rfl (hb hby at_3) rfl ?_
    refine XS.istore X0.here hx rfl (hb hby at_4) rfl (l' := #[.val (.long p0), .second, .val (.long p1), .second, .val (.long p2), .second, vI p3, vI p4, .val (.int (p3 &&& (3 : Int32))), .unset, .unset, .unset, .unset, .unset, .unset, .unset, .unset, .unset, .unset, .unset]) rfl ?_
    refine XS.iload X0.here hx rfl (hb hby at_6) rfl ?_
    refine XS.sipush X0.here hx rfl (hb hby at_8) ?_
    refine XS.iand X0.here hx rfl (hb hby at_11) rfl ?_
    refine XS.i2c X0.here hx rfl (hb hby at_12) rfl ?_
    refine st6 _ ?_
    show Steps _ _ _ (T6.setTop (mkF m 16 #[.val (.long p0), .second, .val (.long p1), .second, .val (.long p2), .second, vI p3, vI p4, .val (.int (p3 &&& (3 : Int32))), .unset, .unset, .unset, .unset, .unset, .unset, .unset, .unset, .unset, .unset, .unset] [(.ref x6_a_)])) _
    refine XS.astore X6.here hx rfl (hb hby at_16) rfl rfl (l' := #[.val (.long p0), .second, .val (.long p1), .second, .val (.long p2), .second, vI p3, vI p4, .val (.int (p3 &&& (3 : Int32))), vA x6_a_, .unset, .unset, .unset, .unset, .unset, .unset, .unset, .unset, .unset, .unset]) rfl ?_
    refine XS.iload X6.here hx rfl (hb hby at_18) rfl ?_
    refine XS.bipush X6.here hx rfl (hb hby at_20) ?_
    refine XS.iushr X6.here hx rfl (hb hby at_22) rfl ?_
    refine XS.sipush X6.here hx rfl (hb hby at_23) ?_
    refine XS.iand X6.here hx rfl (hb hby at_26) rfl ?_
    refine XS.i2c X6.here hx rfl (hb hby at_27) rfl ?_
    refine st8 _ ?_
    show Steps _ _ _ (T8.setTop (mkF m 31 #[.val (.long p0), .second, .val (.long p1), .second, .val (.long p2), .second, vI p3, vI p4, .val (.int (p3 &&& (3 : Int32))), vA x6_a_, .unset, .unset, .unset, .unset, .unset, .unset, .unset, .unset, .unset, .unset] [(.ref x8_a_)])) _
    refine XS.astore X8.here hx rfl (hb hby at_31) rfl rfl (l' := #[.val (.long p0), .second, .val (.long p1), .second, .val (.long p2), .second, vI p3, vI p4, .val (.int (p3 &&& (3 : Int32))), vA x6_a_, vA x8_a_, .unset, .unset, .unset, .unset, .unset, .unset, .unset, .unset, .unset]) rfl ?_
    refine st11 _ ?_
    show Steps _ _ _ (T11.setTop (mkF m 36 #[.val (.long p0), .second, .val (.long p1), .second, .val (.long p2), .second, vI p3, vI p4, .val (.int (p3 &&& (3 : Int32))), vA x6_a_, vA x8_a_, .unset, .unset, .unset, .unset, .unset, .unset, .unset, .unset, .unset] [(.ref b11)])) _
    refine XS.dup X11.here hx rfl (hb hby at_36) rfl rfl ?_
    refine st13.trans ?_
    show Steps _ _ _ (T13.setTop (mkF m 40 #[.val (.long p0), .second, .val (.long p1), .second, .val (.long p2), .second, vI p3, vI p4, .val (.int (p3 &&& (3 : Int32))), vA x6_a_, vA x8_a_, .unset, .unset, .unset, .unset, .unset, .unset, .unset, .unset, .unset] [(.ref b11)])) _
    refine XS.astore X13.here hx rfl (hb hby at_40) rfl rfl (l' := #[.val (.long p0), .second, .val (.long p1), .second, .val (.long p2), .second, vI p3, vI p4, .val (.int (p3 &&& (3 : Int32))), vA x6_a_, vA x8_a_, vA b11, .unset, .unset, .unset, .unset, .unset, .unset, .unset, .unset]) rfl ?_
    refine XS.iload X13.here hx rfl (hb hby at_42) rfl ?_
    refine XS.iconst X13.here hx rfl (hb hby at_44) ?_
    refine XS.icmpYes X13.here hx rfl (pc0 := 45) (pc' := 58) rfl (hb hby at_45) rfl (tlt (h1 : (p3 &&& (3 : Int32)) < (1 : Int32))).1 (by decide) (by decide) ?_
    refine XS.iload X13.here hx rfl (hb hby at_58) rfl ?_
    refine XS.iconst X13.here hx rfl (hb hby at_60) ?_
    refine XS.icmpYes X13.here hx rfl (pc0 := 61) (pc' := 74) rfl (hb hby at_61) rfl (tlt (h2 : (p3 &&& (3 : Int32)) < (2 : Int32))).1 (by decide) (by decide) ?_
    refine XS.iload X13.here hx rfl (hb hby at_74) rfl ?_
    refine XS.iconst X13.here hx rfl (hb hby at_76) ?_
    refine XS.icmpYes X13.here hx rfl (pc0 := 77) (pc' := 90) rfl (hb hby at_77) rfl (tlt (h3 : (p3 &&& (3 : Int32)) < (3 : Int32))).1 (by decide) (by decide) ?_
    refine st34 _ ?_
    show Steps _ _ _ (T34.setTop (mkF m 215 #[.val (.long p0), .second, .val (.long p1), .second, .val (.long p2), .second, vI p3, vI p4, .val (.int (p3 &&& (3 : Int32))), vA x6_a_, vA x8_a_, vA b11, vA x34_lf, vA x34_l2, vA x34_l3, vA x34_l4, vA x34_l5, vA x34_mp, .unset, .unset] [])) _
    refine st61 _ ?_
    show Steps _ _ _ (T61.setTop (mkF m 218 #[.val (.long p0), .second, .val (.long p1), .second, .val (.long p2), .second, vI p3, vI p4, .val (.int (p3 &&& (3 : Int32))), vA x6_a_, vA x8_a_, vA b11, vA x34_lf, vA x34_l2, vA x34_l3, vA x34_l4, vA x34_l5, vA x34_mp, .unset, .unset] [(.ref b61)])) _
    refine XS.dup X61.here hx rfl (hb hby at_218) rfl rfl ?_
    refine XS.lloadN X61.here hx rfl (hb hby at_219) rfl ?_
    refine XS.lloadN X61.here hx rfl (hb hby at_220) rfl ?_
    refine XS.lload X61.here hx rfl (hb hby at_221) rfl ?_
    refine XS.aload X61.here hx rfl (hb hby at_223) rfl rfl ?_
    refine XS.aload X61.here hx rfl (hb hby at_225) rfl rfl ?_
    refine XS.aload X61.here hx rfl (hb hby at_227) rfl rfl ?_
    refine XS.aload X61.here hx rfl (hb hby at_229) rfl rfl ?_
    refine XS.aload X61.here hx rfl (hb hby at_231) rfl rfl ?_
    refine XS.aload X61.here hx rfl (hb hby at_233) rfl rfl ?_
    refine XS.aload X61.here hx rfl (hb hby at_235) rfl rfl ?_
    refine st63.trans ?_
    show Steps _ _ _ (T63.setTop (mkF m 240 #[.val (.long p0), .second, .val (.long p1), .second, .val (.long p2), .second, vI p3, vI p4, .val (.int (p3 &&& (3 : Int32))), vA x6_a_, vA x8_a_, vA b11, vA x34_lf, vA x34_l2, vA x34_l3, vA x34_l4, vA x34_l5, vA x34_mp, .unset, .unset] [(.ref b61)])) _
    refine XS.astore X63.here hx rfl (hb hby at_240) rfl rfl (l' := #[.val (.long p0), .second, .val (.long p1), .second, .val (.long p2), .second, vI p3, vI p4, .val (.int (p3 &&& (3 : Int32))), vA x6_a_, vA x8_a_, vA b11, vA x34_lf, vA x34_l2, vA x34_l3, vA x34_l4, vA x34_l5, vA x34_mp, vA b61, .unset]) rfl ?_
    refine XS.iconst X63.here hx rfl (hb hby at_242) ?_
    refine XS.istore X63.here hx rfl (hb hby at_243) rfl (l' := #[.val (.long p0), .second, .val (.long p1), .second, .val (.long p2), .second, vI p3, vI p4, .val (.int (p3 &&& (3 : Int32))), vA x6_a_, vA x8_a_, vA b11, vA x34_lf, vA x34_l2, vA x34_l3, vA x34_l4, vA x34_l5, vA x34_mp, vA b61, vI 0]) rfl ?_
    refine XS.lload X63.here hx rfl (hb hby at_245) rfl ?_
    refine XS.lconst X63.here hx rfl (hb hby at_247) ?_
    refine XS.lcmp X63.here hx rfl (hb hby at_248) rfl ?_
    refine XS.ifNo X63.here hx rfl (hb hby at_249) rfl ((if0 _ _).trans (teq (hp : (lcmpW p2 (0 : Int64)) = (0 : Int32))).2) ?_
    refine XS.iload X63.here hx rfl (hb hby at_252) rfl ?_
    refine XS.ifNo X63.here hx rfl (hb hby at_254) rfl ((if0 _ _).trans (teq (hz : (p3 &&& (3 : Int32)) = (0 : Int32))).2) ?_
    refine XS.iconst X63.here hx rfl (hb hby at_257) ?_
    refine XS.istore X63.here hx rfl (hb hby at_258) rfl (l' := #[.val (.long p0), .second, .val (.long p1), .second, .val (.long p2), .second, vI p3, vI p4, .val (.int (p3 &&& (3 : Int32))), vA x6_a_, vA x8_a_, vA b11, vA x34_lf, vA x34_l2, vA x34_l3, vA x34_l4, vA x34_l5, vA x34_mp, vA b61, vI 1]) rfl ?_
    refine XS.aload X63.here hx rfl (hb hby at_260) rfl rfl ?_
    refine st103.trans ?_
    show Steps _ _ _ (T103.setTop (mkF m 265 #[.val (.long p0), .second, .val (.long p1), .second, .val (.long p2), .second, vI p3, vI p4, .val (.int (p3 &&& (3 : Int32))), vA x6_a_, vA x8_a_, vA b11, vA x34_lf, vA x34_l2, vA x34_l3, vA x34_l4, vA x34_l5, vA x34_mp, vA b61, vI 1] [(.int 1)])) _
    refine XS.iload X103.here hx rfl (hb hby at_265) rfl ?_
    refine XS.icmpNo X103.here hx rfl (hb hby at_267) rfl (teq ((by decide) : (1 : Int32) = (1 : Int32))).2 ?_
    refine XS.iconst X103.here hx rfl (hb hby at_270) ?_
    refine XS.goto X103.here hx rfl (pc0 := 271) (pc' := 275) rfl (hb hby at_271) (by decide) (by decide) ?_
    exact retN X103 hx (t := .boolean) Bd.returns (by simp) (hb hby at_275) hr
  · show Q_law Z p0 p1 p2 p3 p4 cp dc kd el em mo ml mu ee ke h0 n0 _ T103.heap _
    rw [(Kq103 : T103.heap = T63.heap)]
    exact ⟨rfl, N103⟩
theorem rm_law_00 (l : Launch) (Z : State) (a0 : Array Value) (hw : HW Z a0) (ws : List Jvm.Cond) (p0 : Int64) (p1 : Int64) (p2 : Int64) (p3 : Int32) (p4 : Int32) (cp : Int32) (dc : Addr) (kd : ClassId) (el : Addr) (em : Addr) (mo : Addr) (ml : Addr) (mu : Addr) (ee : Addr) (ke : ClassId) (h0 : Heap) (n0 : Nat) (Z0 : n0 ≤ h0.size) (P0 : Old Z n0 h0) (P1 : sta0 Z (.int cp)) (P2 : sta1 Z (.ref dc)) (P3 : Arv Z h0 dc kd (.object "java/lang/Object") (0 : Int32) [] .null) (P4 : Exa Z h0 dc "[Ljava/lang/Object;") (P5 : sta2 Z (.ref el)) (P6 : sta3 Z (.ref em)) (P7 : Mi Z "[Ljava/lang/Object;" mo) (P8 : Mi Z "java/util/LinkedHashMap" ml) (P9 : Mi Z "java/util/Collections$UnmodifiableMap" mu) (P10 : Exa Z h0 el "java/util/ImmutableCollections$ListN") (P11 : fld10 Z h0 el (.ref ee)) (P12 : Arv Z h0 ee ke (.object "java/lang/Object") (0 : Int32) [] .null) (hcs : ¬ (cp = (0 : Int32))) (h1 : (p3 &&& (3 : Int32)) < (1 : Int32)) (h2 : (p3 &&& (3 : Int32)) < (2 : Int32)) (h3 : (p3 &&& (3 : Int32)) < (3 : Int32)) (hz : (p3 &&& (3 : Int32)) = (0 : Int32)) (hp : ¬ ((lcmpW p2 (0 : Int64)) = (0 : Int32))) :
    MetFree l x (head1 (Jvm.Cond.code x code maxLocals ret :: ws) room_1) (fun as' U => as' = #[(.long p0), (.long p1), (.long p2), (.int p3), (.int p4)] ∧ Z.Warmed39 U.vm ∧ U.heap = h0) (fun _ _ _ _ _ => True) (fun _ U o U' => ∃ v L, o = .returned v ∧ Q_law Z p0 p1 p2 p3 p4 cp dc kd el em mo ml mu ee ke h0 n0 v U'.heap L ∧ FrameEnd U o U' L room_1.cells room_1.slots) := by
  refine MetFree.of_bodySF (plainFor_of_name pn_26) hisR ?_
  intro p e s m args below meth c s₁ Bd hml0 hP hK
  have hK0 := hK
  obtain ⟨rfl, hZ, hh⟩ := hP
  have hx := Bd.exec
  have hby := Bd.bytes
  have hml : c.maxLocals = 20 := hml0
  have hown : s.vm.findClass "com/example/ratify/ratify/recovery/RecoveryReportCompletePinLaw" = some m.cls := findClass_of_methodNamed Bd.named
  have hnm := (name_of_methodNamed Bd.named Bd.method).1
  have X0 : Stand p l e room_1 s m #[(.long p0), (.long p1), (.long p2), (.int p3), (.int p4)] below meth c s₁ [] 0 0 := Stand.of_body Bd
  have e0 : s₁.heap = h0 := by rw [← hh, Bd.state]; rfl
  have N0 := Fr.nil n0
  have lt1 := own_l P3.lt
  have lt2 := own_l P4.lt
  have lt3 := own_l P10.lt
  have lt4 := own_l P11.lt
  have lt5 := own_l P12.lt
  obtain ⟨_, _, ⟨T6, L6, k6, n6⟩, -, X6, ⟨Lc6, hQ6, l6, y6, z6⟩, st6⟩ := Jvm.LawKit.callS X0 hx (y := m_4) hown (mvT hZ (w_0 hw)) (mvT hZ (w_1 hw)) (mvT hZ (w_2 hw)) (mvT hZ (w_3 hw)) (by decide) (backOf (W := 0) (rm_valueC l Z a0 hw [] (((p4 &&& (255 : Int32)).toUInt32.toUInt16.toUInt32.toInt32)) cp h0 n0 (by omega) P0 P1 hcs (own_ch _)) hZ (w_3 hw) (w_2 hw) (by decide) (by decide)) (g := (mkF m 13 #[.val (.long p0), .second, .val (.long p1), .second, .val (.long p2), .second, vI p3, vI p4, .val (.int (p3 &&& (3 : Int32))), .unset, .unset, .unset, .unset, .unset, .unset, .unset, .unset, .unset, .unset, .unset] [(.int ((p4 &&& (255 : Int32)).toUInt32.toUInt16.toUInt32.toInt32))])) rfl (by rw [hml]; rfl) (argsL := [(.int ((p4 &&& (255 : Int32)).toUInt32.toUInt16.toUInt32.toInt32))]) (rest := []) (lenOf pd_24 rfl) rfl (Nat.le_of_eq rfl) (hb hby at_13) (fun _ _ => ⟨rfl, e0, (by decide : 0 + 2 ≤ _), (by decide : 0 + 5 ≤ _)⟩)
  dsimp only [Pt.U, Pt.locs, Pt.cells, Pt.slots] at X6 l6 y6 z6 st6 hQ6
  rw [l6, y6, z6] at X6
  obtain ⟨x6_a_, rfl, Nq6, Kq6, r6_0, r6_1⟩ := hQ6
  have N6 := Fr.app N0 Nq6
  have z6' := Kq6.1
  have lt7 := own_l r6_1.lt
  have f9 := P0.keep Kq6 all0
  obtain ⟨_, _, ⟨T8, L8, k8, n8⟩, -, X8, ⟨Lc8, hQ8, l8, y8, z8⟩, st8⟩ := Jvm.LawKit.callS X6 hx (y := m_4) hown (mvT hZ (w_0 hw)) (mvT hZ (w_1 hw)) (mvT hZ (w_2 hw)) (mvT hZ (w_3 hw)) (by decide) (backOf (W := 0) (rm_valueC l Z a0 hw [] (((((p4.toUInt32 >>> ((8 : Int32) &&& 31).toUInt32).toInt32) &&& (255 : Int32)).toUInt32.toUInt16.toUInt32.toInt32)) cp T6.heap n0 (by omega) f9 P1 hcs (own_ch _)) hZ (w_3 hw) (w_2 hw) (by decide) (by decide)) (g := (mkF m 28 #[.val (.long p0), .second, .val (.long p1), .second, .val (.long p2), .second, vI p3, vI p4, .val (.int (p3 &&& (3 : Int32))), vA x6_a_, .unset, .unset, .unset, .unset, .unset, .unset, .unset, .unset, .unset, .unset] [(.int ((((p4.toUInt32 >>> ((8 : Int32) &&& 31).toUInt32).toInt32) &&& (255 : Int32)).toUInt32.toUInt16.toUInt32.toInt32))])) rfl (by rw [hml]; rfl) (argsL := [(.int ((((p4.toUInt32 >>> ((8 : Int32) &&& 31).toUInt32).toInt32) &&& (255 : Int32)).toUInt32.toUInt16.toUInt32.toInt32))]) (rest := []) (lenOf pd_24 rfl) rfl (Nat.le_of_eq rfl) (hb hby at_28) (fun _ _ => ⟨rfl, rfl, (by decide : 2 + 2 ≤ _), (by decide : 5 + 5 ≤ _)⟩)
  dsimp only [Pt.U, Pt.locs, Pt.cells, Pt.slots] at X8 l8 y8 z8 st8 hQ8
  rw [l8, y8, z8] at X8
  obtain ⟨x8_a_, rfl, Nq8, Kq8, r8_0, r8_1⟩ := hQ8
  have N8 := Fr.app N6 Nq8
  have z8' := Kq8.1
  have lt10 := own_l r8_1.lt
  obtain ⟨T11, h11, X11, e11, E11, A11, D11, -, st11⟩ := newO X8 hx hZ hown (w_26 hw) (w_27 hw) (w_28 hw) rfl (g := (mkF m 33 #[.val (.long p0), .second, .val (.long p1), .second, .val (.long p2), .second, vI p3, vI p4, .val (.int (p3 &&& (3 : Int32))), vA x6_a_, vA x8_a_, .unset, .unset, .unset, .unset, .unset, .unset, .unset, .unset, .unset] [])) rfl (hb hby at_33) (by decide) (by decide)
  obtain ⟨b11, g11⟩ : ∃ z, z = T8.heap.size := ⟨_, rfl⟩
  rw [← g11] at A11 D11 st11
  have z11 := E11.1
  have lt12 := own_l A11.lt
  have F11_46 : Fld Z h11 b11 "java/util/AbstractList" "modCount" "I" (.int 0) := D11 (Or.inl (w_46 hw)) (ty := .int) (by decide)
  have F11_49 : Fld Z h11 b11 "java/util/ArrayList" "elementData" "[Ljava/lang/Object;" .null := D11 (Or.inl (w_49 hw)) (ty := (.array (.object "java/lang/Object"))) (by decide)
  have F11_62 : Fld Z h11 b11 "java/util/ArrayList" "size" "I" (.int 0) := D11 (Or.inl (w_62 hw)) (ty := .int) (by decide)
  have f14 := f9.keep Kq8 all0
  have f15 := f14.ext E11
  obtain ⟨_, _, ⟨T13, L13, k13, n13⟩, -, X13, ⟨Lc13, hQ13, l13, y13, z13⟩, st13⟩ := X11.specialBack hx (y := m_7) rfl hown (mvT hZ (w_29 hw)) (mvT hZ (w_30 hw)) (mvT hZ (w_31 hw)) (by decide) (backOf (W := 1) (rm_ali l Z a0 hw [] b11 dc h11 n0 (by omega) f15 P2 A11 F11_46 F11_62 F11_49 (by omega)) hZ (w_31 hw) (w_28 hw) (by decide) (by decide)) (g := (mkF m 37 #[.val (.long p0), .second, .val (.long p1), .second, .val (.long p2), .second, vI p3, vI p4, .val (.int (p3 &&& (3 : Int32))), vA x6_a_, vA x8_a_, .unset, .unset, .unset, .unset, .unset, .unset, .unset, .unset, .unset] [(.ref b11), (.ref b11)])) rfl (by rw [hml]; rfl) (Steps.refl _) (a := b11) (argsL := []) (rest := [(.ref b11)]) (lenOf pd_3 rfl) rfl (Nat.le_of_eq rfl) (hb hby at_37) (fun _ _ => ⟨rfl, e11, (by decide : 5 + 0 ≤ _), (by decide : 13 + 0 ≤ _)⟩)
  dsimp only [Pt.U, Pt.locs, Pt.cells, Pt.slots] at X13 l13 y13 z13 st13 hQ13
  rw [l13, y13, z13] at X13
  obtain ⟨rfl, Nq13, Kq13, r13_0, r13_1, r13_2, r13_3⟩ := hQ13
  have N13 := Fr.app N8 Nq13
  have z13' := Kq13.1
  have lt16 := own_l r13_0.lt
  have lt17 := own_l r13_1.lt
  have lt18 := own_l r13_2.lt
  have lt19 := own_l r13_3.lt
  have f20 := f15.keep Kq13 (allS (by omega) all0)
  have f21 := P3.keep Kq6 nin0
  have f22 := f21.keep Kq8 nin0
  have f23 := f22.ext E11
  have f24 := f23.keep Kq13 (ninS (own_ne (by omega)) nin0)
  have f25 := P4.keep Kq6
  have f26 := f25.keep Kq8
  have f27 := f26.ext E11
  have f28 := f27.keep Kq13
  have f29 := r6_1.keep Kq8
  have f30 := f29.ext E11
  have f31 := f30.keep Kq13
  have f32 := r8_1.ext E11
  have f33 := f32.keep Kq13
  obtain ⟨T34, h34, L34, x34_lf, x34_l2, x34_v2, x34_kv2, x34_sn2, x34_sN2, x34_vs2, x34_l3, x34_v3, x34_kv3, x34_sn3, x34_sN3, x34_vs3, x34_l4, x34_v4, x34_kv4, x34_sn4, x34_sN4, x34_vs4, x34_l5, x34_v5, x34_kv5, x34_sn5, x34_sN5, x34_vs5, x34_mp, X34, e34, N34, Kq34, r34_0, r34_1, r34_2, r34_3, r34_4, r34_5, r34_6, r34_7, r34_8, r34_9, r34_10, r34_11, r34_12, r34_13, r34_14, r34_15, r34_16, r34_17, r34_18, r34_19, r34_20, r34_21, r34_22, r34_23, r34_24, r34_25, r34_26, r34_27, r34_28, r34_29, r34_30, r34_31, r34_32, r34_33, r34_34, r34_35, r34_36, st34⟩ := pz_rest X13 hx hw hZ hown hby hml p0 p1 p2 p3 p4 x6_a_ x8_a_ b11 dc kd rfl N13 (by omega) f20 P2 f24 f28 f31 f33 (by decide) (by decide) (by decide) (by decide)
  have z34' := Kq34.1
  have lt35 := own_l r34_0.lt
  have lt36 := own_l r34_1.lt
  have lt37 := own_l r34_2.lt
  have lt38 := own_l r34_3.lt
  have lt39 := own_l r34_4.lt
  have lt40 := own_l r34_5.lt
  have lt41 := own_l r34_6.lt
  have lt42 := own_l r34_7.lt
  have lt43 := own_l r34_8.lt
  have lt44 := own_l r34_9.lt
  have lt45 := own_l r34_10.lt
  have lt46 := own_l r34_11.lt
  have lt47 := own_l r34_12.lt
  have lt48 := own_l r34_13.lt
  have lt49 := own_l r34_14.lt
  have lt50 := own_l r34_15.lt
  have lt51 := own_l r34_16.lt
  have lt52 := own_l r34_17.lt
  have lt53 := own_l r34_18.lt
  have lt54 := own_l r34_19.lt
  have lt55 := own_l r34_20.lt
  have lt56 := own_l r34_21.lt
  have lt57 := own_l r34_26.lt
  have lt58 := own_l r34_27.lt
  have lt59 := own_l r34_28.lt
  have lt60 := own_l r34_29.lt
  obtain ⟨T61, h61, X61, e61, E61, A61, D61, -, st61⟩ := newO X34 hx hZ hown (w_101 hw) (w_102 hw) (w_103 hw) e34 (g := (mkF m 215 #[.val (.long p0), .second, .val (.long p1), .second, .val (.long p2), .second, vI p3, vI p4, .val (.int (p3 &&& (3 : Int32))), vA x6_a_, vA x8_a_, vA b11, vA x34_lf, vA x34_l2, vA x34_l3, vA x34_l4, vA x34_l5, vA x34_mp, .unset, .unset] [])) rfl (hb hby at_215) (by decide) (by decide)
  obtain ⟨b61, g61⟩ : ∃ z, z = h34.size := ⟨_, rfl⟩
  rw [← g61] at A61 D61 st61
  have z61 := E61.1
  have lt62 := own_l A61.lt
  have F61_313 : Fld Z h61 b61 "com/example/ratify/ratify/recovery/RecoveryReport" "committed" "J" (.long (0 : Int64)) := D61 (Or.inr (w_313 hw)) (ty := .long) (by decide)
  have F61_315 : Fld Z h61 b61 "com/example/ratify/ratify/recovery/RecoveryReport" "rolledBack" "J" (.long (0 : Int64)) := D61 (Or.inr (w_315 hw)) (ty := .long) (by decide)
  have F61_317 : Fld Z h61 b61 "com/example/ratify/ratify/recovery/RecoveryReport" "pending" "J" (.long (0 : Int64)) := D61 (Or.inr (w_317 hw)) (ty := .long) (by decide)
  have F61_319 : Fld Z h61 b61 "com/example/ratify/ratify/recovery/RecoveryReport" "unreachable" "Ljava/util/List;" .null := D61 (Or.inr (w_319 hw)) (ty := (.object "java/util/List")) (by decide)
  have F61_321 : Fld Z h61 b61 "com/example/ratify/ratify/recovery/RecoveryReport" "failures" "Ljava/util/List;" .null := D61 (Or.inr (w_321 hw)) (ty := (.object "java/util/List")) (by decide)
  have F61_323 : Fld Z h61 b61 "com/example/ratify/ratify/recovery/RecoveryReport" "finished" "Ljava/util/List;" .null := D61 (Or.inr (w_323 hw)) (ty := (.object "java/util/List")) (by decide)
  have F61_325 : Fld Z h61 b61 "com/example/ratify/ratify/recovery/RecoveryReport" "unfinished" "Ljava/util/Map;" .null := D61 (Or.inr (w_325 hw)) (ty := (.object "java/util/Map")) (by decide)
  have F61_327 : Fld Z h61 b61 "com/example/ratify/ratify/recovery/RecoveryReport" "waiting" "Ljava/util/List;" .null := D61 (Or.inr (w_327 hw)) (ty := (.object "java/util/List")) (by decide)
  have F61_329 : Fld Z h61 b61 "com/example/ratify/ratify/recovery/RecoveryReport" "deferred" "Ljava/util/List;" .null := D61 (Or.inr (w_329 hw)) (ty := (.object "java/util/List")) (by decide)
  have F61_331 : Fld Z h61 b61 "com/example/ratify/ratify/recovery/RecoveryReport" "decided" "Ljava/util/List;" .null := D61 (Or.inr (w_331 hw)) (ty := (.object "java/util/List")) (by decide)
  have f64 := f20.keep Kq34 all0
  have f65 := f64.ext E61
  have f66 := r13_0.keep Kq34
  have f67 := f66.ext E61
  have f68 := r13_2.keep Kq34 nin0
  have f69 := f68.ext E61
  have f70 := r34_0.ext E61
  have f71 := r34_1.ext E61
  have f72 := r34_2.ext E61
  have f73 := r34_3.ext E61
  have f74 := r34_4.ext E61
  have f75 := r34_5.ext E61
  have f76 := r34_6.ext E61
  have f77 := r34_7.ext E61
  have f78 := r34_8.ext E61
  have f79 := r34_9.ext E61
  have f80 := r34_10.ext E61
  have f81 := r34_11.ext E61
  have f82 := r34_12.ext E61
  have f83 := r34_13.ext E61
  have f84 := r34_14.ext E61
  have f85 := r34_15.ext E61
  have f86 := r34_16.ext E61
  have f87 := r34_17.ext E61
  have f88 := r34_18.ext E61
  have f89 := r34_19.ext E61
  have f90 := r34_20.ext E61
  have f91 := r34_21.ext E61
  have f92 := f31.keep Kq34
  have f93 := f92.ext E61
  have f94 := f33.keep Kq34
  have f95 := f94.ext E61
  have f96 := r34_26.ext E61
  have f97 := r34_27.ext E61
  have f98 := r34_28.ext E61
  have f99 := r34_29.ext E61
  obtain ⟨_, _, ⟨T63, L63, k63, n63⟩, -, X63, ⟨Lc63, hQ63, l63, y63, z63⟩, st63⟩ := X61.specialBack hx (y := m_50) rfl hown (mvT hZ (w_104 hw)) (mvT hZ (w_105 hw)) (mvT hZ (w_106 hw)) (by decide) (backOf (W := 1) (rm_rr0 l Z a0 hw [] b61 p0 p1 p2 b11 x34_lf x34_l2 x34_v2 x34_kv2 x34_sn2 x34_sN2 x34_vs2 x34_mp x34_l3 x34_v3 x34_kv3 x34_sn3 x34_sN3 x34_vs3 x34_l4 x34_v4 x34_kv4 x34_sn4 x34_sN4 x34_vs4 x34_l5 x34_v5 x34_kv5 x34_sn5 x34_sN5 x34_vs5 x6_a_ x8_a_ el em mo ml mu h61 n0 (by omega) f65 P5 P6 P7 P8 P9 A61 F61_313 F61_315 F61_317 F61_319 F61_321 F61_323 F61_325 F61_327 F61_329 F61_331 f67 f69 f70 f71 f72 f73 f74 f75 f76 f77 f78 f79 f80 f81 f82 f83 f84 f85 f86 f87 f88 f89 f90 f91 f93 f95 f96 f97 f98 f99 (by omega) (by omega) (own_ne (by omega)) (fun q => r34_31 q) (fun q => r34_32 q) (fun q => r34_33 q) (fun q => r34_34 q) (fun q => r34_35 q) (fun q => r34_36 q) r34_22 r34_23 r34_24 r34_25) hZ (w_106 hw) (w_103 hw) (by decide) (by decide)) (g := (mkF m 237 #[.val (.long p0), .second, .val (.long p1), .second, .val (.long p2), .second, vI p3, vI p4, .val (.int (p3 &&& (3 : Int32))), vA x6_a_, vA x8_a_, vA b11, vA x34_lf, vA x34_l2, vA x34_l3, vA x34_l4, vA x34_l5, vA x34_mp, .unset, .unset] [(.ref x34_l5), (.ref x34_l4), (.ref x34_l3), (.ref x34_mp), (.ref x34_l2), (.ref x34_lf), (.ref b11), (.long p2), (.long p1), (.long p0), (.ref b61), (.ref b61)])) rfl (by rw [hml]; rfl) (Steps.refl _) (a := b61) (argsL := [(.long p0), (.long p1), (.long p2), (.ref b11), (.ref x34_lf), (.ref x34_l2), (.ref x34_mp), (.ref x34_l3), (.ref x34_l4), (.ref x34_l5)]) (rest := [(.ref b61)]) (lenOf pd_25 rfl) rfl (Nat.le_of_eq rfl) (hb hby at_237) (fun _ _ => ⟨rfl, e61, (by decide : 16 + 12 ≤ _), (by decide : 86 + 34 ≤ _)⟩)
  dsimp only [Pt.U, Pt.locs, Pt.cells, Pt.slots] at X63 l63 y63 z63 st63 hQ63
  rw [l63, y63, z63] at X63
  obtain ⟨rfl, Nq63, Kq63, r63_0, r63_1, r63_2⟩ := hQ63
  have N63 := Fr.app N34 Nq63
  have z63' := Kq63.1
  have lt100 := own_l r63_0.lt
  have lt101 := own_l r63_1.lt
  have lt102 := own_l r63_2.lt
  obtain ⟨cq103, kq103, qa103, qb103, qc103⟩ := isOf hZ rfl r63_0
  obtain ⟨_, _, ⟨T103, L103, k103, n103⟩, -, X103, ⟨Lc103, hQ103, l103, y103, z103⟩, st103⟩ := X63.virtualBack hx (y := m_53) (z := m_53) hown (mvT hZ (w_332 hw)) (mvT hZ (w_333 hw)) (notFace_of_selects (args := #[]) (mvT hZ (w_335 hw))) (mvT hZ (w_335 hw)) (mvT hZ (w_334 hw)) (by decide) (backOf (W := 0) (rm_cmn l Z a0 hw [] b61 p2 T63.heap n0 (by omega) r63_1 hp) hZ (w_336 hw) (w_103 hw) (by decide) (by decide)) qa103 qc103 (g := (mkF m 262 #[.val (.long p0), .second, .val (.long p1), .second, .val (.long p2), .second, vI p3, vI p4, .val (.int (p3 &&& (3 : Int32))), vA x6_a_, vA x8_a_, vA b11, vA x34_lf, vA x34_l2, vA x34_l3, vA x34_l4, vA x34_l5, vA x34_mp, vA b61, vI 0] [(.ref b61)])) rfl (by rw [hml]; rfl) (Steps.refl _) (argsL := []) (rest := []) (lenOf pd_8 rfl) rfl (Nat.le_of_eq rfl) (hb hby at_262) (fun _ _ => ⟨rfl, rfl, (by decide : 28 + 0 ≤ _), (by decide : 120 + 0 ≤ _)⟩)
  dsimp only [Pt.U, Pt.locs, Pt.cells, Pt.slots] at X103 l103 y103 z103 st103 hQ103
  rw [l103, y103, z103] at X103
  obtain ⟨rfl, Nq103, Kq103⟩ := hQ103
  have N103 := Fr.app N63 Nq103
  obtain ⟨fs, hr, hrun, hended, hW, hsame⟩ := X103.leave (v := some (.int 1)) (fun h => by rw [Bd.returns] at h; cases h)
  refine ⟨_, _, castTop (ef_15 m p0 p1 p2 p3 p4) ?_, hrun, hended, _, _, rfl, ?_, ⟨_, rfl⟩, hW, hsame.mono (by decide) (by decide)⟩
  · show Steps _ _ _ (s₁.setTop (mkF m 0 #[.val (.long p0), .second, .val (.long p1), .second, .val (.long p2), .second, vI p3, vI p4, .unset, .unset, .unset, .unset, .unset, .unset, .unset, .unset, .unset, .unset, .unset, .unset] [])) _
    refine XS.iload X0.here hx rfl (hb hby at_0) rfl ?_
    refine XS.iconst X0.here hx rfl (hb hby at_2) ?_
    refine XS.iand X0.here hx rfl (hb hby at_3) rfl ?_
    refine XS.istore X0.here hx rfl (hb hby at_4) rfl (l' := #[.val (.long p0), .second, .val (.long p1), .second, .val (.long p2), .second, vI p3, vI p4, .val (.int (p3 &&& (3 : Int32))), .unset, .unset, .unset, .unset, .unset, .unset, .unset, .unset, .unset, .unset, .unset]) rfl ?_
    refine XS.iload X0.here hx rfl (hb hby at_6) rfl ?_
    refine XS.sipush X0.here hx rfl (hb hby at_8) ?_
    refine XS.iand X0.here hx rfl (hb hby at_11) rfl ?_
    refine XS.i2c X0.here hx rfl (hb hby at_12) rfl ?_
    refine st6 _ ?_
    show Steps _ _ _ (T6.setTop (mkF m 16 #[.val (.long p0), .second, .val (.long p1), .second, .val (.long p2), .second, vI p3, vI p4, .val (.int (p3 &&& (3 : Int32))), .unset, .unset, .unset, .unset, .unset, .unset, .unset, .unset, .unset, .unset, .unset] [(.ref x6_a_)])) _
    refine XS.astore X6.here hx rfl (hb hby at_16) rfl rfl (l' := #[.val (.long p0), .second, .val (.long p1), .second, .val (.long p2), .second, vI p3, vI p4, .val (.int (p3 &&& (3 : Int32))), vA x6_a_, .unset, .unset, .unset, .unset, .unset, .unset, .unset, .unset, .unset, .unset]) rfl ?_
    refine XS.iload X6.here hx rfl (hb hby at_18) rfl ?_
    refine XS.bipush X6.here hx rfl (hb hby at_20) ?_
    refine XS.iushr X6.here hx rfl (hb hby at_22) rfl ?_
    refine XS.sipush X6.here hx rfl (hb hby at_23) ?_
    refine XS.iand X6.here hx rfl (hb hby at_26) rfl ?_
    refine XS.i2c X6.here hx rfl (hb hby at_27) rfl ?_
    refine st8 _ ?_
    show Steps _ _ _ (T8.setTop (mkF m 31 #[.val (.long p0), .second, .val (.long p1), .second, .val (.long p2), .second, vI p3, vI p4, .val (.int (p3 &&& (3 : Int32))), vA x6_a_, .unset, .unset, .unset, .unset, .unset, .unset, .unset, .unset, .unset, .unset] [(.ref x8_a_)])) _
    refine XS.astore X8.here hx rfl (hb hby at_31) rfl rfl (l' := #[.val (.long p0), .second, .val (.long p1), .second, .val (.long p2), .second, vI p3, vI p4, .val (.int (p3 &&& (3 : Int32))), vA x6_a_, vA x8_a_, .unset, .unset, .unset, .unset, .unset, .unset, .unset, .unset, .unset]) rfl ?_
    refine st11 _ ?_
    show Steps _ _ _ (T11.setTop (mkF m 36 #[.val (.long p0), .second, .val (.long p1), .second, .val (.long p2), .second, vI p3, vI p4, .val (.int (p3 &&& (3 : Int32))), vA x6_a_, vA x8_a_, .unset, .unset, .unset, .unset, .unset, .unset, .unset, .unset, .unset] [(.ref b11)])) _
    refine XS.dup X11.here hx rfl (hb hby at_36) rfl rfl ?_
    refine st13.trans ?_
    show Steps _ _ _ (T13.setTop (mkF m 40 #[.val (.long p0), .second, .val (.long p1), .second, .val (.long p2), .second, vI p3, vI p4, .val (.int (p3 &&& (3 : Int32))), vA x6_a_, vA x8_a_, .unset, .unset, .unset, .unset, .unset, .unset, .unset, .unset, .unset] [(.ref b11)])) _
    refine XS.astore X13.here hx rfl (hb hby at_40) rfl rfl (l' := #[.val (.long p0), .second, .val (.long p1), .second, .val (.long p2), .second, vI p3, vI p4, .val (.int (p3 &&& (3 : Int32))), vA x6_a_, vA x8_a_, vA b11, .unset, .unset, .unset, .unset, .unset, .unset, .unset, .unset]) rfl ?_
    refine XS.iload X13.here hx rfl (hb hby at_42) rfl ?_
    refine XS.iconst X13.here hx rfl (hb hby at_44) ?_
    refine XS.icmpYes X13.here hx rfl (pc0 := 45) (pc' := 58) rfl (hb hby at_45) rfl (tlt (h1 : (p3 &&& (3 : Int32)) < (1 : Int32))).1 (by decide) (by decide) ?_
    refine XS.iload X13.here hx rfl (hb hby at_58) rfl ?_
    refine XS.iconst X13.here hx rfl (hb hby at_60) ?_
    refine XS.icmpYes X13.here hx rfl (pc0 := 61) (pc' := 74) rfl (hb hby at_61) rfl (tlt (h2 : (p3 &&& (3 : Int32)) < (2 : Int32))).1 (by decide) (by decide) ?_
    refine XS.iload X13.here hx rfl (hb hby at_74) rfl ?_
    refine XS.iconst X13.here hx rfl (hb hby at_76) ?_
    refine XS.icmpYes X13.here hx rfl (pc0 := 77) (pc' := 90) rfl (hb hby at_77) rfl (tlt (h3 : (p3 &&& (3 : Int32)) < (3 : Int32))).1 (by decide) (by decide) ?_
    refine st34 _ ?_
    show Steps _ _ _ (T34.setTop (mkF m 215 #[.val (.long p0), .second, .val (.long p1), .second, .val (.long p2), .second, vI p3, vI p4, .val (.int (p3 &&& (3 : Int32))), vA x6_a_, vA x8_a_, vA b11, vA x34_lf, vA x34_l2, vA x34_l3, vA x34_l4, vA x34_l5, vA x34_mp, .unset, .unset] [])) _
    refine st61 _ ?_
    show Steps _ _ _ (T61.setTop (mkF m 218 #[.val (.long p0), .second, .val (.long p1), .second, .val (.long p2), .second, vI p3, vI p4, .val (.int (p3 &&& (3 : Int32))), vA x6_a_, vA x8_a_, vA b11, vA x34_lf, vA x34_l2, vA x34_l3, vA x34_l4, vA x34_l5, vA x34_mp, .unset, .unset] [(.ref b61)])) _
    refine XS.dup X61.here hx rfl (hb hby at_218) rfl rfl ?_
    refine XS.lloadN X61.here hx rfl (hb hby at_219) rfl ?_
    refine XS.lloadN X61.here hx rfl (hb hby at_220) rfl ?_
    refine XS.lload X61.here hx rfl (hb hby at_221) rfl ?_
    refine XS.aload X61.here hx rfl (hb hby at_223) rfl rfl ?_
    refine XS.aload X61.here hx rfl (hb hby at_225) rfl rfl ?_
    refine XS.aload X61.here hx rfl (hb hby at_227) rfl rfl ?_
    refine XS.aload X61.here hx rfl (hb hby at_229) rfl rfl ?_
    refine XS.aload X61.here hx rfl (hb hby at_231) rfl rfl ?_
    refine XS.aload X61.here hx rfl (hb hby at_233) rfl rfl ?_
    refine XS.aload X61.here hx rfl (hb hby at_235) rfl rfl ?_
    refine st63.trans ?_
    show Steps _ _ _ (T63.setTop (mkF m 240 #[.val (.long p0), .second, .val (.long p1), .second, .val (.long p2), .second, vI p3, vI p4, .val (.int (p3 &&& (3 : Int32))), vA x6_a_, vA x8_a_, vA b11, vA x34_lf, vA x34_l2, vA x34_l3, vA x34_l4, vA x34_l5, vA x34_mp, .unset, .unset] [(.ref b61)])) _
    refine XS.astore X63.here hx rfl (hb hby at_240) rfl rfl (l' := #[.val (.long p0), .second, .val (.long p1), .second, .val (.long p2), .second, vI p3, vI p4, .val (.int (p3 &&& (3 : Int32))), vA x6_a_, vA x8_a_, vA b11, vA x34_lf, vA x34_l2, vA x34_l3, vA x34_l4, vA x34_l5, vA x34_mp, vA b61, .unset]) rfl ?_
    refine XS.iconst X63.here hx rfl (hb hby at_242) ?_
    refine XS.istore X63.here hx rfl (hb hby at_243) rfl (l' := #[.val (.long p0), .second, .val (.long p1), .second, .val (.long p2), .second, vI p3, vI p4, .val (.int (p3 &&& (3 : Int32))), vA x6_a_, vA x8_a_, vA b11, vA x34_lf, vA x34_l2, vA x34_l3, vA x34_l4, vA x34_l5, vA x34_mp, vA b61, vI 0]) rfl ?_
    refine XS.lload X63.here hx rfl (hb hby at_245) rfl ?_
    refine XS.lconst X63.here hx rfl (hb hby at_247) ?_
    refine XS.lcmp X63.here hx rfl (hb hby at_248) rfl ?_
    refine XS.ifYes X63.here hx rfl (pc0 := 249) (pc' := 260) rfl (hb hby at_249) rfl ((if0 _ _).trans (feq (hp : ¬ ((lcmpW p2 (0 : Int64)) = (0 : Int32)))).2) (by decide) (by decide) ?_
    refine XS.aload X63.here hx rfl (hb hby at_260) rfl rfl ?_
    refine st103.trans ?_
    show Steps _ _ _ (T103.setTop (mkF m 265 #[.val (.long p0), .second, .val (.long p1), .second, .val (.long p2), .second, vI p3, vI p4, .val (.int (p3 &&& (3 : Int32))), vA x6_a_, vA x8_a_, vA b11, vA x34_lf, vA x34_l2, vA x34_l3, vA x34_l4, vA x34_l5, vA x34_mp, vA b61, vI 0] [(.int 0)])) _
    refine XS.iload X103.here hx rfl (hb hby at_265) rfl ?_
    refine XS.icmpNo X103.here hx rfl (hb hby at_267) rfl (teq ((by decide) : (0 : Int32) = (0 : Int32))).2 ?_
    refine XS.iconst X103.here hx rfl (hb hby at_270) ?_
    refine XS.goto X103.here hx rfl (pc0 := 271) (pc' := 275) rfl (hb hby at_271) (by decide) (by decide) ?_
    exact retN X103 hx (t := .boolean) Bd.returns (by simp) (hb hby at_275) hr
  · show Q_law Z p0 p1 p2 p3 p4 cp dc kd el em mo ml mu ee ke h0 n0 _ T103.heap _
    rw [(Kq103 : T103.heap = T63.heap)]
    exact ⟨rfl, N103⟩
theorem rm_law_12 (l : Launch) (Z : State) (a0 : Array Value) (hw : HW Z a0) (ws : List Jvm.Cond) (p0 : Int64) (p1 : Int64) (p2 : Int64) (p3 : Int32) (p4 : Int32) (cp : Int32) (dc : Addr) (kd : ClassId) (el : Addr) (em : Addr) (mo : Addr) (ml : Addr) (mu : Addr) (ee : Addr) (ke : ClassId) (h0 : Heap) (n0 : Nat) (Z0 : n0 ≤ h0.size) (P0 : Old Z n0 h0) (P1 : sta0 Z (.int cp)) (P2 : sta1 Z (.ref dc)) (P3 : Arv Z h0 dc kd (.object "java/lang/Object") (0 : Int32) [] .null) (P4 : Exa Z h0 dc "[Ljava/lang/Object;") (P5 : sta2 Z (.ref el)) (P6 : sta3 Z (.ref em)) (P7 : Mi Z "[Ljava/lang/Object;" mo) (P8 : Mi Z "java/util/LinkedHashMap" ml) (P9 : Mi Z "java/util/Collections$UnmodifiableMap" mu) (P10 : Exa Z h0 el "java/util/ImmutableCollections$ListN") (P11 : fld10 Z h0 el (.ref ee)) (P12 : Arv Z h0 ee ke (.object "java/lang/Object") (0 : Int32) [] .null) (hcs : ¬ (cp = (0 : Int32))) (h1 : ¬ ((p3 &&& (3 : Int32)) < (1 : Int32))) (h2 : (p3 &&& (3 : Int32)) < (2 : Int32)) (h3 : (p3 &&& (3 : Int32)) < (3 : Int32)) (hz : ¬ ((p3 &&& (3 : Int32)) = (0 : Int32))) :
    MetFree l x (head1 (Jvm.Cond.code x code maxLocals ret :: ws) room_1) (fun as' U => as' = #[(.long p0), (.long p1), (.long p2), (.int p3), (.int p4)] ∧ Z.Warmed39 U.vm ∧ U.heap = h0) (fun _ _ _ _ _ => True) (fun _ U o U' => ∃ v L, o = .returned v ∧ Q_law Z p0 p1 p2 p3 p4 cp dc kd el em mo ml mu ee ke h0 n0 v U'.heap L ∧ FrameEnd U o U' L room_1.cells room_1.slots) := by
  refine MetFree.of_bodySF (plainFor_of_name pn_26) hisR ?_
  intro p e s m args below meth c s₁ Bd hml0 hP hK
  have hK0 := hK
  obtain ⟨rfl, hZ, hh⟩ := hP
  have hx := Bd.exec
  have hby := Bd.bytes
  have hml : c.maxLocals = 20 := hml0
  have hown : s.vm.findClass "com/example/ratify/ratify/recovery/RecoveryReportCompletePinLaw" = some m.cls := findClass_of_methodNamed Bd.named
  have hnm := (name_of_methodNamed Bd.named Bd.method).1
  have X0 : Stand p l e room_1 s m #[(.long p0), (.long p1), (.long p2), (.int p3), (.int p4)] below meth c s₁ [] 0 0 := Stand.of_body Bd
  have e0 : s₁.heap = h0 := by rw [← hh, Bd.state]; rfl
  have N0 := Fr.nil n0
  have lt1 := own_l P3.lt
  have lt2 := own_l P4.lt
  have lt3 := own_l P10.lt
  have lt4 := own_l P11.lt
  have lt5 := own_l P12.lt
  obtain ⟨_, _, ⟨T6, L6, k6, n6⟩, -, X6, ⟨Lc6, hQ6, l6, y6, z6⟩, st6⟩ := Jvm.LawKit.callS X0 hx (y := m_4) hown (mvT hZ (w_0 hw)) (mvT hZ (w_1 hw)) (mvT hZ (w_2 hw)) (mvT hZ (w_3 hw)) (by decide) (backOf (W := 0) (rm_valueC l Z a0 hw [] (((p4 &&& (255 : Int32)).toUInt32.toUInt16.toUInt32.toInt32)) cp h0 n0 (by omega) P0 P1 hcs (own_ch _)) hZ (w_3 hw) (w_2 hw) (by decide) (by decide)) (g := (mkF m 13 #[.val (.long p0), .second, .val (.long p1), .second, .val (.long p2), .second, vI p3, vI p4, .val (.int (p3 &&& (3 : Int32))), .unset, .unset, .unset, .unset, .unset, .unset, .unset, .unset, .unset, .unset, .unset] [(.int ((p4 &&& (255 : Int32)).toUInt32.toUInt16.toUInt32.toInt32))])) rfl (by rw [hml]; rfl) (argsL := [(.int ((p4 &&& (255 : Int32)).toUInt32.toUInt16.toUInt32.toInt32))]) (rest := []) (lenOf pd_24 rfl) rfl (Nat.le_of_eq rfl) (hb hby at_13) (fun _ _ => ⟨rfl, e0, (by decide : 0 + 2 ≤ _), (by decide : 0 + 5 ≤ _)⟩)
  dsimp only [Pt.U, Pt.locs, Pt.cells, Pt.slots] at X6 l6 y6 z6 st6 hQ6
  rw [l6, y6, z6] at X6
  obtain ⟨x6_a_, rfl, Nq6, Kq6, r6_0, r6_1⟩ := hQ6
  have N6 := Fr.app N0 Nq6
  have z6' := Kq6.1
  have lt7 := own_l r6_1.lt
  have f9 := P0.keep Kq6 all0
  obtain ⟨_, _, ⟨T8, L8, k8, n8⟩, -, X8, ⟨Lc8, hQ8, l8, y8, z8⟩, st8⟩ := Jvm.LawKit.callS X6 hx (y := m_4) hown (mvT hZ (w_0 hw)) (mvT hZ (w_1 hw)) (mvT hZ (w_2 hw)) (mvT hZ (w_3 hw)) (by decide) (backOf (W := 0) (rm_valueC l Z a0 hw [] (((((p4.toUInt32 >>> ((8 : Int32) &&& 31).toUInt32).toInt32) &&& (255 : Int32)).toUInt32.toUInt16.toUInt32.toInt32)) cp T6.heap n0 (by omega) f9 P1 hcs (own_ch _)) hZ (w_3 hw) (w_2 hw) (by decide) (by decide)) (g := (mkF m 28 #[.val (.long p0), .second, .val (.long p1), .second, .val (.long p2), .second, vI p3, vI p4, .val (.int (p3 &&& (3 : Int32))), vA x6_a_, .unset, .unset, .unset, .unset, .unset, .unset, .unset, .unset, .unset, .unset] [(.int ((((p4.toUInt32 >>> ((8 : Int32) &&& 31).toUInt32).toInt32) &&& (255 : Int32)).toUInt32.toUInt16.toUInt32.toInt32))])) rfl (by rw [hml]; rfl) (argsL := [(.int ((((p4.toUInt32 >>> ((8 : Int32) &&& 31).toUInt32).toInt32) &&& (255 : Int32)).toUInt32.toUInt16.toUInt32.toInt32))]) (rest := []) (lenOf pd_24 rfl) rfl (Nat.le_of_eq rfl) (hb hby at_28) (fun _ _ => ⟨rfl, rfl, (by decide : 2 + 2 ≤ _), (by decide : 5 + 5 ≤ _)⟩)
  dsimp only [Pt.U, Pt.locs, Pt.cells, Pt.slots] at X8 l8 y8 z8 st8 hQ8
  rw [l8, y8, z8] at X8
  obtain ⟨x8_a_, rfl, Nq8, Kq8, r8_0, r8_1⟩ := hQ8
  have N8 := Fr.app N6 Nq8
  have z8' := Kq8.1
  have lt10 := own_l r8_1.lt
  obtain ⟨T11, h11, X11, e11, E11, A11, D11, -, st11⟩ := newO X8 hx hZ hown (w_26 hw) (w_27 hw) (w_28 hw) rfl (g := (mkF m 33 #[.val (.long p0), .second, .val (.long p1), .second, .val (.long p2), .second, vI p3, vI p4, .val (.int (p3 &&& (3 : Int32))), vA x6_a_, vA x8_a_, .unset, .unset, .unset, .unset, .unset, .unset, .unset, .unset, .unset] [])) rfl (hb hby at_33) (by decide) (by decide)
  obtain ⟨b11, g11⟩ : ∃ z, z = T8.heap.size := ⟨_, rfl⟩
  rw [← g11] at A11 D11 st11
  have z11 := E11.1
  have lt12 := own_l A11.lt
  have F11_46 : Fld Z h11 b11 "java/util/AbstractList" "modCount" "I" (.int 0) := D11 (Or.inl (w_46 hw)) (ty := .int) (by decide)
  have F11_49 : Fld Z h11 b11 "java/util/ArrayList" "elementData" "[Ljava/lang/Object;" .null := D11 (Or.inl (w_49 hw)) (ty := (.array (.object "java/lang/Object"))) (by decide)
  have F11_62 : Fld Z h11 b11 "java/util/ArrayList" "size" "I" (.int 0) := D11 (Or.inl (w_62 hw)) (ty := .int) (by decide)
  have f14 := f9.keep Kq8 all0
  have f15 := f14.ext E11
  obtain ⟨_, _, ⟨T13, L13, k13, n13⟩, -, X13, ⟨Lc13, hQ13, l13, y13, z13⟩, st13⟩ := X11.specialBack hx (y := m_7) rfl hown (mvT hZ (w_29 hw)) (mvT hZ (w_30 hw)) (mvT hZ (w_31 hw)) (by decide) (backOf (W := 1) (rm_ali l Z a0 hw [] b11 dc h11 n0 (by omega) f15 P2 A11 F11_46 F11_62 F11_49 (by omega)) hZ (w_31 hw) (w_28 hw) (by decide) (by decide)) (g := (mkF m 37 #[.val (.long p0), .second, .val (.long p1), .second, .val (.long p2), .second, vI p3, vI p4, .val (.int (p3 &&& (3 : Int32))), vA x6_a_, vA x8_a_, .unset, .unset, .unset, .unset, .unset, .unset, .unset, .unset, .unset] [(.ref b11), (.ref b11)])) rfl (by rw [hml]; rfl) (Steps.refl _) (a := b11) (argsL := []) (rest := [(.ref b11)]) (lenOf pd_3 rfl) rfl (Nat.le_of_eq rfl) (hb hby at_37) (fun _ _ => ⟨rfl, e11, (by decide : 5 + 0 ≤ _), (by decide : 13 + 0 ≤ _)⟩)
  dsimp only [Pt.U, Pt.locs, Pt.cells, Pt.slots] at X13 l13 y13 z13 st13 hQ13
  rw [l13, y13, z13] at X13
  obtain ⟨rfl, Nq13, Kq13, r13_0, r13_1, r13_2, r13_3⟩ := hQ13
  have N13 := Fr.app N8 Nq13
  have z13' := Kq13.1
  have lt16 := own_l r13_0.lt
  have lt17 := own_l r13_1.lt
  have lt18 := own_l r13_2.lt
  have lt19 := own_l r13_3.lt
  have f21 := f15.keep Kq13 (allS (by omega) all0)
  have f22 := P3.keep Kq6 nin0
  have f23 := f22.keep Kq8 nin0
  have f24 := f23.ext E11
  have f25 := f24.keep Kq13 (ninS (own_ne (by omega)) nin0)
  have f26 := r6_1.keep Kq8
  have f27 := f26.ext E11
  have f28 := f27.keep Kq13
  obtain ⟨cq20, kq20, qa20, qb20, qc20⟩ := isOf hZ rfl r13_0
  obtain ⟨_, _, ⟨T20, L20, k20, n20⟩, -, X20, ⟨Lc20, hQ20, l20, y20, z20⟩, st20⟩ := X13.interfaceBack hx (xi := m_55) (y := m_12) (C := "java/util/ArrayList") hown (mvT hZ (w_50 hw)) (mvT hZ (w_51 hw)) (mvT hZ (w_52 hw)) (mvT hZ (w_53 hw)) (mvT hZ (w_54 hw)) (mvT hZ (w_55 hw)) (mvT hZ (w_56 hw)) (mvT hZ (w_57 hw)) (by decide) (backOf (W := 0) (rm_add0 l Z a0 hw [] b11 x6_a_ ((0 : Int32)) dc kd T13.heap n0 (by omega) f21 P2 r13_0 r13_1 r13_2 r13_3 f25 (by omega) (own_ne (by omega)) f28) hZ (w_58 hw) (w_28 hw) (by decide) (by decide)) qa20 qb20 qc20 (g := (mkF m 52 #[.val (.long p0), .second, .val (.long p1), .second, .val (.long p2), .second, vI p3, vI p4, .val (.int (p3 &&& (3 : Int32))), vA x6_a_, vA x8_a_, vA b11, .unset, .unset, .unset, .unset, .unset, .unset, .unset, .unset] [(.ref x6_a_), (.ref b11)])) rfl (by rw [hml]; rfl) (Steps.refl _) (argsL := [(.ref x6_a_)]) (rest := []) (lenOf pd_23 rfl) rfl (Nat.le_of_eq rfl) (hb hby at_52) (fun _ _ => ⟨rfl, rfl, (by decide : 5 + 1 ≤ _), (by decide : 13 + 10 ≤ _)⟩)
  dsimp only [Pt.U, Pt.locs, Pt.cells, Pt.slots] at X20 l20 y20 z20 st20 hQ20
  rw [l20, y20, z20] at X20
  obtain ⟨x20_b, x20_k, rfl, Nq20, Kq20, r20_0, r20_1, r20_2, r20_3, r20_4, r20_5, r20_6, r20_7⟩ := hQ20
  have N20 := Fr.app N13 Nq20
  have z20' := Kq20.1
  have lt29 := own_l r20_1.lt
  have lt30 := own_l r20_2.lt
  have lt31 := own_l r20_3.lt
  have lt32 := own_l r20_4.lt
  have lt33 := own_l r20_5.lt
  have lt34 := own_l r20_7.lt
  have f35 := f21.keep Kq20 (allS (by omega) all0)
  have f36 := f25.keep Kq20 (ninS (own_ne (by omega)) nin0)
  have f37 := P4.keep Kq6
  have f38 := f37.keep Kq8
  have f39 := f38.ext E11
  have f40 := f39.keep Kq13
  have f41 := f40.keep Kq20
  have f42 := f28.keep Kq20
  have f43 := r8_1.ext E11
  have f44 := f43.keep Kq13
  have f45 := f44.keep Kq20
  obtain ⟨T46, h46, L46, x46_lf, x46_l2, x46_v2, x46_kv2, x46_sn2, x46_sN2, x46_vs2, x46_l3, x46_v3, x46_kv3, x46_sn3, x46_sN3, x46_vs3, x46_l4, x46_v4, x46_kv4, x46_sn4, x46_sN4, x46_vs4, x46_l5, x46_v5, x46_kv5, x46_sn5, x46_sN5, x46_vs5, x46_mp, X46, e46, N46, Kq46, r46_0, r46_1, r46_2, r46_3, r46_4, r46_5, r46_6, r46_7, r46_8, r46_9, r46_10, r46_11, r46_12, r46_13, r46_14, r46_15, r46_16, r46_17, r46_18, r46_19, r46_20, r46_21, r46_22, r46_23, r46_24, r46_25, r46_26, r46_27, r46_28, r46_29, r46_30, r46_31, r46_32, r46_33, r46_34, r46_35, r46_36, st46⟩ := pz_rest X20 hx hw hZ hown hby hml p0 p1 p2 p3 p4 x6_a_ x8_a_ b11 dc kd rfl N20 (by omega) f35 P2 f36 f41 f42 f45 (by decide) (by decide) (by decide) (by decide)
  have z46' := Kq46.1
  have lt47 := own_l r46_0.lt
  have lt48 := own_l r46_1.lt
  have lt49 := own_l r46_2.lt
  have lt50 := own_l r46_3.lt
  have lt51 := own_l r46_4.lt
  have lt52 := own_l r46_5.lt
  have lt53 := own_l r46_6.lt
  have lt54 := own_l r46_7.lt
  have lt55 := own_l r46_8.lt
  have lt56 := own_l r46_9.lt
  have lt57 := own_l r46_10.lt
  have lt58 := own_l r46_11.lt
  have lt59 := own_l r46_12.lt
  have lt60 := own_l r46_13.lt
  have lt61 := own_l r46_14.lt
  have lt62 := own_l r46_15.lt
  have lt63 := own_l r46_16.lt
  have lt64 := own_l r46_17.lt
  have lt65 := own_l r46_18.lt
  have lt66 := own_l r46_19.lt
  have lt67 := own_l r46_20.lt
  have lt68 := own_l r46_21.lt
  have lt69 := own_l r46_26.lt
  have lt70 := own_l r46_27.lt
  have lt71 := own_l r46_28.lt
  have lt72 := own_l r46_29.lt
  obtain ⟨T73, h73, X73, e73, E73, A73, D73, -, st73⟩ := newO X46 hx hZ hown (w_101 hw) (w_102 hw) (w_103 hw) e46 (g := (mkF m 215 #[.val (.long p0), .second, .val (.long p1), .second, .val (.long p2), .second, vI p3, vI p4, .val (.int (p3 &&& (3 : Int32))), vA x6_a_, vA x8_a_, vA b11, vA x46_lf, vA x46_l2, vA x46_l3, vA x46_l4, vA x46_l5, vA x46_mp, .unset, .unset] [])) rfl (hb hby at_215) (by decide) (by decide)
  obtain ⟨b73, g73⟩ : ∃ z, z = h46.size := ⟨_, rfl⟩
  rw [← g73] at A73 D73 st73
  have z73 := E73.1
  have lt74 := own_l A73.lt
  have F73_313 : Fld Z h73 b73 "com/example/ratify/ratify/recovery/RecoveryReport" "committed" "J" (.long (0 : Int64)) := D73 (Or.inr (w_313 hw)) (ty := .long) (by decide)
  have F73_315 : Fld Z h73 b73 "com/example/ratify/ratify/recovery/RecoveryReport" "rolledBack" "J" (.long (0 : Int64)) := D73 (Or.inr (w_315 hw)) (ty := .long) (by decide)
  have F73_317 : Fld Z h73 b73 "com/example/ratify/ratify/recovery/RecoveryReport" "pending" "J" (.long (0 : Int64)) := D73 (Or.inr (w_317 hw)) (ty := .long) (by decide)
  have F73_319 : Fld Z h73 b73 "com/example/ratify/ratify/recovery/RecoveryReport" "unreachable" "Ljava/util/List;" .null := D73 (Or.inr (w_319 hw)) (ty := (.object "java/util/List")) (by decide)
  have F73_321 : Fld Z h73 b73 "com/example/ratify/ratify/recovery/RecoveryReport" "failures" "Ljava/util/List;" .null := D73 (Or.inr (w_321 hw)) (ty := (.object "java/util/List")) (by decide)
  have F73_323 : Fld Z h73 b73 "com/example/ratify/ratify/recovery/RecoveryReport" "finished" "Ljava/util/List;" .null := D73 (Or.inr (w_323 hw)) (ty := (.object "java/util/List")) (by decide)
  have F73_325 : Fld Z h73 b73 "com/example/ratify/ratify/recovery/RecoveryReport" "unfinished" "Ljava/util/Map;" .null := D73 (Or.inr (w_325 hw)) (ty := (.object "java/util/Map")) (by decide)
  have F73_327 : Fld Z h73 b73 "com/example/ratify/ratify/recovery/RecoveryReport" "waiting" "Ljava/util/List;" .null := D73 (Or.inr (w_327 hw)) (ty := (.object "java/util/List")) (by decide)
  have F73_329 : Fld Z h73 b73 "com/example/ratify/ratify/recovery/RecoveryReport" "deferred" "Ljava/util/List;" .null := D73 (Or.inr (w_329 hw)) (ty := (.object "java/util/List")) (by decide)
  have F73_331 : Fld Z h73 b73 "com/example/ratify/ratify/recovery/RecoveryReport" "decided" "Ljava/util/List;" .null := D73 (Or.inr (w_331 hw)) (ty := (.object "java/util/List")) (by decide)
  have f76 := f35.keep Kq46 all0
  have f77 := f76.ext E73
  have f78 := r20_1.keep Kq46
  have f79 := f78.ext E73
  have f80 := r20_3.keep Kq46 nin0
  have f81 := f80.ext E73
  have f82 := r20_4.keep Kq46 nin0
  have f83 := f82.ext E73
  have f84 := r20_5.keep Kq46
  have f85 := f84.ext E73
  have f86 := r20_7.keep Kq46 nin0
  have f87 := f86.ext E73
  have f88 := r46_0.ext E73
  have f89 := r46_1.ext E73
  have f90 := r46_2.ext E73
  have f91 := r46_3.ext E73
  have f92 := r46_4.ext E73
  have f93 := r46_5.ext E73
  have f94 := r46_6.ext E73
  have f95 := r46_7.ext E73
  have f96 := r46_8.ext E73
  have f97 := r46_9.ext E73
  have f98 := r46_10.ext E73
  have f99 := r46_11.ext E73
  have f100 := r46_12.ext E73
  have f101 := r46_13.ext E73
  have f102 := r46_14.ext E73
  have f103 := r46_15.ext E73
  have f104 := r46_16.ext E73
  have f105 := r46_17.ext E73
  have f106 := r46_18.ext E73
  have f107 := r46_19.ext E73
  have f108 := r46_20.ext E73
  have f109 := r46_21.ext E73
  have f110 := f42.keep Kq46
  have f111 := f110.ext E73
  have f112 := f45.keep Kq46
  have f113 := f112.ext E73
  have f114 := r46_26.ext E73
  have f115 := r46_27.ext E73
  have f116 := r46_28.ext E73
  have f117 := r46_29.ext E73
  obtain ⟨_, _, ⟨T75, L75, k75, n75⟩, -, X75, ⟨Lc75, hQ75, l75, y75, z75⟩, st75⟩ := X73.specialBack hx (y := m_50) rfl hown (mvT hZ (w_104 hw)) (mvT hZ (w_105 hw)) (mvT hZ (w_106 hw)) (by decide) (backOf (W := 1) (rm_rr1 l Z a0 hw [] b73 p0 p1 p2 b11 x20_b x20_k x46_lf x46_l2 x46_v2 x46_kv2 x46_sn2 x46_sN2 x46_vs2 x46_mp x46_l3 x46_v3 x46_kv3 x46_sn3 x46_sN3 x46_vs3 x46_l4 x46_v4 x46_kv4 x46_sn4 x46_sN4 x46_vs4 x46_l5 x46_v5 x46_kv5 x46_sn5 x46_sN5 x46_vs5 x6_a_ x8_a_ el em mo ml mu h73 n0 (by omega) f77 P5 P6 P7 P8 P9 A73 F73_313 F73_315 F73_317 F73_319 F73_321 F73_323 F73_325 F73_327 F73_329 F73_331 f79 f81 f83 f85 f87 f88 f89 f90 f91 f92 f93 f94 f95 f96 f97 f98 f99 f100 f101 f102 f103 f104 f105 f106 f107 f108 f109 f111 f113 f114 f115 f116 f117 (by omega) (by omega) (own_ne (by omega)) (fun q => r46_31 q) (fun q => r46_32 q) (fun q => r46_33 q) (fun q => r46_34 q) (fun q => r46_35 q) (fun q => r46_36 q) r46_22 r46_23 r46_24 r46_25) hZ (w_106 hw) (w_103 hw) (by decide) (by decide)) (g := (mkF m 237 #[.val (.long p0), .second, .val (.long p1), .second, .val (.long p2), .second, vI p3, vI p4, .val (.int (p3 &&& (3 : Int32))), vA x6_a_, vA x8_a_, vA b11, vA x46_lf, vA x46_l2, vA x46_l3, vA x46_l4, vA x46_l5, vA x46_mp, .unset, .unset] [(.ref x46_l5), (.ref x46_l4), (.ref x46_l3), (.ref x46_mp), (.ref x46_l2), (.ref x46_lf), (.ref b11), (.long p2), (.long p1), (.long p0), (.ref b73), (.ref b73)])) rfl (by rw [hml]; rfl) (Steps.refl _) (a := b73) (argsL := [(.long p0), (.long p1), (.long p2), (.ref b11), (.ref x46_lf), (.ref x46_l2), (.ref x46_mp), (.ref x46_l3), (.ref x46_l4), (.ref x46_l5)]) (rest := [(.ref b73)]) (lenOf pd_25 rfl) rfl (Nat.le_of_eq rfl) (hb hby at_237) (fun _ _ => ⟨rfl, e73, (by decide : 17 + 14 ≤ _), (by decide : 96 + 37 ≤ _)⟩)
  dsimp only [Pt.U, Pt.locs, Pt.cells, Pt.slots] at X75 l75 y75 z75 st75 hQ75
  rw [l75, y75, z75] at X75
  obtain ⟨x75_r, rfl, Nq75, Kq75, r75_0, r75_1, r75_2, r75_3, r75_4⟩ := hQ75
  have N75 := Fr.app N46 Nq75
  have z75' := Kq75.1
  have lt118 := own_l r75_0.lt
  have lt119 := own_l r75_1.lt
  have lt120 := own_l r75_2.lt
  have lt121 := own_l r75_4.lt
  obtain ⟨T122, h122, L122, X122, e122, N122, Kq122, st122⟩ := pz_xz X75 hx hw hZ hown hby hml p0 p1 p2 p3 p4 x6_a_ x8_a_ b11 x46_lf x46_l2 x46_l3 x46_l4 x46_l5 x46_mp b73 rfl N75 (by omega) hz (by decide) (by decide) (by decide) (by decide)
  have z122' := Kq122.1
  have f124 := r75_1.keep Kq122 nin0
  have f125 := r75_2.keep Kq122 nin0
  have f126 := r75_4.keep Kq122
  have f127 := r75_0.keep Kq122
  obtain ⟨cq123, kq123, qa123, qb123, qc123⟩ := isOf hZ e122 f127
  obtain ⟨_, _, ⟨T123, L123, k123, n123⟩, -, X123, ⟨Lc123, hQ123, l123, y123, z123⟩, st123⟩ := X122.virtualBack hx (y := m_53) (z := m_53) hown (mvT hZ (w_332 hw)) (mvT hZ (w_333 hw)) (notFace_of_selects (args := #[]) (mvT hZ (w_335 hw))) (mvT hZ (w_335 hw)) (mvT hZ (w_334 hw)) (by decide) (backOf (W := 0) (rm_cm12 l Z a0 hw [] b73 p2 x75_r h122 n0 (by omega) f124 f125 f126) hZ (w_336 hw) (w_103 hw) (by decide) (by decide)) qa123 qc123 (g := (mkF m 262 #[.val (.long p0), .second, .val (.long p1), .second, .val (.long p2), .second, vI p3, vI p4, .val (.int (p3 &&& (3 : Int32))), vA x6_a_, vA x8_a_, vA b11, vA x46_lf, vA x46_l2, vA x46_l3, vA x46_l4, vA x46_l5, vA x46_mp, vA b73, vI 0] [(.ref b73)])) rfl (by rw [hml]; rfl) (Steps.refl _) (argsL := []) (rest := []) (lenOf pd_8 rfl) rfl (Nat.le_of_eq rfl) (hb hby at_262) (fun _ _ => ⟨rfl, e122, (by decide : 31 + 0 ≤ _), (by decide : 133 + 0 ≤ _)⟩)
  dsimp only [Pt.U, Pt.locs, Pt.cells, Pt.slots] at X123 l123 y123 z123 st123 hQ123
  rw [l123, y123, z123] at X123
  obtain ⟨rfl, Nq123, Kq123⟩ := hQ123
  have N123 := Fr.app N122 Nq123
  obtain ⟨fs, hr, hrun, hended, hW, hsame⟩ := X123.leave (v := some (.int 1)) (fun h => by rw [Bd.returns] at h; cases h)
  refine ⟨_, _, castTop (ef_15 m p0 p1 p2 p3 p4) ?_, hrun, hended, _, _, rfl, ?_, ⟨_, rfl⟩, hW, hsame.mono (by decide) (by decide)⟩
  · show Steps _ _ _ (s₁.setTop (mkF m 0 #[.val (.long p0), .second, .val (.long p1), .second, .val (.long p2), .second, vI p3, vI p4, .unset, .unset, .unset, .unset, .unset, .unset, .unset, .unset, .unset, .unset, .unset, .unset] [])) _
    refine XS.iload X0.here hx rfl (hb hby at_0) rfl ?_
    refine XS.iconst X0.here hx rfl (hb hby at_2) ?_
    refine XS.iand X0.here hx rfl (hb hby at_3) rfl ?_
    refine XS.istore X0.here hx rfl (hb hby at_4) rfl (l' := #[.val (.long p0), .second, .val (.long p1), .second, .val (.long p2), .second, vI p3, vI p4, .val (.int (p3 &&& (3 : Int32))), .unset, .unset, .unset, .unset, .unset, .unset, .unset, .unset, .unset, .unset, .unset]) rfl ?_
    refine XS.iload X0.here hx rfl (hb hby at_6) rfl ?_
    refine XS.sipush X0.here hx rfl (hb hby at_8) ?_
    refine XS.iand X0.here hx rfl (hb hby at_11) rfl ?_
    refine XS.i2c X0.here hx rfl (hb hby at_12) rfl ?_
    refine st6 _ ?_
    show Steps _ _ _ (T6.setTop (mkF m 16 #[.val (.long p0), .second, .val (.long p1), .second, .val (.long p2), .second, vI p3, vI p4, .val (.int (p3 &&& (3 : Int32))), .unset, .unset, .unset, .unset, .unset, .unset, .unset, .unset, .unset, .unset, .unset] [(.ref x6_a_)])) _
    refine XS.astore X6.here hx rfl (hb hby at_16) rfl rfl (l' := #[.val (.long p0), .second, .val (.long p1), .second, .val (.long p2), .second, vI p3, vI p4, .val (.int (p3 &&& (3 : Int32))), vA x6_a_, .unset, .unset, .unset, .unset, .unset, .unset, .unset, .unset, .unset, .unset]) rfl ?_
    refine XS.iload X6.here hx rfl (hb hby at_18) rfl ?_
    refine XS.bipush X6.here hx rfl (hb hby at_20) ?_
    refine XS.iushr X6.here hx rfl (hb hby at_22) rfl ?_
    refine XS.sipush X6.here hx rfl (hb hby at_23) ?_
    refine XS.iand X6.here hx rfl (hb hby at_26) rfl ?_
    refine XS.i2c X6.here hx rfl (hb hby at_27) rfl ?_
    refine st8 _ ?_
    show Steps _ _ _ (T8.setTop (mkF m 31 #[.val (.long p0), .second, .val (.long p1), .second, .val (.long p2), .second, vI p3, vI p4, .val (.int (p3 &&& (3 : Int32))), vA x6_a_, .unset, .unset, .unset, .unset, .unset, .unset, .unset, .unset, .unset, .unset] [(.ref x8_a_)])) _
    refine XS.astore X8.here hx rfl (hb hby at_31) rfl rfl (l' := #[.val (.long p0), .second, .val (.long p1), .second, .val (.long p2), .second, vI p3, vI p4, .val (.int (p3 &&& (3 : Int32))), vA x6_a_, vA x8_a_, .unset, .unset, .unset, .unset, .unset, .unset, .unset, .unset, .unset]) rfl ?_
    refine st11 _ ?_
    show Steps _ _ _ (T11.setTop (mkF m 36 #[.val (.long p0), .second, .val (.long p1), .second, .val (.long p2), .second, vI p3, vI p4, .val (.int (p3 &&& (3 : Int32))), vA x6_a_, vA x8_a_, .unset, .unset, .unset, .unset, .unset, .unset, .unset, .unset, .unset] [(.ref b11)])) _
    refine XS.dup X11.here hx rfl (hb hby at_36) rfl rfl ?_
    refine st13.trans ?_
    show Steps _ _ _ (T13.setTop (mkF m 40 #[.val (.long p0), .second, .val (.long p1), .second, .val (.long p2), .second, vI p3, vI p4, .val (.int (p3 &&& (3 : Int32))), vA x6_a_, vA x8_a_, .unset, .unset, .unset, .unset, .unset, .unset, .unset, .unset, .unset] [(.ref b11)])) _
    refine XS.astore X13.here hx rfl (hb hby at_40) rfl rfl (l' := #[.val (.long p0), .second, .val (.long p1), .second, .val (.long p2), .second, vI p3, vI p4, .val (.int (p3 &&& (3 : Int32))), vA x6_a_, vA x8_a_, vA b11, .unset, .unset, .unset, .unset, .unset, .unset, .unset, .unset]) rfl ?_
    refine XS.iload X13.here hx rfl (hb hby at_42) rfl ?_
    refine XS.iconst X13.here hx rfl (hb hby at_44) ?_
    refine XS.icmpNo X13.here hx rfl (hb hby at_45) rfl (flt (h1 : ¬ ((p3 &&& (3 : Int32)) < (1 : Int32)))).1 ?_
    refine XS.aload X13.here hx rfl (hb hby at_48) rfl rfl ?_
    refine XS.aload X13.here hx rfl (hb hby at_50) rfl rfl ?_
    refine st20.trans ?_
    show Steps _ _ _ (T20.setTop (mkF m 57 #[.val (.long p0), .second, .val (.long p1), .second, .val (.long p2), .second, vI p3, vI p4, .val (.int (p3 &&& (3 : Int32))), vA x6_a_, vA x8_a_, vA b11, .unset, .unset, .unset, .unset, .unset, .unset, .unset, .unset] [(.int 1)])) _
    refine XS.pop X20.here hx rfl (hb hby at_57) rfl rfl ?_
    refine XS.iload X20.here hx rfl (hb hby at_58) rfl ?_
    refine XS.iconst X20.here hx rfl (hb hby at_60) ?_
    refine XS.icmpYes X20.here hx rfl (pc0 := 61) (pc' := 74) rfl (hb hby at_61) rfl (tlt (h2 : (p3 &&& (3 : Int32)) < (2 : Int32))).1 (by decide) (by decide) ?_
    refine XS.iload X20.here hx rfl (hb hby at_74) rfl ?_
    refine XS.iconst X20.here hx rfl (hb hby at_76) ?_
    refine XS.icmpYes X20.here hx rfl (pc0 := 77) (pc' := 90) rfl (hb hby at_77) rfl (tlt (h3 : (p3 &&& (3 : Int32)) < (3 : Int32))).1 (by decide) (by decide) ?_
    refine st46 _ ?_
    show Steps _ _ _ (T46.setTop (mkF m 215 #[.val (.long p0), .second, .val (.long p1), .second, .val (.long p2), .second, vI p3, vI p4, .val (.int (p3 &&& (3 : Int32))), vA x6_a_, vA x8_a_, vA b11, vA x46_lf, vA x46_l2, vA x46_l3, vA x46_l4, vA x46_l5, vA x46_mp, .unset, .unset] [])) _
    refine st73 _ ?_
    show Steps _ _ _ (T73.setTop (mkF m 218 #[.val (.long p0), .second, .val (.long p1), .second, .val (.long p2), .second, vI p3, vI p4, .val (.int (p3 &&& (3 : Int32))), vA x6_a_, vA x8_a_, vA b11, vA x46_lf, vA x46_l2, vA x46_l3, vA x46_l4, vA x46_l5, vA x46_mp, .unset, .unset] [(.ref b73)])) _
    refine XS.dup X73.here hx rfl (hb hby at_218) rfl rfl ?_
    refine XS.lloadN X73.here hx rfl (hb hby at_219) rfl ?_
    refine XS.lloadN X73.here hx rfl (hb hby at_220) rfl ?_
    refine XS.lload X73.here hx rfl (hb hby at_221) rfl ?_
    refine XS.aload X73.here hx rfl (hb hby at_223) rfl rfl ?_
    refine XS.aload X73.here hx rfl (hb hby at_225) rfl rfl ?_
    refine XS.aload X73.here hx rfl (hb hby at_227) rfl rfl ?_
    refine XS.aload X73.here hx rfl (hb hby at_229) rfl rfl ?_
    refine XS.aload X73.here hx rfl (hb hby at_231) rfl rfl ?_
    refine XS.aload X73.here hx rfl (hb hby at_233) rfl rfl ?_
    refine XS.aload X73.here hx rfl (hb hby at_235) rfl rfl ?_
    refine st75.trans ?_
    show Steps _ _ _ (T75.setTop (mkF m 240 #[.val (.long p0), .second, .val (.long p1), .second, .val (.long p2), .second, vI p3, vI p4, .val (.int (p3 &&& (3 : Int32))), vA x6_a_, vA x8_a_, vA b11, vA x46_lf, vA x46_l2, vA x46_l3, vA x46_l4, vA x46_l5, vA x46_mp, .unset, .unset] [(.ref b73)])) _
    refine XS.astore X75.here hx rfl (hb hby at_240) rfl rfl (l' := #[.val (.long p0), .second, .val (.long p1), .second, .val (.long p2), .second, vI p3, vI p4, .val (.int (p3 &&& (3 : Int32))), vA x6_a_, vA x8_a_, vA b11, vA x46_lf, vA x46_l2, vA x46_l3, vA x46_l4, vA x46_l5, vA x46_mp, vA b73, .unset]) rfl ?_
    refine st122 _ ?_
    show Steps _ _ _ (T122.setTop (mkF m 260 #[.val (.long p0), .second, .val (.long p1), .second, .val (.long p2), .second, vI p3, vI p4, .val (.int (p3 &&& (3 : Int32))), vA x6_a_, vA x8_a_, vA b11, vA x46_lf, vA x46_l2, vA x46_l3, vA x46_l4, vA x46_l5, vA x46_mp, vA b73, vI 0] [])) _
    refine XS.aload X122.here hx rfl (hb hby at_260) rfl rfl ?_
    refine st123.trans ?_
    show Steps _ _ _ (T123.setTop (mkF m 265 #[.val (.long p0), .second, .val (.long p1), .second, .val (.long p2), .second, vI p3, vI p4, .val (.int (p3 &&& (3 : Int32))), vA x6_a_, vA x8_a_, vA b11, vA x46_lf, vA x46_l2, vA x46_l3, vA x46_l4, vA x46_l5, vA x46_mp, vA b73, vI 0] [(.int 0)])) _
    refine XS.iload X123.here hx rfl (hb hby at_265) rfl ?_
    refine XS.icmpNo X123.here hx rfl (hb hby at_267) rfl (teq ((by decide) : (0 : Int32) = (0 : Int32))).2 ?_
    refine XS.iconst X123.here hx rfl (hb hby at_270) ?_
    refine XS.goto X123.here hx rfl (pc0 := 271) (pc' := 275) rfl (hb hby at_271) (by decide) (by decide) ?_
    exact retN X123 hx (t := .boolean) Bd.returns (by simp) (hb hby at_275) hr
  · show Q_law Z p0 p1 p2 p3 p4 cp dc kd el em mo ml mu ee ke h0 n0 _ T123.heap _
    rw [(Kq123 : T123.heap = h122)]
    exact ⟨rfl, N123⟩
theorem rm_law_22 (l : Launch) (Z : State) (a0 : Array Value) (hw : HW Z a0) (ws : List Jvm.Cond) (p0 : Int64) (p1 : Int64) (p2 : Int64) (p3 : Int32) (p4 : Int32) (cp : Int32) (dc : Addr) (kd : ClassId) (el : Addr) (em : Addr) (mo : Addr) (ml : Addr) (mu : Addr) (ee : Addr) (ke : ClassId) (h0 : Heap) (n0 : Nat) (Z0 : n0 ≤ h0.size) (P0 : Old Z n0 h0) (P1 : sta0 Z (.int cp)) (P2 : sta1 Z (.ref dc)) (P3 : Arv Z h0 dc kd (.object "java/lang/Object") (0 : Int32) [] .null) (P4 : Exa Z h0 dc "[Ljava/lang/Object;") (P5 : sta2 Z (.ref el)) (P6 : sta3 Z (.ref em)) (P7 : Mi Z "[Ljava/lang/Object;" mo) (P8 : Mi Z "java/util/LinkedHashMap" ml) (P9 : Mi Z "java/util/Collections$UnmodifiableMap" mu) (P10 : Exa Z h0 el "java/util/ImmutableCollections$ListN") (P11 : fld10 Z h0 el (.ref ee)) (P12 : Arv Z h0 ee ke (.object "java/lang/Object") (0 : Int32) [] .null) (hcs : ¬ (cp = (0 : Int32))) (h1 : ¬ ((p3 &&& (3 : Int32)) < (1 : Int32))) (h2 : ¬ ((p3 &&& (3 : Int32)) < (2 : Int32))) (h3 : (p3 &&& (3 : Int32)) < (3 : Int32)) (hz : ¬ ((p3 &&& (3 : Int32)) = (0 : Int32))) :
    MetFree l x (head1 (Jvm.Cond.code x code maxLocals ret :: ws) room_1) (fun as' U => as' = #[(.long p0), (.long p1), (.long p2), (.int p3), (.int p4)] ∧ Z.Warmed39 U.vm ∧ U.heap = h0) (fun _ _ _ _ _ => True) (fun _ U o U' => ∃ v L, o = .returned v ∧ Q_law Z p0 p1 p2 p3 p4 cp dc kd el em mo ml mu ee ke h0 n0 v U'.heap L ∧ FrameEnd U o U' L room_1.cells room_1.slots) := by
  refine MetFree.of_bodySF (plainFor_of_name pn_26) hisR ?_
  intro p e s m args below meth c s₁ Bd hml0 hP hK
  have hK0 := hK
  obtain ⟨rfl, hZ, hh⟩ := hP
  have hx := Bd.exec
  have hby := Bd.bytes
  have hml : c.maxLocals = 20 := hml0
  have hown : s.vm.findClass "com/example/ratify/ratify/recovery/RecoveryReportCompletePinLaw" = some m.cls := findClass_of_methodNamed Bd.named
  have hnm := (name_of_methodNamed Bd.named Bd.method).1
  have X0 : Stand p l e room_1 s m #[(.long p0), (.long p1), (.long p2), (.int p3), (.int p4)] below meth c s₁ [] 0 0 := Stand.of_body Bd
  have e0 : s₁.heap = h0 := by rw [← hh, Bd.state]; rfl
  have N0 := Fr.nil n0
  have lt1 := own_l P3.lt
  have lt2 := own_l P4.lt
  have lt3 := own_l P10.lt
  have lt4 := own_l P11.lt
  have lt5 := own_l P12.lt
  obtain ⟨_, _, ⟨T6, L6, k6, n6⟩, -, X6, ⟨Lc6, hQ6, l6, y6, z6⟩, st6⟩ := Jvm.LawKit.callS X0 hx (y := m_4) hown (mvT hZ (w_0 hw)) (mvT hZ (w_1 hw)) (mvT hZ (w_2 hw)) (mvT hZ (w_3 hw)) (by decide) (backOf (W := 0) (rm_valueC l Z a0 hw [] (((p4 &&& (255 : Int32)).toUInt32.toUInt16.toUInt32.toInt32)) cp h0 n0 (by omega) P0 P1 hcs (own_ch _)) hZ (w_3 hw) (w_2 hw) (by decide) (by decide)) (g := (mkF m 13 #[.val (.long p0), .second, .val (.long p1), .second, .val (.long p2), .second, vI p3, vI p4, .val (.int (p3 &&& (3 : Int32))), .unset, .unset, .unset, .unset, .unset, .unset, .unset, .unset, .unset, .unset, .unset] [(.int ((p4 &&& (255 : Int32)).toUInt32.toUInt16.toUInt32.toInt32))])) rfl (by rw [hml]; rfl) (argsL := [(.int ((p4 &&& (255 : Int32)).toUInt32.toUInt16.toUInt32.toInt32))]) (rest := []) (lenOf pd_24 rfl) rfl (Nat.le_of_eq rfl) (hb hby at_13) (fun _ _ => ⟨rfl, e0, (by decide : 0 + 2 ≤ _), (by decide : 0 + 5 ≤ _)⟩)
  dsimp only [Pt.U, Pt.locs, Pt.cells, Pt.slots] at X6 l6 y6 z6 st6 hQ6
  rw [l6, y6, z6] at X6
  obtain ⟨x6_a_, rfl, Nq6, Kq6, r6_0, r6_1⟩ := hQ6
  have N6 := Fr.app N0 Nq6
  have z6' := Kq6.1
  have lt7 := own_l r6_1.lt
  have f9 := P0.keep Kq6 all0
  obtain ⟨_, _, ⟨T8, L8, k8, n8⟩, -, X8, ⟨Lc8, hQ8, l8, y8, z8⟩, st8⟩ := Jvm.LawKit.callS X6 hx (y := m_4) hown (mvT hZ (w_0 hw)) (mvT hZ (w_1 hw)) (mvT hZ (w_2 hw)) (mvT hZ (w_3 hw)) (by decide) (backOf (W := 0) (rm_valueC l Z a0 hw [] (((((p4.toUInt32 >>> ((8 : Int32) &&& 31).toUInt32).toInt32) &&& (255 : Int32)).toUInt32.toUInt16.toUInt32.toInt32)) cp T6.heap n0 (by omega) f9 P1 hcs (own_ch _)) hZ (w_3 hw) (w_2 hw) (by decide) (by decide)) (g := (mkF m 28 #[.val (.long p0), .second, .val (.long p1), .second, .val (.long p2), .second, vI p3, vI p4, .val (.int (p3 &&& (3 : Int32))), vA x6_a_, .unset, .unset, .unset, .unset, .unset, .unset, .unset, .unset, .unset, .unset] [(.int ((((p4.toUInt32 >>> ((8 : Int32) &&& 31).toUInt32).toInt32) &&& (255 : Int32)).toUInt32.toUInt16.toUInt32.toInt32))])) rfl (by rw [hml]; rfl) (argsL := [(.int ((((p4.toUInt32 >>> ((8 : Int32) &&& 31).toUInt32).toInt32) &&& (255 : Int32)).toUInt32.toUInt16.toUInt32.toInt32))]) (rest := []) (lenOf pd_24 rfl) rfl (Nat.le_of_eq rfl) (hb hby at_28) (fun _ _ => ⟨rfl, rfl, (by decide : 2 + 2 ≤ _), (by decide : 5 + 5 ≤ _)⟩)
  dsimp only [Pt.U, Pt.locs, Pt.cells, Pt.slots] at X8 l8 y8 z8 st8 hQ8
  rw [l8, y8, z8] at X8
  obtain ⟨x8_a_, rfl, Nq8, Kq8, r8_0, r8_1⟩ := hQ8
  have N8 := Fr.app N6 Nq8
  have z8' := Kq8.1
  have lt10 := own_l r8_1.lt
  obtain ⟨T11, h11, X11, e11, E11, A11, D11, -, st11⟩ := newO X8 hx hZ hown (w_26 hw) (w_27 hw) (w_28 hw) rfl (g := (mkF m 33 #[.val (.long p0), .second, .val (.long p1), .second, .val (.long p2), .second, vI p3, vI p4, .val (.int (p3 &&& (3 : Int32))), vA x6_a_, vA x8_a_, .unset, .unset, .unset, .unset, .unset, .unset, .unset, .unset, .unset] [])) rfl (hb hby at_33) (by decide) (by decide)
  obtain ⟨b11, g11⟩ : ∃ z, z = T8.heap.size := ⟨_, rfl⟩
  rw [← g11] at A11 D11 st11
  have z11 := E11.1
  have lt12 := own_l A11.lt
  have F11_46 : Fld Z h11 b11 "java/util/AbstractList" "modCount" "I" (.int 0) := D11 (Or.inl (w_46 hw)) (ty := .int) (by decide)
  have F11_49 : Fld Z h11 b11 "java/util/ArrayList" "elementData" "[Ljava/lang/Object;" .null := D11 (Or.inl (w_49 hw)) (ty := (.array (.object "java/lang/Object"))) (by decide)
  have F11_62 : Fld Z h11 b11 "java/util/ArrayList" "size" "I" (.int 0) := D11 (Or.inl (w_62 hw)) (ty := .int) (by decide)
  have f14 := f9.keep Kq8 all0
  have f15 := f14.ext E11
  obtain ⟨_, _, ⟨T13, L13, k13, n13⟩, -, X13, ⟨Lc13, hQ13, l13, y13, z13⟩, st13⟩ := X11.specialBack hx (y := m_7) rfl hown (mvT hZ (w_29 hw)) (mvT hZ (w_30 hw)) (mvT hZ (w_31 hw)) (by decide) (backOf (W := 1) (rm_ali l Z a0 hw [] b11 dc h11 n0 (by omega) f15 P2 A11 F11_46 F11_62 F11_49 (by omega)) hZ (w_31 hw) (w_28 hw) (by decide) (by decide)) (g := (mkF m 37 #[.val (.long p0), .second, .val (.long p1), .second, .val (.long p2), .second, vI p3, vI p4, .val (.int (p3 &&& (3 : Int32))), vA x6_a_, vA x8_a_, .unset, .unset, .unset, .unset, .unset, .unset, .unset, .unset, .unset] [(.ref b11), (.ref b11)])) rfl (by rw [hml]; rfl) (Steps.refl _) (a := b11) (argsL := []) (rest := [(.ref b11)]) (lenOf pd_3 rfl) rfl (Nat.le_of_eq rfl) (hb hby at_37) (fun _ _ => ⟨rfl, e11, (by decide : 5 + 0 ≤ _), (by decide : 13 + 0 ≤ _)⟩)
  dsimp only [Pt.U, Pt.locs, Pt.cells, Pt.slots] at X13 l13 y13 z13 st13 hQ13
  rw [l13, y13, z13] at X13
  obtain ⟨rfl, Nq13, Kq13, r13_0, r13_1, r13_2, r13_3⟩ := hQ13
  have N13 := Fr.app N8 Nq13
  have z13' := Kq13.1
  have lt16 := own_l r13_0.lt
  have lt17 := own_l r13_1.lt
  have lt18 := own_l r13_2.lt
  have lt19 := own_l r13_3.lt
  have f21 := f15.keep Kq13 (allS (by omega) all0)
  have f22 := P3.keep Kq6 nin0
  have f23 := f22.keep Kq8 nin0
  have f24 := f23.ext E11
  have f25 := f24.keep Kq13 (ninS (own_ne (by omega)) nin0)
  have f26 := r6_1.keep Kq8
  have f27 := f26.ext E11
  have f28 := f27.keep Kq13
  obtain ⟨cq20, kq20, qa20, qb20, qc20⟩ := isOf hZ rfl r13_0
  obtain ⟨_, _, ⟨T20, L20, k20, n20⟩, -, X20, ⟨Lc20, hQ20, l20, y20, z20⟩, st20⟩ := X13.interfaceBack hx (xi := m_55) (y := m_12) (C := "java/util/ArrayList") hown (mvT hZ (w_50 hw)) (mvT hZ (w_51 hw)) (mvT hZ (w_52 hw)) (mvT hZ (w_53 hw)) (mvT hZ (w_54 hw)) (mvT hZ (w_55 hw)) (mvT hZ (w_56 hw)) (mvT hZ (w_57 hw)) (by decide) (backOf (W := 0) (rm_add0 l Z a0 hw [] b11 x6_a_ ((0 : Int32)) dc kd T13.heap n0 (by omega) f21 P2 r13_0 r13_1 r13_2 r13_3 f25 (by omega) (own_ne (by omega)) f28) hZ (w_58 hw) (w_28 hw) (by decide) (by decide)) qa20 qb20 qc20 (g := (mkF m 52 #[.val (.long p0), .second, .val (.long p1), .second, .val (.long p2), .second, vI p3, vI p4, .val (.int (p3 &&& (3 : Int32))), vA x6_a_, vA x8_a_, vA b11, .unset, .unset, .unset, .unset, .unset, .unset, .unset, .unset] [(.ref x6_a_), (.ref b11)])) rfl (by rw [hml]; rfl) (Steps.refl _) (argsL := [(.ref x6_a_)]) (rest := []) (lenOf pd_23 rfl) rfl (Nat.le_of_eq rfl) (hb hby at_52) (fun _ _ => ⟨rfl, rfl, (by decide : 5 + 1 ≤ _), (by decide : 13 + 10 ≤ _)⟩)
  dsimp only [Pt.U, Pt.locs, Pt.cells, Pt.slots] at X20 l20 y20 z20 st20 hQ20
  rw [l20, y20, z20] at X20
  obtain ⟨x20_b, x20_k, rfl, Nq20, Kq20, r20_0, r20_1, r20_2, r20_3, r20_4, r20_5, r20_6, r20_7⟩ := hQ20
  have N20 := Fr.app N13 Nq20
  have z20' := Kq20.1
  have lt29 := own_l r20_1.lt
  have lt30 := own_l r20_2.lt
  have lt31 := own_l r20_3.lt
  have lt32 := own_l r20_4.lt
  have lt33 := own_l r20_5.lt
  have lt34 := own_l r20_7.lt
  have f36 := r8_1.ext E11
  have f37 := f36.keep Kq13
  have f38 := f37.keep Kq20
  obtain ⟨cq35, kq35, qa35, qb35, qc35⟩ := isOf hZ rfl r20_1
  obtain ⟨_, _, ⟨T35, L35, k35, n35⟩, -, X35, ⟨Lc35, hQ35, l35, y35, z35⟩, st35⟩ := X20.interfaceBack hx (xi := m_55) (y := m_12) (C := "java/util/ArrayList") hown (mvT hZ (w_50 hw)) (mvT hZ (w_51 hw)) (mvT hZ (w_52 hw)) (mvT hZ (w_53 hw)) (mvT hZ (w_54 hw)) (mvT hZ (w_55 hw)) (mvT hZ (w_56 hw)) (mvT hZ (w_57 hw)) (by decide) (backOf (W := 0) (rm_add1 l Z a0 hw [] b11 x8_a_ (((0 : Int32) + (1 : Int32))) x20_b x20_k x6_a_ T20.heap n0 (by omega) r20_1 r20_2 r20_3 r20_4 r20_5 r20_7 r20_6 f38 (by omega) (by omega) (own_ne (by omega))) hZ (w_58 hw) (w_28 hw) (by decide) (by decide)) qa35 qb35 qc35 (g := (mkF m 68 #[.val (.long p0), .second, .val (.long p1), .second, .val (.long p2), .second, vI p3, vI p4, .val (.int (p3 &&& (3 : Int32))), vA x6_a_, vA x8_a_, vA b11, .unset, .unset, .unset, .unset, .unset, .unset, .unset, .unset] [(.ref x8_a_), (.ref b11)])) rfl (by rw [hml]; rfl) (Steps.refl _) (argsL := [(.ref x8_a_)]) (rest := []) (lenOf pd_23 rfl) rfl (Nat.le_of_eq rfl) (hb hby at_68) (fun _ _ => ⟨rfl, rfl, (by decide : 6 + 0 ≤ _), (by decide : 23 + 0 ≤ _)⟩)
  dsimp only [Pt.U, Pt.locs, Pt.cells, Pt.slots] at X35 l35 y35 z35 st35 hQ35
  rw [l35, y35, z35] at X35
  obtain ⟨rfl, Nq35, Kq35, r35_0, r35_1, r35_2, r35_3, r35_4, r35_5⟩ := hQ35
  have N35 := Fr.app N20 Nq35
  have z35' := Kq35.1
  have lt39 := own_l r35_0.lt
  have lt40 := own_l r35_1.lt
  have lt41 := own_l r35_2.lt
  have lt42 := own_l r35_3.lt
  have lt43 := own_l r35_4.lt
  have lt44 := own_l r35_5.lt
  have f45 := f21.keep Kq20 (allS (by omega) all0)
  have f46 := f45.keep Kq35 (allS (by omega) (allS (by omega) all0))
  have f47 := f25.keep Kq20 (ninS (own_ne (by omega)) nin0)
  have f48 := f47.keep Kq35 (ninS (own_ne (by omega)) (ninS (own_ne (by omega)) nin0))
  have f49 := P4.keep Kq6
  have f50 := f49.keep Kq8
  have f51 := f50.ext E11
  have f52 := f51.keep Kq13
  have f53 := f52.keep Kq20
  have f54 := f53.keep Kq35
  have f55 := f28.keep Kq20
  have f56 := f55.keep Kq35
  have f57 := f38.keep Kq35
  obtain ⟨T58, h58, L58, x58_lf, x58_l2, x58_v2, x58_kv2, x58_sn2, x58_sN2, x58_vs2, x58_l3, x58_v3, x58_kv3, x58_sn3, x58_sN3, x58_vs3, x58_l4, x58_v4, x58_kv4, x58_sn4, x58_sN4, x58_vs4, x58_l5, x58_v5, x58_kv5, x58_sn5, x58_sN5, x58_vs5, x58_mp, X58, e58, N58, Kq58, r58_0, r58_1, r58_2, r58_3, r58_4, r58_5, r58_6, r58_7, r58_8, r58_9, r58_10, r58_11, r58_12, r58_13, r58_14, r58_15, r58_16, r58_17, r58_18, r58_19, r58_20, r58_21, r58_22, r58_23, r58_24, r58_25, r58_26, r58_27, r58_28, r58_29, r58_30, r58_31, r58_32, r58_33, r58_34, r58_35, r58_36, st58⟩ := pz_rest X35 hx hw hZ hown hby hml p0 p1 p2 p3 p4 x6_a_ x8_a_ b11 dc kd rfl N35 (by omega) f46 P2 f48 f54 f56 f57 (by decide) (by decide) (by decide) (by decide)
  have z58' := Kq58.1
  have lt59 := own_l r58_0.lt
  have lt60 := own_l r58_1.lt
  have lt61 := own_l r58_2.lt
  have lt62 := own_l r58_3.lt
  have lt63 := own_l r58_4.lt
  have lt64 := own_l r58_5.lt
  have lt65 := own_l r58_6.lt
  have lt66 := own_l r58_7.lt
  have lt67 := own_l r58_8.lt
  have lt68 := own_l r58_9.lt
  have lt69 := own_l r58_10.lt
  have lt70 := own_l r58_11.lt
  have lt71 := own_l r58_12.lt
  have lt72 := own_l r58_13.lt
  have lt73 := own_l r58_14.lt
  have lt74 := own_l r58_15.lt
  have lt75 := own_l r58_16.lt
  have lt76 := own_l r58_17.lt
  have lt77 := own_l r58_18.lt
  have lt78 := own_l r58_19.lt
  have lt79 := own_l r58_20.lt
  have lt80 := own_l r58_21.lt
  have lt81 := own_l r58_26.lt
  have lt82 := own_l r58_27.lt
  have lt83 := own_l r58_28.lt
  have lt84 := own_l r58_29.lt
  obtain ⟨T85, h85, X85, e85, E85, A85, D85, -, st85⟩ := newO X58 hx hZ hown (w_101 hw) (w_102 hw) (w_103 hw) e58 (g := (mkF m 215 #[.val (.long p0), .second, .val (.long p1), .second, .val (.long p2), .second, vI p3, vI p4, .val (.int (p3 &&& (3 : Int32))), vA x6_a_, vA x8_a_, vA b11, vA x58_lf, vA x58_l2, vA x58_l3, vA x58_l4, vA x58_l5, vA x58_mp, .unset, .unset] [])) rfl (hb hby at_215) (by decide) (by decide)
  obtain ⟨b85, g85⟩ : ∃ z, z = h58.size := ⟨_, rfl⟩
  rw [← g85] at A85 D85 st85
  have z85 := E85.1
  have lt86 := own_l A85.lt
  have F85_313 : Fld Z h85 b85 "com/example/ratify/ratify/recovery/RecoveryReport" "committed" "J" (.long (0 : Int64)) := D85 (Or.inr (w_313 hw)) (ty := .long) (by decide)
  have F85_315 : Fld Z h85 b85 "com/example/ratify/ratify/recovery/RecoveryReport" "rolledBack" "J" (.long (0 : Int64)) := D85 (Or.inr (w_315 hw)) (ty := .long) (by decide)
  have F85_317 : Fld Z h85 b85 "com/example/ratify/ratify/recovery/RecoveryReport" "pending" "J" (.long (0 : Int64)) := D85 (Or.inr (w_317 hw)) (ty := .long) (by decide)
  have F85_319 : Fld Z h85 b85 "com/example/ratify/ratify/recovery/RecoveryReport" "unreachable" "Ljava/util/List;" .null := D85 (Or.inr (w_319 hw)) (ty := (.object "java/util/List")) (by decide)
  have F85_321 : Fld Z h85 b85 "com/example/ratify/ratify/recovery/RecoveryReport" "failures" "Ljava/util/List;" .null := D85 (Or.inr (w_321 hw)) (ty := (.object "java/util/List")) (by decide)
  have F85_323 : Fld Z h85 b85 "com/example/ratify/ratify/recovery/RecoveryReport" "finished" "Ljava/util/List;" .null := D85 (Or.inr (w_323 hw)) (ty := (.object "java/util/List")) (by decide)
  have F85_325 : Fld Z h85 b85 "com/example/ratify/ratify/recovery/RecoveryReport" "unfinished" "Ljava/util/Map;" .null := D85 (Or.inr (w_325 hw)) (ty := (.object "java/util/Map")) (by decide)
  have F85_327 : Fld Z h85 b85 "com/example/ratify/ratify/recovery/RecoveryReport" "waiting" "Ljava/util/List;" .null := D85 (Or.inr (w_327 hw)) (ty := (.object "java/util/List")) (by decide)
  have F85_329 : Fld Z h85 b85 "com/example/ratify/ratify/recovery/RecoveryReport" "deferred" "Ljava/util/List;" .null := D85 (Or.inr (w_329 hw)) (ty := (.object "java/util/List")) (by decide)
  have F85_331 : Fld Z h85 b85 "com/example/ratify/ratify/recovery/RecoveryReport" "decided" "Ljava/util/List;" .null := D85 (Or.inr (w_331 hw)) (ty := (.object "java/util/List")) (by decide)
  have f88 := f46.keep Kq58 all0
  have f89 := f88.ext E85
  have f90 := r35_0.keep Kq58
  have f91 := f90.ext E85
  have f92 := r35_2.keep Kq58 nin0
  have f93 := f92.ext E85
  have f94 := r35_3.keep Kq58 nin0
  have f95 := f94.ext E85
  have f96 := r35_4.keep Kq58
  have f97 := f96.ext E85
  have f98 := r35_5.keep Kq58 nin0
  have f99 := f98.ext E85
  have f100 := r58_0.ext E85
  have f101 := r58_1.ext E85
  have f102 := r58_2.ext E85
  have f103 := r58_3.ext E85
  have f104 := r58_4.ext E85
  have f105 := r58_5.ext E85
  have f106 := r58_6.ext E85
  have f107 := r58_7.ext E85
  have f108 := r58_8.ext E85
  have f109 := r58_9.ext E85
  have f110 := r58_10.ext E85
  have f111 := r58_11.ext E85
  have f112 := r58_12.ext E85
  have f113 := r58_13.ext E85
  have f114 := r58_14.ext E85
  have f115 := r58_15.ext E85
  have f116 := r58_16.ext E85
  have f117 := r58_17.ext E85
  have f118 := r58_18.ext E85
  have f119 := r58_19.ext E85
  have f120 := r58_20.ext E85
  have f121 := r58_21.ext E85
  have f122 := f56.keep Kq58
  have f123 := f122.ext E85
  have f124 := f57.keep Kq58
  have f125 := f124.ext E85
  have f126 := r58_26.ext E85
  have f127 := r58_27.ext E85
  have f128 := r58_28.ext E85
  have f129 := r58_29.ext E85
  obtain ⟨_, _, ⟨T87, L87, k87, n87⟩, -, X87, ⟨Lc87, hQ87, l87, y87, z87⟩, st87⟩ := X85.specialBack hx (y := m_50) rfl hown (mvT hZ (w_104 hw)) (mvT hZ (w_105 hw)) (mvT hZ (w_106 hw)) (by decide) (backOf (W := 1) (rm_rr2 l Z a0 hw [] b85 p0 p1 p2 b11 x20_b x20_k x58_lf x58_l2 x58_v2 x58_kv2 x58_sn2 x58_sN2 x58_vs2 x58_mp x58_l3 x58_v3 x58_kv3 x58_sn3 x58_sN3 x58_vs3 x58_l4 x58_v4 x58_kv4 x58_sn4 x58_sN4 x58_vs4 x58_l5 x58_v5 x58_kv5 x58_sn5 x58_sN5 x58_vs5 x6_a_ x8_a_ el em mo ml mu h85 n0 (by omega) f89 P5 P6 P7 P8 P9 A85 F85_313 F85_315 F85_317 F85_319 F85_321 F85_323 F85_325 F85_327 F85_329 F85_331 f91 f93 f95 f97 f99 f100 f101 f102 f103 f104 f105 f106 f107 f108 f109 f110 f111 f112 f113 f114 f115 f116 f117 f118 f119 f120 f121 f123 f125 f126 f127 f128 f129 (by omega) (by omega) (own_ne (by omega)) (fun q => r58_31 q) (fun q => r58_32 q) (fun q => r58_33 q) (fun q => r58_34 q) (fun q => r58_35 q) (fun q => r58_36 q) r58_22 r58_23 r58_24 r58_25) hZ (w_106 hw) (w_103 hw) (by decide) (by decide)) (g := (mkF m 237 #[.val (.long p0), .second, .val (.long p1), .second, .val (.long p2), .second, vI p3, vI p4, .val (.int (p3 &&& (3 : Int32))), vA x6_a_, vA x8_a_, vA b11, vA x58_lf, vA x58_l2, vA x58_l3, vA x58_l4, vA x58_l5, vA x58_mp, .unset, .unset] [(.ref x58_l5), (.ref x58_l4), (.ref x58_l3), (.ref x58_mp), (.ref x58_l2), (.ref x58_lf), (.ref b11), (.long p2), (.long p1), (.long p0), (.ref b85), (.ref b85)])) rfl (by rw [hml]; rfl) (Steps.refl _) (a := b85) (argsL := [(.long p0), (.long p1), (.long p2), (.ref b11), (.ref x58_lf), (.ref x58_l2), (.ref x58_mp), (.ref x58_l3), (.ref x58_l4), (.ref x58_l5)]) (rest := [(.ref b85)]) (lenOf pd_25 rfl) rfl (Nat.le_of_eq rfl) (hb hby at_237) (fun _ _ => ⟨rfl, e85, (by decide : 17 + 14 ≤ _), (by decide : 96 + 38 ≤ _)⟩)
  dsimp only [Pt.U, Pt.locs, Pt.cells, Pt.slots] at X87 l87 y87 z87 st87 hQ87
  rw [l87, y87, z87] at X87
  obtain ⟨x87_r, rfl, Nq87, Kq87, r87_0, r87_1, r87_2, r87_3, r87_4⟩ := hQ87
  have N87 := Fr.app N58 Nq87
  have z87' := Kq87.1
  have lt130 := own_l r87_0.lt
  have lt131 := own_l r87_1.lt
  have lt132 := own_l r87_2.lt
  have lt133 := own_l r87_4.lt
  obtain ⟨T134, h134, L134, X134, e134, N134, Kq134, st134⟩ := pz_xz X87 hx hw hZ hown hby hml p0 p1 p2 p3 p4 x6_a_ x8_a_ b11 x58_lf x58_l2 x58_l3 x58_l4 x58_l5 x58_mp b85 rfl N87 (by omega) hz (by decide) (by decide) (by decide) (by decide)
  have z134' := Kq134.1
  have f136 := r87_1.keep Kq134 nin0
  have f137 := r87_2.keep Kq134 nin0
  have f138 := r87_4.keep Kq134
  have f139 := r87_0.keep Kq134
  obtain ⟨cq135, kq135, qa135, qb135, qc135⟩ := isOf hZ e134 f139
  obtain ⟨_, _, ⟨T135, L135, k135, n135⟩, -, X135, ⟨Lc135, hQ135, l135, y135, z135⟩, st135⟩ := X134.virtualBack hx (y := m_53) (z := m_53) hown (mvT hZ (w_332 hw)) (mvT hZ (w_333 hw)) (notFace_of_selects (args := #[]) (mvT hZ (w_335 hw))) (mvT hZ (w_335 hw)) (mvT hZ (w_334 hw)) (by decide) (backOf (W := 0) (rm_cm12 l Z a0 hw [] b85 p2 x87_r h134 n0 (by omega) f136 f137 f138) hZ (w_336 hw) (w_103 hw) (by decide) (by decide)) qa135 qc135 (g := (mkF m 262 #[.val (.long p0), .second, .val (.long p1), .second, .val (.long p2), .second, vI p3, vI p4, .val (.int (p3 &&& (3 : Int32))), vA x6_a_, vA x8_a_, vA b11, vA x58_lf, vA x58_l2, vA x58_l3, vA x58_l4, vA x58_l5, vA x58_mp, vA b85, vI 0] [(.ref b85)])) rfl (by rw [hml]; rfl) (Steps.refl _) (argsL := []) (rest := []) (lenOf pd_8 rfl) rfl (Nat.le_of_eq rfl) (hb hby at_262) (fun _ _ => ⟨rfl, e134, (by decide : 31 + 0 ≤ _), (by decide : 134 + 0 ≤ _)⟩)
  dsimp only [Pt.U, Pt.locs, Pt.cells, Pt.slots] at X135 l135 y135 z135 st135 hQ135
  rw [l135, y135, z135] at X135
  obtain ⟨rfl, Nq135, Kq135⟩ := hQ135
  have N135 := Fr.app N134 Nq135
  obtain ⟨fs, hr, hrun, hended, hW, hsame⟩ := X135.leave (v := some (.int 1)) (fun h => by rw [Bd.returns] at h; cases h)
  refine ⟨_, _, castTop (ef_15 m p0 p1 p2 p3 p4) ?_, hrun, hended, _, _, rfl, ?_, ⟨_, rfl⟩, hW, hsame.mono (by decide) (by decide)⟩
  · show Steps _ _ _ (s₁.setTop (mkF m 0 #[.val (.long p0), .second, .val (.long p1), .second, .val (.long p2), .second, vI p3, vI p4, .unset, .unset, .unset, .unset, .unset, .unset, .unset, .unset, .unset, .unset, .unset, .unset] [])) _
    refine XS.iload X0.here hx rfl (hb hby at_0) rfl ?_
    refine XS.iconst X0.here hx rfl (hb hby at_2) ?_
    refine XS.iand X0.here hx rfl (hb hby at_3) rfl ?_
    refine XS.istore X0.here hx rfl (hb hby at_4) rfl (l' := #[.val (.long p0), .second, .val (.long p1), .second, .val (.long p2), .second, vI p3, vI p4, .val (.int (p3 &&& (3 : Int32))), .unset, .unset, .unset, .unset, .unset, .unset, .unset, .unset, .unset, .unset, .unset]) rfl ?_
    refine XS.iload X0.here hx rfl (hb hby at_6) rfl ?_
    refine XS.sipush X0.here hx rfl (hb hby at_8) ?_
    refine XS.iand X0.here hx rfl (hb hby at_11) rfl ?_
    refine XS.i2c X0.here hx rfl (hb hby at_12) rfl ?_
    refine st6 _ ?_
    show Steps _ _ _ (T6.setTop (mkF m 16 #[.val (.long p0), .second, .val (.long p1), .second, .val (.long p2), .second, vI p3, vI p4, .val (.int (p3 &&& (3 : Int32))), .unset, .unset, .unset, .unset, .unset, .unset, .unset, .unset, .unset, .unset, .unset] [(.ref x6_a_)])) _
    refine XS.astore X6.here hx rfl (hb hby at_16) rfl rfl (l' := #[.val (.long p0), .second, .val (.long p1), .second, .val (.long p2), .second, vI p3, vI p4, .val (.int (p3 &&& (3 : Int32))), vA x6_a_, .unset, .unset, .unset, .unset, .unset, .unset, .unset, .unset, .unset, .unset]) rfl ?_
    refine XS.iload X6.here hx rfl (hb hby at_18) rfl ?_
    refine XS.bipush X6.here hx rfl (hb hby at_20) ?_
    refine XS.iushr X6.here hx rfl (hb hby at_22) rfl ?_
    refine XS.sipush X6.here hx rfl (hb hby at_23) ?_
    refine XS.iand X6.here hx rfl (hb hby at_26) rfl ?_
    refine XS.i2c X6.here hx rfl (hb hby at_27) rfl ?_
    refine st8 _ ?_
    show Steps _ _ _ (T8.setTop (mkF m 31 #[.val (.long p0), .second, .val (.long p1), .second, .val (.long p2), .second, vI p3, vI p4, .val (.int (p3 &&& (3 : Int32))), vA x6_a_, .unset, .unset, .unset, .unset, .unset, .unset, .unset, .unset, .unset, .unset] [(.ref x8_a_)])) _
    refine XS.astore X8.here hx rfl (hb hby at_31) rfl rfl (l' := #[.val (.long p0), .second, .val (.long p1), .second, .val (.long p2), .second, vI p3, vI p4, .val (.int (p3 &&& (3 : Int32))), vA x6_a_, vA x8_a_, .unset, .unset, .unset, .unset, .unset, .unset, .unset, .unset, .unset]) rfl ?_
    refine st11 _ ?_
    show Steps _ _ _ (T11.setTop (mkF m 36 #[.val (.long p0), .second, .val (.long p1), .second, .val (.long p2), .second, vI p3, vI p4, .val (.int (p3 &&& (3 : Int32))), vA x6_a_, vA x8_a_, .unset, .unset, .unset, .unset, .unset, .unset, .unset, .unset, .unset] [(.ref b11)])) _
    refine XS.dup X11.here hx rfl (hb hby at_36) rfl rfl ?_
    refine st13.trans ?_
    show Steps _ _ _ (T13.setTop (mkF m 40 #[.val (.long p0), .second, .val (.long p1), .second, .val (.long p2), .second, vI p3, vI p4, .val (.int (p3 &&& (3 : Int32))), vA x6_a_, vA x8_a_, .unset, .unset, .unset, .unset, .unset, .unset, .unset, .unset, .unset] [(.ref b11)])) _
    refine XS.astore X13.here hx rfl (hb hby at_40) rfl rfl (l' := #[.val (.long p0), .second, .val (.long p1), .second, .val (.long p2), .second, vI p3, vI p4, .val (.int (p3 &&& (3 : Int32))), vA x6_a_, vA x8_a_, vA b11, .unset, .unset, .unset, .unset, .unset, .unset, .unset, .unset]) rfl ?_
    refine XS.iload X13.here hx rfl (hb hby at_42) rfl ?_
    refine XS.iconst X13.here hx rfl (hb hby at_44) ?_
    refine XS.icmpNo X13.here hx rfl (hb hby at_45) rfl (flt (h1 : ¬ ((p3 &&& (3 : Int32)) < (1 : Int32)))).1 ?_
    refine XS.aload X13.here hx rfl (hb hby at_48) rfl rfl ?_
    refine XS.aload X13.here hx rfl (hb hby at_50) rfl rfl ?_
    refine st20.trans ?_
    show Steps _ _ _ (T20.setTop (mkF m 57 #[.val (.long p0), .second, .val (.long p1), .second, .val (.long p2), .second, vI p3, vI p4, .val (.int (p3 &&& (3 : Int32))), vA x6_a_, vA x8_a_, vA b11, .unset, .unset, .unset, .unset, .unset, .unset, .unset, .unset] [(.int 1)])) _
    refine XS.pop X20.here hx rfl (hb hby at_57) rfl rfl ?_
    refine XS.iload X20.here hx rfl (hb hby at_58) rfl ?_
    refine XS.iconst X20.here hx rfl (hb hby at_60) ?_
    refine XS.icmpNo X20.here hx rfl (hb hby at_61) rfl (flt (h2 : ¬ ((p3 &&& (3 : Int32)) < (2 : Int32)))).1 ?_
    refine XS.aload X20.here hx rfl (hb hby at_64) rfl rfl ?_
    refine XS.aload X20.here hx rfl (hb hby at_66) rfl rfl ?_
    refine st35.trans ?_
    show Steps _ _ _ (T35.setTop (mkF m 73 #[.val (.long p0), .second, .val (.long p1), .second, .val (.long p2), .second, vI p3, vI p4, .val (.int (p3 &&& (3 : Int32))), vA x6_a_, vA x8_a_, vA b11, .unset, .unset, .unset, .unset, .unset, .unset, .unset, .unset] [(.int 1)])) _
    refine XS.pop X35.here hx rfl (hb hby at_73) rfl rfl ?_
    refine XS.iload X35.here hx rfl (hb hby at_74) rfl ?_
    refine XS.iconst X35.here hx rfl (hb hby at_76) ?_
    refine XS.icmpYes X35.here hx rfl (pc0 := 77) (pc' := 90) rfl (hb hby at_77) rfl (tlt (h3 : (p3 &&& (3 : Int32)) < (3 : Int32))).1 (by decide) (by decide) ?_
    refine st58 _ ?_
    show Steps _ _ _ (T58.setTop (mkF m 215 #[.val (.long p0), .second, .val (.long p1), .second, .val (.long p2), .second, vI p3, vI p4, .val (.int (p3 &&& (3 : Int32))), vA x6_a_, vA x8_a_, vA b11, vA x58_lf, vA x58_l2, vA x58_l3, vA x58_l4, vA x58_l5, vA x58_mp, .unset, .unset] [])) _
    refine st85 _ ?_
    show Steps _ _ _ (T85.setTop (mkF m 218 #[.val (.long p0), .second, .val (.long p1), .second, .val (.long p2), .second, vI p3, vI p4, .val (.int (p3 &&& (3 : Int32))), vA x6_a_, vA x8_a_, vA b11, vA x58_lf, vA x58_l2, vA x58_l3, vA x58_l4, vA x58_l5, vA x58_mp, .unset, .unset] [(.ref b85)])) _
    refine XS.dup X85.here hx rfl (hb hby at_218) rfl rfl ?_
    refine XS.lloadN X85.here hx rfl (hb hby at_219) rfl ?_
    refine XS.lloadN X85.here hx rfl (hb hby at_220) rfl ?_
    refine XS.lload X85.here hx rfl (hb hby at_221) rfl ?_
    refine XS.aload X85.here hx rfl (hb hby at_223) rfl rfl ?_
    refine XS.aload X85.here hx rfl (hb hby at_225) rfl rfl ?_
    refine XS.aload X85.here hx rfl (hb hby at_227) rfl rfl ?_
    refine XS.aload X85.here hx rfl (hb hby at_229) rfl rfl ?_
    refine XS.aload X85.here hx rfl (hb hby at_231) rfl rfl ?_
    refine XS.aload X85.here hx rfl (hb hby at_233) rfl rfl ?_
    refine XS.aload X85.here hx rfl (hb hby at_235) rfl rfl ?_
    refine st87.trans ?_
    show Steps _ _ _ (T87.setTop (mkF m 240 #[.val (.long p0), .second, .val (.long p1), .second, .val (.long p2), .second, vI p3, vI p4, .val (.int (p3 &&& (3 : Int32))), vA x6_a_, vA x8_a_, vA b11, vA x58_lf, vA x58_l2, vA x58_l3, vA x58_l4, vA x58_l5, vA x58_mp, .unset, .unset] [(.ref b85)])) _
    refine XS.astore X87.here hx rfl (hb hby at_240) rfl rfl (l' := #[.val (.long p0), .second, .val (.long p1), .second, .val (.long p2), .second, vI p3, vI p4, .val (.int (p3 &&& (3 : Int32))), vA x6_a_, vA x8_a_, vA b11, vA x58_lf, vA x58_l2, vA x58_l3, vA x58_l4, vA x58_l5, vA x58_mp, vA b85, .unset]) rfl ?_
    refine st134 _ ?_
    show Steps _ _ _ (T134.setTop (mkF m 260 #[.val (.long p0), .second, .val (.long p1), .second, .val (.long p2), .second, vI p3, vI p4, .val (.int (p3 &&& (3 : Int32))), vA x6_a_, vA x8_a_, vA b11, vA x58_lf, vA x58_l2, vA x58_l3, vA x58_l4, vA x58_l5, vA x58_mp, vA b85, vI 0] [])) _
    refine XS.aload X134.here hx rfl (hb hby at_260) rfl rfl ?_
    refine st135.trans ?_
    show Steps _ _ _ (T135.setTop (mkF m 265 #[.val (.long p0), .second, .val (.long p1), .second, .val (.long p2), .second, vI p3, vI p4, .val (.int (p3 &&& (3 : Int32))), vA x6_a_, vA x8_a_, vA b11, vA x58_lf, vA x58_l2, vA x58_l3, vA x58_l4, vA x58_l5, vA x58_mp, vA b85, vI 0] [(.int 0)])) _
    refine XS.iload X135.here hx rfl (hb hby at_265) rfl ?_
    refine XS.icmpNo X135.here hx rfl (hb hby at_267) rfl (teq ((by decide) : (0 : Int32) = (0 : Int32))).2 ?_
    refine XS.iconst X135.here hx rfl (hb hby at_270) ?_
    refine XS.goto X135.here hx rfl (pc0 := 271) (pc' := 275) rfl (hb hby at_271) (by decide) (by decide) ?_
    exact retN X135 hx (t := .boolean) Bd.returns (by simp) (hb hby at_275) hr
  · show Q_law Z p0 p1 p2 p3 p4 cp dc kd el em mo ml mu ee ke h0 n0 _ T135.heap _
    rw [(Kq135 : T135.heap = h134)]
    exact ⟨rfl, N135⟩
theorem rm_law_32 (l : Launch) (Z : State) (a0 : Array Value) (hw : HW Z a0) (ws : List Jvm.Cond) (p0 : Int64) (p1 : Int64) (p2 : Int64) (p3 : Int32) (p4 : Int32) (cp : Int32) (dc : Addr) (kd : ClassId) (el : Addr) (em : Addr) (mo : Addr) (ml : Addr) (mu : Addr) (ee : Addr) (ke : ClassId) (h0 : Heap) (n0 : Nat) (Z0 : n0 ≤ h0.size) (P0 : Old Z n0 h0) (P1 : sta0 Z (.int cp)) (P2 : sta1 Z (.ref dc)) (P3 : Arv Z h0 dc kd (.object "java/lang/Object") (0 : Int32) [] .null) (P4 : Exa Z h0 dc "[Ljava/lang/Object;") (P5 : sta2 Z (.ref el)) (P6 : sta3 Z (.ref em)) (P7 : Mi Z "[Ljava/lang/Object;" mo) (P8 : Mi Z "java/util/LinkedHashMap" ml) (P9 : Mi Z "java/util/Collections$UnmodifiableMap" mu) (P10 : Exa Z h0 el "java/util/ImmutableCollections$ListN") (P11 : fld10 Z h0 el (.ref ee)) (P12 : Arv Z h0 ee ke (.object "java/lang/Object") (0 : Int32) [] .null) (hcs : ¬ (cp = (0 : Int32))) (h1 : ¬ ((p3 &&& (3 : Int32)) < (1 : Int32))) (h2 : ¬ ((p3 &&& (3 : Int32)) < (2 : Int32))) (h3 : ¬ ((p3 &&& (3 : Int32)) < (3 : Int32))) (hz : ¬ ((p3 &&& (3 : Int32)) = (0 : Int32))) :
    MetFree l x (head1 (Jvm.Cond.code x code maxLocals ret :: ws) room_1) (fun as' U => as' = #[(.long p0), (.long p1), (.long p2), (.int p3), (.int p4)] ∧ Z.Warmed39 U.vm ∧ U.heap = h0) (fun _ _ _ _ _ => True) (fun _ U o U' => ∃ v L, o = .returned v ∧ Q_law Z p0 p1 p2 p3 p4 cp dc kd el em mo ml mu ee ke h0 n0 v U'.heap L ∧ FrameEnd U o U' L room_1.cells room_1.slots) := by
  refine MetFree.of_bodySF (plainFor_of_name pn_26) hisR ?_
  intro p e s m args below meth c s₁ Bd hml0 hP hK
  have hK0 := hK
  obtain ⟨rfl, hZ, hh⟩ := hP
  have hx := Bd.exec
  have hby := Bd.bytes
  have hml : c.maxLocals = 20 := hml0
  have hown : s.vm.findClass "com/example/ratify/ratify/recovery/RecoveryReportCompletePinLaw" = some m.cls := findClass_of_methodNamed Bd.named
  have hnm := (name_of_methodNamed Bd.named Bd.method).1
  have X0 : Stand p l e room_1 s m #[(.long p0), (.long p1), (.long p2), (.int p3), (.int p4)] below meth c s₁ [] 0 0 := Stand.of_body Bd
  have e0 : s₁.heap = h0 := by rw [← hh, Bd.state]; rfl
  have N0 := Fr.nil n0
  have lt1 := own_l P3.lt
  have lt2 := own_l P4.lt
  have lt3 := own_l P10.lt
  have lt4 := own_l P11.lt
  have lt5 := own_l P12.lt
  obtain ⟨_, _, ⟨T6, L6, k6, n6⟩, -, X6, ⟨Lc6, hQ6, l6, y6, z6⟩, st6⟩ := Jvm.LawKit.callS X0 hx (y := m_4) hown (mvT hZ (w_0 hw)) (mvT hZ (w_1 hw)) (mvT hZ (w_2 hw)) (mvT hZ (w_3 hw)) (by decide) (backOf (W := 0) (rm_valueC l Z a0 hw [] (((p4 &&& (255 : Int32)).toUInt32.toUInt16.toUInt32.toInt32)) cp h0 n0 (by omega) P0 P1 hcs (own_ch _)) hZ (w_3 hw) (w_2 hw) (by decide) (by decide)) (g := (mkF m 13 #[.val (.long p0), .second, .val (.long p1), .second, .val (.long p2), .second, vI p3, vI p4, .val (.int (p3 &&& (3 : Int32))), .unset, .unset, .unset, .unset, .unset, .unset, .unset, .unset, .unset, .unset, .unset] [(.int ((p4 &&& (255 : Int32)).toUInt32.toUInt16.toUInt32.toInt32))])) rfl (by rw [hml]; rfl) (argsL := [(.int ((p4 &&& (255 : Int32)).toUInt32.toUInt16.toUInt32.toInt32))]) (rest := []) (lenOf pd_24 rfl) rfl (Nat.le_of_eq rfl) (hb hby at_13) (fun _ _ => ⟨rfl, e0, (by decide : 0 + 2 ≤ _), (by decide : 0 + 5 ≤ _)⟩)
  dsimp only [Pt.U, Pt.locs, Pt.cells, Pt.slots] at X6 l6 y6 z6 st6 hQ6
  rw [l6, y6, z6] at X6
  obtain ⟨x6_a_, rfl, Nq6, Kq6, r6_0, r6_1⟩ := hQ6
  have N6 := Fr.app N0 Nq6
  have z6' := Kq6.1
  have lt7 := own_l r6_1.lt
  have f9 := P0.keep Kq6 all0
  obtain ⟨_, _, ⟨T8, L8, k8, n8⟩, -, X8, ⟨Lc8, hQ8, l8, y8, z8⟩, st8⟩ := Jvm.LawKit.callS X6 hx (y := m_4) hown (mvT hZ (w_0 hw)) (mvT hZ (w_1 hw)) (mvT hZ (w_2 hw)) (mvT hZ (w_3 hw)) (by decide) (backOf (W := 0) (rm_valueC l Z a0 hw [] (((((p4.toUInt32 >>> ((8 : Int32) &&& 31).toUInt32).toInt32) &&& (255 : Int32)).toUInt32.toUInt16.toUInt32.toInt32)) cp T6.heap n0 (by omega) f9 P1 hcs (own_ch _)) hZ (w_3 hw) (w_2 hw) (by decide) (by decide)) (g := (mkF m 28 #[.val (.long p0), .second, .val (.long p1), .second, .val (.long p2), .second, vI p3, vI p4, .val (.int (p3 &&& (3 : Int32))), vA x6_a_, .unset, .unset, .unset, .unset, .unset, .unset, .unset, .unset, .unset, .unset] [(.int ((((p4.toUInt32 >>> ((8 : Int32) &&& 31).toUInt32).toInt32) &&& (255 : Int32)).toUInt32.toUInt16.toUInt32.toInt32))])) rfl (by rw [hml]; rfl) (argsL := [(.int ((((p4.toUInt32 >>> ((8 : Int32) &&& 31).toUInt32).toInt32) &&& (255 : Int32)).toUInt32.toUInt16.toUInt32.toInt32))]) (rest := []) (lenOf pd_24 rfl) rfl (Nat.le_of_eq rfl) (hb hby at_28) (fun _ _ => ⟨rfl, rfl, (by decide : 2 + 2 ≤ _), (by decide : 5 + 5 ≤ _)⟩)
  dsimp only [Pt.U, Pt.locs, Pt.cells, Pt.slots] at X8 l8 y8 z8 st8 hQ8
  rw [l8, y8, z8] at X8
  obtain ⟨x8_a_, rfl, Nq8, Kq8, r8_0, r8_1⟩ := hQ8
  have N8 := Fr.app N6 Nq8
  have z8' := Kq8.1
  have lt10 := own_l r8_1.lt
  obtain ⟨T11, h11, X11, e11, E11, A11, D11, -, st11⟩ := newO X8 hx hZ hown (w_26 hw) (w_27 hw) (w_28 hw) rfl (g := (mkF m 33 #[.val (.long p0), .second, .val (.long p1), .second, .val (.long p2), .second, vI p3, vI p4, .val (.int (p3 &&& (3 : Int32))), vA x6_a_, vA x8_a_, .unset, .unset, .unset, .unset, .unset, .unset, .unset, .unset, .unset] [])) rfl (hb hby at_33) (by decide) (by decide)
  obtain ⟨b11, g11⟩ : ∃ z, z = T8.heap.size := ⟨_, rfl⟩
  rw [← g11] at A11 D11 st11
  have z11 := E11.1
  have lt12 := own_l A11.lt
  have F11_46 : Fld Z h11 b11 "java/util/AbstractList" "modCount" "I" (.int 0) := D11 (Or.inl (w_46 hw)) (ty := .int) (by decide)
  have F11_49 : Fld Z h11 b11 "java/util/ArrayList" "elementData" "[Ljava/lang/Object;" .null := D11 (Or.inl (w_49 hw)) (ty := (.array (.object "java/lang/Object"))) (by decide)
  have F11_62 : Fld Z h11 b11 "java/util/ArrayList" "size" "I" (.int 0) := D11 (Or.inl (w_62 hw)) (ty := .int) (by decide)
  have f14 := f9.keep Kq8 all0
  have f15 := f14.ext E11
  obtain ⟨_, _, ⟨T13, L13, k13, n13⟩, -, X13, ⟨Lc13, hQ13, l13, y13, z13⟩, st13⟩ := X11.specialBack hx (y := m_7) rfl hown (mvT hZ (w_29 hw)) (mvT hZ (w_30 hw)) (mvT hZ (w_31 hw)) (by decide) (backOf (W := 1) (rm_ali l Z a0 hw [] b11 dc h11 n0 (by omega) f15 P2 A11 F11_46 F11_62 F11_49 (by omega)) hZ (w_31 hw) (w_28 hw) (by decide) (by decide)) (g := (mkF m 37 #[.val (.long p0), .second, .val (.long p1), .second, .val (.long p2), .second, vI p3, vI p4, .val (.int (p3 &&& (3 : Int32))), vA x6_a_, vA x8_a_, .unset, .unset, .unset, .unset, .unset, .unset, .unset, .unset, .unset] [(.ref b11), (.ref b11)])) rfl (by rw [hml]; rfl) (Steps.refl _) (a := b11) (argsL := []) (rest := [(.ref b11)]) (lenOf pd_3 rfl) rfl (Nat.le_of_eq rfl) (hb hby at_37) (fun _ _ => ⟨rfl, e11, (by decide : 5 + 0 ≤ _), (by decide : 13 + 0 ≤ _)⟩)
  dsimp only [Pt.U, Pt.locs, Pt.cells, Pt.slots] at X13 l13 y13 z13 st13 hQ13
  rw [l13, y13, z13] at X13
  obtain ⟨rfl, Nq13, Kq13, r13_0, r13_1, r13_2, r13_3⟩ := hQ13
  have N13 := Fr.app N8 Nq13
  have z13' := Kq13.1
  have lt16 := own_l r13_0.lt
  have lt17 := own_l r13_1.lt
  have lt18 := own_l r13_2.lt
  have lt19 := own_l r13_3.lt
  have f21 := f15.keep Kq13 (allS (by omega) all0)
  have f22 := P3.keep Kq6 nin0
  have f23 := f22.keep Kq8 nin0
  have f24 := f23.ext E11
  have f25 := f24.keep Kq13 (ninS (own_ne (by omega)) nin0)
  have f26 := r6_1.keep Kq8
  have f27 := f26.ext E11
  have f28 := f27.keep Kq13
  obtain ⟨cq20, kq20, qa20, qb20, qc20⟩ := isOf hZ rfl r13_0
  obtain ⟨_, _, ⟨T20, L20, k20, n20⟩, -, X20, ⟨Lc20, hQ20, l20, y20, z20⟩, st20⟩ := X13.interfaceBack hx (xi := m_55) (y := m_12) (C := "java/util/ArrayList") hown (mvT hZ (w_50 hw)) (mvT hZ (w_51 hw)) (mvT hZ (w_52 hw)) (mvT hZ (w_53 hw)) (mvT hZ (w_54 hw)) (mvT hZ (w_55 hw)) (mvT hZ (w_56 hw)) (mvT hZ (w_57 hw)) (by decide) (backOf (W := 0) (rm_add0 l Z a0 hw [] b11 x6_a_ ((0 : Int32)) dc kd T13.heap n0 (by omega) f21 P2 r13_0 r13_1 r13_2 r13_3 f25 (by omega) (own_ne (by omega)) f28) hZ (w_58 hw) (w_28 hw) (by decide) (by decide)) qa20 qb20 qc20 (g := (mkF m 52 #[.val (.long p0), .second, .val (.long p1), .second, .val (.long p2), .second, vI p3, vI p4, .val (.int (p3 &&& (3 : Int32))), vA x6_a_, vA x8_a_, vA b11, .unset, .unset, .unset, .unset, .unset, .unset, .unset, .unset] [(.ref x6_a_), (.ref b11)])) rfl (by rw [hml]; rfl) (Steps.refl _) (argsL := [(.ref x6_a_)]) (rest := []) (lenOf pd_23 rfl) rfl (Nat.le_of_eq rfl) (hb hby at_52) (fun _ _ => ⟨rfl, rfl, (by decide : 5 + 1 ≤ _), (by decide : 13 + 10 ≤ _)⟩)
  dsimp only [Pt.U, Pt.locs, Pt.cells, Pt.slots] at X20 l20 y20 z20 st20 hQ20
  rw [l20, y20, z20] at X20
  obtain ⟨x20_b, x20_k, rfl, Nq20, Kq20, r20_0, r20_1, r20_2, r20_3, r20_4, r20_5, r20_6, r20_7⟩ := hQ20
  have N20 := Fr.app N13 Nq20
  have z20' := Kq20.1
  have lt29 := own_l r20_1.lt
  have lt30 := own_l r20_2.lt
  have lt31 := own_l r20_3.lt
  have lt32 := own_l r20_4.lt
  have lt33 := own_l r20_5.lt
  have lt34 := own_l r20_7.lt
  have f36 := r8_1.ext E11
  have f37 := f36.keep Kq13
  have f38 := f37.keep Kq20
  obtain ⟨cq35, kq35, qa35, qb35, qc35⟩ := isOf hZ rfl r20_1
  obtain ⟨_, _, ⟨T35, L35, k35, n35⟩, -, X35, ⟨Lc35, hQ35, l35, y35, z35⟩, st35⟩ := X20.interfaceBack hx (xi := m_55) (y := m_12) (C := "java/util/ArrayList") hown (mvT hZ (w_50 hw)) (mvT hZ (w_51 hw)) (mvT hZ (w_52 hw)) (mvT hZ (w_53 hw)) (mvT hZ (w_54 hw)) (mvT hZ (w_55 hw)) (mvT hZ (w_56 hw)) (mvT hZ (w_57 hw)) (by decide) (backOf (W := 0) (rm_add1 l Z a0 hw [] b11 x8_a_ (((0 : Int32) + (1 : Int32))) x20_b x20_k x6_a_ T20.heap n0 (by omega) r20_1 r20_2 r20_3 r20_4 r20_5 r20_7 r20_6 f38 (by omega) (by omega) (own_ne (by omega))) hZ (w_58 hw) (w_28 hw) (by decide) (by decide)) qa35 qb35 qc35 (g := (mkF m 68 #[.val (.long p0), .second, .val (.long p1), .second, .val (.long p2), .second, vI p3, vI p4, .val (.int (p3 &&& (3 : Int32))), vA x6_a_, vA x8_a_, vA b11, .unset, .unset, .unset, .unset, .unset, .unset, .unset, .unset] [(.ref x8_a_), (.ref b11)])) rfl (by rw [hml]; rfl) (Steps.refl _) (argsL := [(.ref x8_a_)]) (rest := []) (lenOf pd_23 rfl) rfl (Nat.le_of_eq rfl) (hb hby at_68) (fun _ _ => ⟨rfl, rfl, (by decide : 6 + 0 ≤ _), (by decide : 23 + 0 ≤ _)⟩)
  dsimp only [Pt.U, Pt.locs, Pt.cells, Pt.slots] at X35 l35 y35 z35 st35 hQ35
  rw [l35, y35, z35] at X35
  obtain ⟨rfl, Nq35, Kq35, r35_0, r35_1, r35_2, r35_3, r35_4, r35_5⟩ := hQ35
  have N35 := Fr.app N20 Nq35
  have z35' := Kq35.1
  have lt39 := own_l r35_0.lt
  have lt40 := own_l r35_1.lt
  have lt41 := own_l r35_2.lt
  have lt42 := own_l r35_3.lt
  have lt43 := own_l r35_4.lt
  have lt44 := own_l r35_5.lt
  have f46 := f28.keep Kq20
  have f47 := f46.keep Kq35
  obtain ⟨cq45, kq45, qa45, qb45, qc45⟩ := isOf hZ rfl r35_0
  obtain ⟨_, _, ⟨T45, L45, k45, n45⟩, -, X45, ⟨Lc45, hQ45, l45, y45, z45⟩, st45⟩ := X35.interfaceBack hx (xi := m_55) (y := m_12) (C := "java/util/ArrayList") hown (mvT hZ (w_50 hw)) (mvT hZ (w_51 hw)) (mvT hZ (w_52 hw)) (mvT hZ (w_53 hw)) (mvT hZ (w_54 hw)) (mvT hZ (w_55 hw)) (mvT hZ (w_56 hw)) (mvT hZ (w_57 hw)) (by decide) (backOf (W := 0) (rm_add2 l Z a0 hw [] b11 x6_a_ ((((0 : Int32) + (1 : Int32)) + (1 : Int32))) x20_b x20_k x6_a_ x8_a_ T35.heap n0 (by omega) r35_0 r35_1 r35_2 r35_3 r35_4 r35_5 r20_6 f47 (by omega) (by omega) (own_ne (by omega))) hZ (w_58 hw) (w_28 hw) (by decide) (by decide)) qa45 qb45 qc45 (g := (mkF m 84 #[.val (.long p0), .second, .val (.long p1), .second, .val (.long p2), .second, vI p3, vI p4, .val (.int (p3 &&& (3 : Int32))), vA x6_a_, vA x8_a_, vA b11, .unset, .unset, .unset, .unset, .unset, .unset, .unset, .unset] [(.ref x6_a_), (.ref b11)])) rfl (by rw [hml]; rfl) (Steps.refl _) (argsL := [(.ref x6_a_)]) (rest := []) (lenOf pd_23 rfl) rfl (Nat.le_of_eq rfl) (hb hby at_84) (fun _ _ => ⟨rfl, rfl, (by decide : 6 + 0 ≤ _), (by decide : 23 + 0 ≤ _)⟩)
  dsimp only [Pt.U, Pt.locs, Pt.cells, Pt.slots] at X45 l45 y45 z45 st45 hQ45
  rw [l45, y45, z45] at X45
  obtain ⟨rfl, Nq45, Kq45, r45_0, r45_1, r45_2, r45_3, r45_4, r45_5⟩ := hQ45
  have N45 := Fr.app N35 Nq45
  have z45' := Kq45.1
  have lt48 := own_l r45_0.lt
  have lt49 := own_l r45_1.lt
  have lt50 := own_l r45_2.lt
  have lt51 := own_l r45_3.lt
  have lt52 := own_l r45_4.lt
  have lt53 := own_l r45_5.lt
  have f54 := f21.keep Kq20 (allS (by omega) all0)
  have f55 := f54.keep Kq35 (allS (by omega) (allS (by omega) all0))
  have f56 := f55.keep Kq45 (allS (by omega) (allS (by omega) all0))
  have f57 := f25.keep Kq20 (ninS (own_ne (by omega)) nin0)
  have f58 := f57.keep Kq35 (ninS (own_ne (by omega)) (ninS (own_ne (by omega)) nin0))
  have f59 := f58.keep Kq45 (ninS (own_ne (by omega)) (ninS (own_ne (by omega)) nin0))
  have f60 := P4.keep Kq6
  have f61 := f60.keep Kq8
  have f62 := f61.ext E11
  have f63 := f62.keep Kq13
  have f64 := f63.keep Kq20
  have f65 := f64.keep Kq35
  have f66 := f65.keep Kq45
  have f67 := f47.keep Kq45
  have f68 := f38.keep Kq35
  have f69 := f68.keep Kq45
  obtain ⟨T70, h70, L70, x70_lf, x70_l2, x70_v2, x70_kv2, x70_sn2, x70_sN2, x70_vs2, x70_l3, x70_v3, x70_kv3, x70_sn3, x70_sN3, x70_vs3, x70_l4, x70_v4, x70_kv4, x70_sn4, x70_sN4, x70_vs4, x70_l5, x70_v5, x70_kv5, x70_sn5, x70_sN5, x70_vs5, x70_mp, X70, e70, N70, Kq70, r70_0, r70_1, r70_2, r70_3, r70_4, r70_5, r70_6, r70_7, r70_8, r70_9, r70_10, r70_11, r70_12, r70_13, r70_14, r70_15, r70_16, r70_17, r70_18, r70_19, r70_20, r70_21, r70_22, r70_23, r70_24, r70_25, r70_26, r70_27, r70_28, r70_29, r70_30, r70_31, r70_32, r70_33, r70_34, r70_35, r70_36, st70⟩ := pz_rest X45 hx hw hZ hown hby hml p0 p1 p2 p3 p4 x6_a_ x8_a_ b11 dc kd rfl N45 (by omega) f56 P2 f59 f66 f67 f69 (by decide) (by decide) (by decide) (by decide)
  have z70' := Kq70.1
  have lt71 := own_l r70_0.lt
  have lt72 := own_l r70_1.lt
  have lt73 := own_l r70_2.lt
  have lt74 := own_l r70_3.lt
  have lt75 := own_l r70_4.lt
  have lt76 := own_l r70_5.lt
  have lt77 := own_l r70_6.lt
  have lt78 := own_l r70_7.lt
  have lt79 := own_l r70_8.lt
  have lt80 := own_l r70_9.lt
  have lt81 := own_l r70_10.lt
  have lt82 := own_l r70_11.lt
  have lt83 := own_l r70_12.lt
  have lt84 := own_l r70_13.lt
  have lt85 := own_l r70_14.lt
  have lt86 := own_l r70_15.lt
  have lt87 := own_l r70_16.lt
  have lt88 := own_l r70_17.lt
  have lt89 := own_l r70_18.lt
  have lt90 := own_l r70_19.lt
  have lt91 := own_l r70_20.lt
  have lt92 := own_l r70_21.lt
  have lt93 := own_l r70_26.lt
  have lt94 := own_l r70_27.lt
  have lt95 := own_l r70_28.lt
  have lt96 := own_l r70_29.lt
  obtain ⟨T97, h97, X97, e97, E97, A97, D97, -, st97⟩ := newO X70 hx hZ hown (w_101 hw) (w_102 hw) (w_103 hw) e70 (g := (mkF m 215 #[.val (.long p0), .second, .val (.long p1), .second, .val (.long p2), .second, vI p3, vI p4, .val (.int (p3 &&& (3 : Int32))), vA x6_a_, vA x8_a_, vA b11, vA x70_lf, vA x70_l2, vA x70_l3, vA x70_l4, vA x70_l5, vA x70_mp, .unset, .unset] [])) rfl (hb hby at_215) (by decide) (by decide)
  obtain ⟨b97, g97⟩ : ∃ z, z = h70.size := ⟨_, rfl⟩
  rw [← g97] at A97 D97 st97
  have z97 := E97.1
  have lt98 := own_l A97.lt
  have F97_313 : Fld Z h97 b97 "com/example/ratify/ratify/recovery/RecoveryReport" "committed" "J" (.long (0 : Int64)) := D97 (Or.inr (w_313 hw)) (ty := .long) (by decide)
  have F97_315 : Fld Z h97 b97 "com/example/ratify/ratify/recovery/RecoveryReport" "rolledBack" "J" (.long (0 : Int64)) := D97 (Or.inr (w_315 hw)) (ty := .long) (by decide)
  have F97_317 : Fld Z h97 b97 "com/example/ratify/ratify/recovery/RecoveryReport" "pending" "J" (.long (0 : Int64)) := D97 (Or.inr (w_317 hw)) (ty := .long) (by decide)
  have F97_319 : Fld Z h97 b97 "com/example/ratify/ratify/recovery/RecoveryReport" "unreachable" "Ljava/util/List;" .null := D97 (Or.inr (w_319 hw)) (ty := (.object "java/util/List")) (by decide)
  have F97_321 : Fld Z h97 b97 "com/example/ratify/ratify/recovery/RecoveryReport" "failures" "Ljava/util/List;" .null := D97 (Or.inr (w_321 hw)) (ty := (.object "java/util/List")) (by decide)
  have F97_323 : Fld Z h97 b97 "com/example/ratify/ratify/recovery/RecoveryReport" "finished" "Ljava/util/List;" .null := D97 (Or.inr (w_323 hw)) (ty := (.object "java/util/List")) (by decide)
  have F97_325 : Fld Z h97 b97 "com/example/ratify/ratify/recovery/RecoveryReport" "unfinished" "Ljava/util/Map;" .null := D97 (Or.inr (w_325 hw)) (ty := (.object "java/util/Map")) (by decide)
  have F97_327 : Fld Z h97 b97 "com/example/ratify/ratify/recovery/RecoveryReport" "waiting" "Ljava/util/List;" .null := D97 (Or.inr (w_327 hw)) (ty := (.object "java/util/List")) (by decide)
  have F97_329 : Fld Z h97 b97 "com/example/ratify/ratify/recovery/RecoveryReport" "deferred" "Ljava/util/List;" .null := D97 (Or.inr (w_329 hw)) (ty := (.object "java/util/List")) (by decide)
  have F97_331 : Fld Z h97 b97 "com/example/ratify/ratify/recovery/RecoveryReport" "decided" "Ljava/util/List;" .null := D97 (Or.inr (w_331 hw)) (ty := (.object "java/util/List")) (by decide)
  have f100 := f56.keep Kq70 all0
  have f101 := f100.ext E97
  have f102 := r45_0.keep Kq70
  have f103 := f102.ext E97
  have f104 := r45_2.keep Kq70 nin0
  have f105 := f104.ext E97
  have f106 := r45_3.keep Kq70 nin0
  have f107 := f106.ext E97
  have f108 := r45_4.keep Kq70
  have f109 := f108.ext E97
  have f110 := r45_5.keep Kq70 nin0
  have f111 := f110.ext E97
  have f112 := r70_0.ext E97
  have f113 := r70_1.ext E97
  have f114 := r70_2.ext E97
  have f115 := r70_3.ext E97
  have f116 := r70_4.ext E97
  have f117 := r70_5.ext E97
  have f118 := r70_6.ext E97
  have f119 := r70_7.ext E97
  have f120 := r70_8.ext E97
  have f121 := r70_9.ext E97
  have f122 := r70_10.ext E97
  have f123 := r70_11.ext E97
  have f124 := r70_12.ext E97
  have f125 := r70_13.ext E97
  have f126 := r70_14.ext E97
  have f127 := r70_15.ext E97
  have f128 := r70_16.ext E97
  have f129 := r70_17.ext E97
  have f130 := r70_18.ext E97
  have f131 := r70_19.ext E97
  have f132 := r70_20.ext E97
  have f133 := r70_21.ext E97
  have f134 := f67.keep Kq70
  have f135 := f134.ext E97
  have f136 := f69.keep Kq70
  have f137 := f136.ext E97
  have f138 := r70_26.ext E97
  have f139 := r70_27.ext E97
  have f140 := r70_28.ext E97
  have f141 := r70_29.ext E97
  obtain ⟨_, _, ⟨T99, L99, k99, n99⟩, -, X99, ⟨Lc99, hQ99, l99, y99, z99⟩, st99⟩ := X97.specialBack hx (y := m_50) rfl hown (mvT hZ (w_104 hw)) (mvT hZ (w_105 hw)) (mvT hZ (w_106 hw)) (by decide) (backOf (W := 1) (rm_rr3 l Z a0 hw [] b97 p0 p1 p2 b11 x20_b x20_k x70_lf x70_l2 x70_v2 x70_kv2 x70_sn2 x70_sN2 x70_vs2 x70_mp x70_l3 x70_v3 x70_kv3 x70_sn3 x70_sN3 x70_vs3 x70_l4 x70_v4 x70_kv4 x70_sn4 x70_sN4 x70_vs4 x70_l5 x70_v5 x70_kv5 x70_sn5 x70_sN5 x70_vs5 x6_a_ x8_a_ el em mo ml mu h97 n0 (by omega) f101 P5 P6 P7 P8 P9 A97 F97_313 F97_315 F97_317 F97_319 F97_321 F97_323 F97_325 F97_327 F97_329 F97_331 f103 f105 f107 f109 f111 f112 f113 f114 f115 f116 f117 f118 f119 f120 f121 f122 f123 f124 f125 f126 f127 f128 f129 f130 f131 f132 f133 f135 f137 f138 f139 f140 f141 (by omega) (by omega) (own_ne (by omega)) (fun q => r70_31 q) (fun q => r70_32 q) (fun q => r70_33 q) (fun q => r70_34 q) (fun q => r70_35 q) (fun q => r70_36 q) r70_22 r70_23 r70_24 r70_25) hZ (w_106 hw) (w_103 hw) (by decide) (by decide)) (g := (mkF m 237 #[.val (.long p0), .second, .val (.long p1), .second, .val (.long p2), .second, vI p3, vI p4, .val (.int (p3 &&& (3 : Int32))), vA x6_a_, vA x8_a_, vA b11, vA x70_lf, vA x70_l2, vA x70_l3, vA x70_l4, vA x70_l5, vA x70_mp, .unset, .unset] [(.ref x70_l5), (.ref x70_l4), (.ref x70_l3), (.ref x70_mp), (.ref x70_l2), (.ref x70_lf), (.ref b11), (.long p2), (.long p1), (.long p0), (.ref b97), (.ref b97)])) rfl (by rw [hml]; rfl) (Steps.refl _) (a := b97) (argsL := [(.long p0), (.long p1), (.long p2), (.ref b11), (.ref x70_lf), (.ref x70_l2), (.ref x70_mp), (.ref x70_l3), (.ref x70_l4), (.ref x70_l5)]) (rest := [(.ref b97)]) (lenOf pd_25 rfl) rfl (Nat.le_of_eq rfl) (hb hby at_237) (fun _ _ => ⟨rfl, e97, (by decide : 17 + 15 ≤ _), (by decide : 96 + 42 ≤ _)⟩)
  dsimp only [Pt.U, Pt.locs, Pt.cells, Pt.slots] at X99 l99 y99 z99 st99 hQ99
  rw [l99, y99, z99] at X99
  obtain ⟨x99_r, x99_ea, x99_ke, rfl, Nq99, Kq99, r99_0, r99_1, r99_2, r99_3, r99_4, r99_5, r99_6, r99_7⟩ := hQ99
  have N99 := Fr.app N70 Nq99
  have z99' := Kq99.1
  have lt142 := own_l r99_0.lt
  have lt143 := own_l r99_1.lt
  have lt144 := own_l r99_2.lt
  have lt145 := own_l r99_5.lt
  have lt146 := own_l r99_6.lt
  have lt147 := own_l r99_7.lt
  obtain ⟨T148, h148, L148, X148, e148, N148, Kq148, st148⟩ := pz_xz X99 hx hw hZ hown hby hml p0 p1 p2 p3 p4 x6_a_ x8_a_ b11 x70_lf x70_l2 x70_l3 x70_l4 x70_l5 x70_mp b97 rfl N99 (by omega) hz (by decide) (by decide) (by decide) (by decide)
  have z148' := Kq148.1
  have f150 := r99_1.keep Kq148 nin0
  have f151 := r99_2.keep Kq148 nin0
  have f152 := r99_5.keep Kq148
  have f153 := r99_6.keep Kq148 nin0
  have f154 := r99_7.keep Kq148 nin0
  have f155 := r99_0.keep Kq148
  obtain ⟨cq149, kq149, qa149, qb149, qc149⟩ := isOf hZ e148 f155
  obtain ⟨_, _, ⟨T149, L149, k149, n149⟩, -, X149, ⟨Lc149, hQ149, l149, y149, z149⟩, st149⟩ := X148.virtualBack hx (y := m_53) (z := m_53) hown (mvT hZ (w_332 hw)) (mvT hZ (w_333 hw)) (notFace_of_selects (args := #[]) (mvT hZ (w_335 hw))) (mvT hZ (w_335 hw)) (mvT hZ (w_334 hw)) (by decide) (backOf (W := 0) (rm_cmN3 l Z a0 hw [] b97 p2 x99_r x99_ea x99_ke ([(.ref x6_a_), (.ref x8_a_), (.ref x6_a_)]) h148 n0 (by omega) f150 f151 f152 f153 f154) hZ (w_336 hw) (w_103 hw) (by decide) (by decide)) qa149 qc149 (g := (mkF m 262 #[.val (.long p0), .second, .val (.long p1), .second, .val (.long p2), .second, vI p3, vI p4, .val (.int (p3 &&& (3 : Int32))), vA x6_a_, vA x8_a_, vA b11, vA x70_lf, vA x70_l2, vA x70_l3, vA x70_l4, vA x70_l5, vA x70_mp, vA b97, vI 0] [(.ref b97)])) rfl (by rw [hml]; rfl) (Steps.refl _) (argsL := []) (rest := []) (lenOf pd_8 rfl) rfl (Nat.le_of_eq rfl) (hb hby at_262) (fun _ _ => ⟨rfl, e148, (by decide : 32 + 0 ≤ _), (by decide : 138 + 0 ≤ _)⟩)
  dsimp only [Pt.U, Pt.locs, Pt.cells, Pt.slots] at X149 l149 y149 z149 st149 hQ149
  rw [l149, y149, z149] at X149
  obtain ⟨rfl, Nq149, Kq149⟩ := hQ149
  have N149 := Fr.app N148 Nq149
  obtain ⟨fs, hr, hrun, hended, hW, hsame⟩ := X149.leave (v := some (.int 1)) (fun h => by rw [Bd.returns] at h; cases h)
  refine ⟨_, _, castTop (ef_15 m p0 p1 p2 p3 p4) ?_, hrun, hended, _, _, rfl, ?_, ⟨_, rfl⟩, hW, hsame.mono (by decide) (by decide)⟩
  · show Steps _ _ _ (s₁.setTop (mkF m 0 #[.val (.long p0), .second, .val (.long p1), .second, .val (.long p2), .second, vI p3, vI p4, .unset, .unset, .unset, .unset, .unset, .unset, .unset, .unset, .unset, .unset, .unset, .unset] [])) _
    refine XS.iload X0.here hx rfl (hb hby at_0) rfl ?_
    refine XS.iconst X0.here hx rfl (hb hby at_2) ?_
    refine XS.iand X0.here hx rfl (hb hby at_3) rfl ?_
    refine XS.istore X0.here hx rfl (hb hby at_4) rfl (l' := #[.val (.long p0), .second, .val (.long p1), .second, .val (.long p2), .second, vI p3, vI p4, .val (.int (p3 &&& (3 : Int32))), .unset, .unset, .unset, .unset, .unset, .unset, .unset, .unset, .unset, .unset, .unset]) rfl ?_
    refine XS.iload X0.here hx rfl (hb hby at_6) rfl ?_
    refine XS.sipush X0.here hx rfl (hb hby at_8) ?_
    refine XS.iand X0.here hx rfl (hb hby at_11) rfl ?_
    refine XS.i2c X0.here hx rfl (hb hby at_12) rfl ?_
    refine st6 _ ?_
    show Steps _ _ _ (T6.setTop (mkF m 16 #[.val (.long p0), .second, .val (.long p1), .second, .val (.long p2), .second, vI p3, vI p4, .val (.int (p3 &&& (3 : Int32))), .unset, .unset, .unset, .unset, .unset, .unset, .unset, .unset, .unset, .unset, .unset] [(.ref x6_a_)])) _
    refine XS.astore X6.here hx rfl (hb hby at_16) rfl rfl (l' := #[.val (.long p0), .second, .val (.long p1), .second, .val (.long p2), .second, vI p3, vI p4, .val (.int (p3 &&& (3 : Int32))), vA x6_a_, .unset, .unset, .unset, .unset, .unset, .unset, .unset, .unset, .unset, .unset]) rfl ?_
    refine XS.iload X6.here hx rfl (hb hby at_18) rfl ?_
    refine XS.bipush X6.here hx rfl (hb hby at_20) ?_
    refine XS.iushr X6.here hx rfl (hb hby at_22) rfl ?_
    refine XS.sipush X6.here hx rfl (hb hby at_23) ?_
    refine XS.iand X6.here hx rfl (hb hby at_26) rfl ?_
    refine XS.i2c X6.here hx rfl (hb hby at_27) rfl ?_
    refine st8 _ ?_
    show Steps _ _ _ (T8.setTop (mkF m 31 #[.val (.long p0), .second, .val (.long p1), .second, .val (.long p2), .second, vI p3, vI p4, .val (.int (p3 &&& (3 : Int32))), vA x6_a_, .unset, .unset, .unset, .unset, .unset, .unset, .unset, .unset, .unset, .unset] [(.ref x8_a_)])) _
    refine XS.astore X8.here hx rfl (hb hby at_31) rfl rfl (l' := #[.val (.long p0), .second, .val (.long p1), .second, .val (.long p2), .second, vI p3, vI p4, .val (.int (p3 &&& (3 : Int32))), vA x6_a_, vA x8_a_, .unset, .unset, .unset, .unset, .unset, .unset, .unset, .unset, .unset]) rfl ?_
    refine st11 _ ?_
    show Steps _ _ _ (T11.setTop (mkF m 36 #[.val (.long p0), .second, .val (.long p1), .second, .val (.long p2), .second, vI p3, vI p4, .val (.int (p3 &&& (3 : Int32))), vA x6_a_, vA x8_a_, .unset, .unset, .unset, .unset, .unset, .unset, .unset, .unset, .unset] [(.ref b11)])) _
    refine XS.dup X11.here hx rfl (hb hby at_36) rfl rfl ?_
    refine st13.trans ?_
    show Steps _ _ _ (T13.setTop (mkF m 40 #[.val (.long p0), .second, .val (.long p1), .second, .val (.long p2), .second, vI p3, vI p4, .val (.int (p3 &&& (3 : Int32))), vA x6_a_, vA x8_a_, .unset, .unset, .unset, .unset, .unset, .unset, .unset, .unset, .unset] [(.ref b11)])) _
    refine XS.astore X13.here hx rfl (hb hby at_40) rfl rfl (l' := #[.val (.long p0), .second, .val (.long p1), .second, .val (.long p2), .second, vI p3, vI p4, .val (.int (p3 &&& (3 : Int32))), vA x6_a_, vA x8_a_, vA b11, .unset, .unset, .unset, .unset, .unset, .unset, .unset, .unset]) rfl ?_
    refine XS.iload X13.here hx rfl (hb hby at_42) rfl ?_
    refine XS.iconst X13.here hx rfl (hb hby at_44) ?_
    refine XS.icmpNo X13.here hx rfl (hb hby at_45) rfl (flt (h1 : ¬ ((p3 &&& (3 : Int32)) < (1 : Int32)))).1 ?_
    refine XS.aload X13.here hx rfl (hb hby at_48) rfl rfl ?_
    refine XS.aload X13.here hx rfl (hb hby at_50) rfl rfl ?_
    refine st20.trans ?_
    show Steps _ _ _ (T20.setTop (mkF m 57 #[.val (.long p0), .second, .val (.long p1), .second, .val (.long p2), .second, vI p3, vI p4, .val (.int (p3 &&& (3 : Int32))), vA x6_a_, vA x8_a_, vA b11, .unset, .unset, .unset, .unset, .unset, .unset, .unset, .unset] [(.int 1)])) _
    refine XS.pop X20.here hx rfl (hb hby at_57) rfl rfl ?_
    refine XS.iload X20.here hx rfl (hb hby at_58) rfl ?_
    refine XS.iconst X20.here hx rfl (hb hby at_60) ?_
    refine XS.icmpNo X20.here hx rfl (hb hby at_61) rfl (flt (h2 : ¬ ((p3 &&& (3 : Int32)) < (2 : Int32)))).1 ?_
    refine XS.aload X20.here hx rfl (hb hby at_64) rfl rfl ?_
    refine XS.aload X20.here hx rfl (hb hby at_66) rfl rfl ?_
    refine st35.trans ?_
    show Steps _ _ _ (T35.setTop (mkF m 73 #[.val (.long p0), .second, .val (.long p1), .second, .val (.long p2), .second, vI p3, vI p4, .val (.int (p3 &&& (3 : Int32))), vA x6_a_, vA x8_a_, vA b11, .unset, .unset, .unset, .unset, .unset, .unset, .unset, .unset] [(.int 1)])) _
    refine XS.pop X35.here hx rfl (hb hby at_73) rfl rfl ?_
    refine XS.iload X35.here hx rfl (hb hby at_74) rfl ?_
    refine XS.iconst X35.here hx rfl (hb hby at_76) ?_
    refine XS.icmpNo X35.here hx rfl (hb hby at_77) rfl (flt (h3 : ¬ ((p3 &&& (3 : Int32)) < (3 : Int32)))).1 ?_
    refine XS.aload X35.here hx rfl (hb hby at_80) rfl rfl ?_
    refine XS.aload X35.here hx rfl (hb hby at_82) rfl rfl ?_
    refine st45.trans ?_
    show Steps _ _ _ (T45.setTop (mkF m 89 #[.val (.long p0), .second, .val (.long p1), .second, .val (.long p2), .second, vI p3, vI p4, .val (.int (p3 &&& (3 : Int32))), vA x6_a_, vA x8_a_, vA b11, .unset, .unset, .unset, .unset, .unset, .unset, .unset, .unset] [(.int 1)])) _
    refine XS.pop X45.here hx rfl (hb hby at_89) rfl rfl ?_
    refine st70 _ ?_
    show Steps _ _ _ (T70.setTop (mkF m 215 #[.val (.long p0), .second, .val (.long p1), .second, .val (.long p2), .second, vI p3, vI p4, .val (.int (p3 &&& (3 : Int32))), vA x6_a_, vA x8_a_, vA b11, vA x70_lf, vA x70_l2, vA x70_l3, vA x70_l4, vA x70_l5, vA x70_mp, .unset, .unset] [])) _
    refine st97 _ ?_
    show Steps _ _ _ (T97.setTop (mkF m 218 #[.val (.long p0), .second, .val (.long p1), .second, .val (.long p2), .second, vI p3, vI p4, .val (.int (p3 &&& (3 : Int32))), vA x6_a_, vA x8_a_, vA b11, vA x70_lf, vA x70_l2, vA x70_l3, vA x70_l4, vA x70_l5, vA x70_mp, .unset, .unset] [(.ref b97)])) _
    refine XS.dup X97.here hx rfl (hb hby at_218) rfl rfl ?_
    refine XS.lloadN X97.here hx rfl (hb hby at_219) rfl ?_
    refine XS.lloadN X97.here hx rfl (hb hby at_220) rfl ?_
    refine XS.lload X97.here hx rfl (hb hby at_221) rfl ?_
    refine XS.aload X97.here hx rfl (hb hby at_223) rfl rfl ?_
    refine XS.aload X97.here hx rfl (hb hby at_225) rfl rfl ?_
    refine XS.aload X97.here hx rfl (hb hby at_227) rfl rfl ?_
    refine XS.aload X97.here hx rfl (hb hby at_229) rfl rfl ?_
    refine XS.aload X97.here hx rfl (hb hby at_231) rfl rfl ?_
    refine XS.aload X97.here hx rfl (hb hby at_233) rfl rfl ?_
    refine XS.aload X97.here hx rfl (hb hby at_235) rfl rfl ?_
    refine st99.trans ?_
    show Steps _ _ _ (T99.setTop (mkF m 240 #[.val (.long p0), .second, .val (.long p1), .second, .val (.long p2), .second, vI p3, vI p4, .val (.int (p3 &&& (3 : Int32))), vA x6_a_, vA x8_a_, vA b11, vA x70_lf, vA x70_l2, vA x70_l3, vA x70_l4, vA x70_l5, vA x70_mp, .unset, .unset] [(.ref b97)])) _
    refine XS.astore X99.here hx rfl (hb hby at_240) rfl rfl (l' := #[.val (.long p0), .second, .val (.long p1), .second, .val (.long p2), .second, vI p3, vI p4, .val (.int (p3 &&& (3 : Int32))), vA x6_a_, vA x8_a_, vA b11, vA x70_lf, vA x70_l2, vA x70_l3, vA x70_l4, vA x70_l5, vA x70_mp, vA b97, .unset]) rfl ?_
    refine st148 _ ?_
    show Steps _ _ _ (T148.setTop (mkF m 260 #[.val (.long p0), .second, .val (.long p1), .second, .val (.long p2), .second, vI p3, vI p4, .val (.int (p3 &&& (3 : Int32))), vA x6_a_, vA x8_a_, vA b11, vA x70_lf, vA x70_l2, vA x70_l3, vA x70_l4, vA x70_l5, vA x70_mp, vA b97, vI 0] [])) _
    refine XS.aload X148.here hx rfl (hb hby at_260) rfl rfl ?_
    refine st149.trans ?_
    show Steps _ _ _ (T149.setTop (mkF m 265 #[.val (.long p0), .second, .val (.long p1), .second, .val (.long p2), .second, vI p3, vI p4, .val (.int (p3 &&& (3 : Int32))), vA x6_a_, vA x8_a_, vA b11, vA x70_lf, vA x70_l2, vA x70_l3, vA x70_l4, vA x70_l5, vA x70_mp, vA b97, vI 0] [(.int 0)])) _
    refine XS.iload X149.here hx rfl (hb hby at_265) rfl ?_
    refine XS.icmpNo X149.here hx rfl (hb hby at_267) rfl (teq ((by decide) : (0 : Int32) = (0 : Int32))).2 ?_
    refine XS.iconst X149.here hx rfl (hb hby at_270) ?_
    refine XS.goto X149.here hx rfl (pc0 := 271) (pc' := 275) rfl (hb hby at_271) (by decide) (by decide) ?_
    exact retN X149 hx (t := .boolean) Bd.returns (by simp) (hb hby at_275) hr
  · show Q_law Z p0 p1 p2 p3 p4 cp dc kd el em mo ml mu ee ke h0 n0 _ T149.heap _
    rw [(Kq149 : T149.heap = h148)]
    exact ⟨rfl, N149⟩
theorem own_lt (x y : Int32) : x < y ↔ x.toInt < y.toInt := Int32.lt_iff_toInt_lt
theorem own_k (n : Int32) (z : Int) (h : n.toInt = z) : n.toInt = z := h
theorem own_ms (y : Int32) : 0 ≤ (y &&& (3 : Int32)).toInt ∧ (y &&& (3 : Int32)).toInt ≤ 3 := by
  have q := c_and y 3 (by decide)
  have e : (3 : Int32).toInt = 3 := by decide
  omega
theorem own_up {x y z : Int32} (h : x < y) (q : y < z) : x < z := by rw [own_lt] at *; omega
theorem own_dn {x y z : Int32} (h : ¬ (x < z)) (q : y < z) : ¬ (x < y) := by rw [own_lt] at *; omega
theorem own_z0 {y : Int32} (h : (y &&& (3 : Int32)) < (1 : Int32)) : (y &&& (3 : Int32)) = (0 : Int32) := by
  have q := own_ms y
  have e : (1 : Int32).toInt = 1 := by decide
  have e0 : (0 : Int32).toInt = 0 := by decide
  rw [own_lt] at h
  exact Int32.toInt_inj.mp (by omega)
theorem own_z1 {y : Int32} (h : ¬ (y < (1 : Int32))) : ¬ (y = (0 : Int32)) := fun e => h (e ▸ by decide)
theorem rm_law (l : Launch) (Z : State) (a0 : Array Value) (hw : HW Z a0) (ws : List Jvm.Cond) (p0 : Int64) (p1 : Int64) (p2 : Int64) (p3 : Int32) (p4 : Int32) (cp : Int32) (dc : Addr) (kd : ClassId) (el : Addr) (em : Addr) (mo : Addr) (ml : Addr) (mu : Addr) (ee : Addr) (ke : ClassId) (h0 : Heap) (n0 : Nat) (Z0 : n0 ≤ h0.size) (P0 : Old Z n0 h0) (P1 : sta0 Z (.int cp)) (P2 : sta1 Z (.ref dc)) (P3 : Arv Z h0 dc kd (.object "java/lang/Object") (0 : Int32) [] .null) (P4 : Exa Z h0 dc "[Ljava/lang/Object;") (P5 : sta2 Z (.ref el)) (P6 : sta3 Z (.ref em)) (P7 : Mi Z "[Ljava/lang/Object;" mo) (P8 : Mi Z "java/util/LinkedHashMap" ml) (P9 : Mi Z "java/util/Collections$UnmodifiableMap" mu) (P10 : Exa Z h0 el "java/util/ImmutableCollections$ListN") (P11 : fld10 Z h0 el (.ref ee)) (P12 : Arv Z h0 ee ke (.object "java/lang/Object") (0 : Int32) [] .null) (hcs : ¬ (cp = (0 : Int32))) :
    MetFree l x (head1 (Jvm.Cond.code x code maxLocals ret :: ws) room_1) (fun as' U => as' = #[(.long p0), (.long p1), (.long p2), (.int p3), (.int p4)] ∧ Z.Warmed39 U.vm ∧ U.heap = h0) (fun _ _ _ _ _ => True) (fun _ U o U' => ∃ v L, o = .returned v ∧ Q_law Z p0 p1 p2 p3 p4 cp dc kd el em mo ml mu ee ke h0 n0 v U'.heap L ∧ FrameEnd U o U' L room_1.cells room_1.slots) := by
  by_cases h1 : (p3 &&& (3 : Int32)) < (1 : Int32)
  · by_cases hp : (lcmpW p2 (0 : Int64)) = (0 : Int32)
    · exact rm_law_01 l Z a0 hw ws p0 p1 p2 p3 p4 cp dc kd el em mo ml mu ee ke h0 n0 Z0 P0 P1 P2 P3 P4 P5 P6 P7 P8 P9 P10 P11 P12 hcs h1 (own_up h1 (by decide)) (own_up h1 (by decide)) (own_z0 h1) hp
    · exact rm_law_00 l Z a0 hw ws p0 p1 p2 p3 p4 cp dc kd el em mo ml mu ee ke h0 n0 Z0 P0 P1 P2 P3 P4 P5 P6 P7 P8 P9 P10 P11 P12 hcs h1 (own_up h1 (by decide)) (own_up h1 (by decide)) (own_z0 h1) hp
  by_cases h2 : (p3 &&& (3 : Int32)) < (2 : Int32)
  · exact rm_law_12 l Z a0 hw ws p0 p1 p2 p3 p4 cp dc kd el em mo ml mu ee ke h0 n0 Z0 P0 P1 P2 P3 P4 P5 P6 P7 P8 P9 P10 P11 P12 hcs h1 h2 (own_up h2 (by decide)) (own_z1 h1)
  by_cases h3 : (p3 &&& (3 : Int32)) < (3 : Int32)
  · exact rm_law_22 l Z a0 hw ws p0 p1 p2 p3 p4 cp dc kd el em mo ml mu ee ke h0 n0 Z0 P0 P1 P2 P3 P4 P5 P6 P7 P8 P9 P10 P11 P12 hcs h1 h2 h3 (own_z1 h1)
  exact rm_law_32 l Z a0 hw ws p0 p1 p2 p3 p4 cp dc kd el em mo ml mu ee ke h0 n0 Z0 P0 P1 P2 P3 P4 P5 P6 P7 P8 P9 P10 P11 P12 hcs h1 h2 h3 (own_z1 h1)
set_option maxRecDepth 65536 in
set_option maxHeartbeats 40000000 in
theorem comes_1 {Post : Tables → Env → Array Value → State → Outcome → State → Prop} (hpost : ∀ tb e args s v u, (limb_1_1.after args s (.returned v) u = true ∧ limb_1_2.after args s (.returned v) u = true ∧ True) → FrameEnd s (.returned v) u (Jvm.fieldLocs frame_1_writes args s ++ Jvm.arrayLocs frame_1_arrays args s ++ Jvm.staticLocs frame_1_statics s) 72 384 → Post tb e args s (.returned v) u) :
    ArmFor flags0 classFile x code maxLocals ret World_1 tables_1 room_1 Calls_1 rest_1 Pre_1 Post := by
  intro l hfl _ _ p e ha hc hk s m args below hf hA hF happ hP
  obtain ⟨hcalls, hrest, hpre⟩ := hP
  obtain ⟨-, -, -, hnamed, -, -, -, hat⟩ := (Spec.applies_iff hf).mp happ
  obtain ⟨hg, hn⟩ := and_e (Cond.before_iff.mp (show (Jvm.Cond.and given_1 narrow_1).before args s = true from hpre))
  obtain ⟨hcount, hq0⟩ := and_e hg
  obtain ⟨hk0, hq1⟩ := and_e hq0
  obtain ⟨hk1, hq2⟩ := and_e hq1
  obtain ⟨hk2, hq3⟩ := and_e hq2
  obtain ⟨hk3, hq4⟩ := and_e hq3
  obtain ⟨w0, w1, w2, w3, w4, rfl⟩ : ∃ w0 w1 w2 w3 w4 : Value, args = #[w0, w1, w2, w3, w4] := by
    have hs : args.size = 5 := by simpa [Cond.value, given_1] using hcount
    obtain ⟨L⟩ := args
    match L, hs with
    | [w0, w1, w2, w3, w4], _ => exact ⟨w0, w1, w2, w3, w4, rfl⟩
  have hw := fun d (hd : d ∈ tables_1) => atoms_spec (ws := Jvm.Cond.code x code maxLocals ret :: tables_1) hat d (List.mem_cons_of_mem _ hd)
  obtain ⟨hsets, hown0⟩ := atoms_of _ (rest_1_c_eq ▸ (show rest_1_c.before _ s = true from hrest))
  have hfit : Fit s := fun {y c} hc i hi => by
    obtain ⟨ha, rfl⟩ := Array.getElem?_eq_some_iff.mp hc
    have q := List.all_eq_true.mp ((Array.all_eq_true_iff_forall_mem.mp hF) _ (Array.getElem_mem ha)) i (List.mem_range.mpr hi)
    simpa [Array.getElem?_eq_getElem hi] using q
  obtain ⟨i0, ev0⟩ := isL_v hk0
  obtain rfl : w0 = (.long i0) := Option.some.inj ev0
  obtain ⟨i1, ev1⟩ := isL_v hk1
  obtain rfl : w1 = (.long i1) := Option.some.inj ev1
  obtain ⟨i2, ev2⟩ := isL_v hk2
  obtain rfl : w2 = (.long i2) := Option.some.inj ev2
  obtain ⟨i3, ev3⟩ := is_v hk3
  obtain rfl : w3 = (.int i3) := Option.some.inj ev3
  obtain ⟨i4, ev4⟩ := is_v hq4
  obtain rfl : w4 = (.int i4) := Option.some.inj ev4
  obtain ⟨cs, e4⟩ := is_v (Cond.before_iff.mp (hsets _ (List.mem_of_getElem? (i := 1) rfl)))
  have S4 : Sta s s.heap "java/lang/String" "COMPACT_STRINGS" "Z" (.int cs) := Sta.start e4 (Or.inl (hsets _ (List.mem_of_getElem? (i := 0) rfl)))
  have c4 : ¬ (cs = (0 : Int32)) := gotF (Cond.eq_ints e4 (Term.int_eval (0))) (not_v (Cond.before_iff.mp (hsets _ (List.mem_of_getElem? (i := 2) rfl))))
  obtain ⟨dc, kd, e5, E5, V5⟩ := own_arr0 (dv := .null) hfit (hsets _ (List.mem_of_getElem? (i := 16) rfl)) (hsets _ (List.mem_of_getElem? (i := 15) rfl)) (eqv_i (Term.int_eval (0)) (Cond.before_iff.mp (hsets _ (List.mem_of_getElem? (i := 17) rfl))))
  have S5 : Sta s s.heap "java/util/ArrayList" "DEFAULTCAPACITY_EMPTY_ELEMENTDATA" "[Ljava/lang/Object;" (.ref dc) := Sta.start e5 (Or.inr ⟨(w_28 hw), hsets _ (List.mem_of_getElem? (i := 11) rfl)⟩)
  obtain ⟨el, -, -, -, e6, -⟩ := Cond.exactly_spec (hsets _ (List.mem_of_getElem? (i := 20) rfl))
  have S6 : Sta s s.heap "java/util/ImmutableCollections" "EMPTY_LIST" "Ljava/util/ImmutableCollections$ListN;" (.ref el) := Sta.start e6 (Or.inl (hsets _ (List.mem_of_getElem? (i := 19) rfl)))
  have E6 := Exa.start e6 (Cond.before_iff.mp (hsets _ (List.mem_of_getElem? (i := 20) rfl)))
  obtain ⟨ee, ke, e7, -, V7⟩ := own_arr0 (dv := .null) hfit (hsets _ (List.mem_of_getElem? (i := 22) rfl)) (hsets _ (List.mem_of_getElem? (i := 21) rfl)) (eqv_i (Term.int_eval (0)) (Cond.before_iff.mp (hsets _ (List.mem_of_getElem? (i := 23) rfl))))
  have F7 : Fld s s.heap el "java/util/ImmutableCollections$ListN" "elements" "[Ljava/lang/Object;" (.ref ee) := Fld.start (by have q := e7; rw [Term.eval, e6] at q; exact q)
  obtain ⟨em, -, -, -, e8, -⟩ := Cond.exactly_spec (hsets _ (List.mem_of_getElem? (i := 27) rfl))
  have S8 : Sta s s.heap "java/util/ImmutableCollections" "EMPTY" "Ljava/lang/Object;" (.ref em) := Sta.start e8 (Or.inl (hsets _ (List.mem_of_getElem? (i := 26) rfl)))
  obtain ⟨q1, q2, mo, q3, q4, q5⟩ := hcalls.1
  obtain ⟨r1, r2, ml, r3, r4, r5⟩ := hcalls.2.1
  obtain ⟨t1, t2, mu, t3, t4, t5⟩ := hcalls.2.2.1
  obtain ⟨n, o, h1, h2, h3, _, L, rfl, ⟨rfl, N⟩, hq⟩ := rm_law l s _ hw tables_1 i0 i1 i2 i3 i4 cs dc kd el em mo ml mu ee ke s.heap s.heap.size (Nat.le_refl _) (Old.start s) S4 S5 V5 E5 S6 S8 ⟨q1, q2, q3, q4, q5.1⟩ ⟨r1, r2, r3, r4, r5.1⟩ ⟨t1, t2, t3, t4, t5.1⟩ E6 F7 V7 c4 p e ha hc hk s m _ below hf ((Spec.applies_iff_loose hf).mp happ).1 ⟨rfl, State.Warmed39.refl s, rfl⟩ trivial
  refine ⟨n, _, h1, h2, h3, hpost _ _ _ _ _ _ ⟨Cond.after_iff.mpr rfl, Cond.after_iff.mpr (eq_i res_at (Term.int_eval (1)) rfl), trivial⟩ ⟨hq.1, hq.2.1, (hq.2.2.sift fun y hy => Or.inr (N y hy)).mono (by decide) (by decide)⟩⟩
theorem main_1_1 : Claimed_1_1 := comes_1 fun _ _ _ _ _ _ h hF => ⟨h.1, hF⟩
theorem main_1_2 : Claimed_1_2 := comes_1 fun _ _ _ _ _ _ h hF => ⟨h.2.1, hF⟩
end Jvm.Pilot.@@N@@
namespace Jvm.Pilot.@@N@@
open Jvm Jvm.ClassFile Sem Op Lib Jvm.Free Jvm.Stand Jvm.Pilot.@@N@@.Jvm.D
/-! MADE BY PROGRAM (witnessworld.py) out of the Statement's table words and the real class files: 50 classes; the members and pool entries that the words name. The judged class is class 1, her method 1. -/
namespace start1
open Jvm.ClassFile
def u (s : String) : CpInfo := .utf8 (stringToUtf16 s)
/-- a pool by its gaps: so many unusable entries, then the entry; so many at the end -/
def gap : Nat → List CpInfo → List CpInfo
  | 0, r => r
  | n + 1, r => .unusable :: gap n r
def poolList (es : List (Nat × CpInfo)) (last : Nat) : List CpInfo := es.foldr (fun e r => gap e.1 (e.2 :: r)) (gap last [])
def pool (es : List (Nat × CpInfo)) (last : Nat) : Array CpInfo := ⟨poolList es last⟩
def fileOf (pool : Array CpInfo) (this : Nat) (attrs : Array Attribute := #[]) (ms : Array MethodInfo := #[]) (fl : Nat := 33) (sup : Nat := 0) (ifs : Array Nat := #[]) (fds : Array FieldInfo := #[]) : ClassFile where
  minorVersion := 0
  majorVersion := 65
  constantPool := pool
  accessFlags := fl
  thisClass := this
  superClass := sup
  interfaces := ifs
  fields := fds
  methods := ms
  attributes := attrs
def plain (name : String) (sup : Option ClassId) : Class where
  name := name
  kind := .ordinary
  loader := none
  accessFlags := 33
  super := sup
  interfaces := #[]
  cf := none
  fields := #[]
  methods := #[]
  instanceTypes := #[]
  staticTypes := #[]
  resolved := #[]
  callSites := []
  init := .initialized
  statics := none
  mirror := none

def pool0 : Array CpInfo := pool [(5, u "<init>"), (0, u "()V"), (1, .class_ 10), (1, u "java/lang/Object"), (0, u "getClass"), (0, u "()Ljava/lang/Class;")] 111

def k0c0 : Code := { maxStack := 0, maxLocals := 1, code := object_method_1_code, exceptionTable := #[], attributes := #[] }
def k0m0 : Method := { name := "<init>", desc := "()V", sig := { parameters := [], returnType := none }, accessFlags := 1, code := some k0c0 }
def k0m1 : Method := { name := "getClass", desc := "()Ljava/lang/Class;", sig := { parameters := [], returnType := some (.object "java/lang/Class") }, accessFlags := 273, code := none }
/-- java/lang/Object -/
def k0 : Class := { plain "java/lang/Object" none with
  accessFlags := 33
  interfaces := #[]
  cf := some (fileOf pool0 8 #[] #[{ accessFlags := 1, nameIndex := 5, descriptorIndex := 6, attributes := #[] }, { accessFlags := 273, nameIndex := 11, descriptorIndex := 12, attributes := #[] }] 33 0 #[] #[])
  fields := #[]
  methods := #[k0m0, k0m1]
  instanceTypes := #[]
  staticTypes := #[]
  resolved := Array.replicate 124 none
  statics := none }

def pool1 : Array CpInfo := pool [(2, .class_ 4), (0, .nameAndType 5 6), (0, u "java/lang/Object"), (0, u "<init>"), (0, u "()V"), (0, .methodref 8 9), (0, .class_ 10), (0, .nameAndType 11 12), (0, u "java/lang/String"), (0, u "valueOf"), (0, u "(C)Ljava/lang/String;"), (0, .class_ 14), (0, u "java/util/ArrayList"), (0, .methodref 13 3), (0, .interfaceMethodref 17 18), (0, .class_ 19), (0, .nameAndType 20 21), (0, u "java/util/List"), (0, u "add"), (0, u "(Ljava/lang/Object;)Z"), (0, .class_ 23), (0, u "java/util/HashMap"), (0, .methodref 22 3), (0, .class_ 26), (0, u "com/example/ratify/ratify/recovery/RecoveryReport"), (0, .methodref 25 28), (0, .nameAndType 5 29), (0, u "(JJJLjava/util/List;Ljava/util/List;Ljava/util/List;Ljava/util/Map;Ljava/util/List;Ljava/util/List;Ljava/util/List;)V"), (0, .methodref 25 31), (0, .nameAndType 32 33), (0, u "complete"), (0, u "()Z"), (0, .class_ 35), (0, u "com/example/ratify/ratify/recovery/RecoveryReportCompletePinLaw"), (2, u "law"), (0, u "(JJJII)Z")] 3

def k1m0 : Method := { name := "<init>", desc := "()V", sig := { parameters := [], returnType := none }, accessFlags := 1, code := none }
def k1c1 : Code := { maxStack := 15, maxLocals := 20, code := code, exceptionTable := #[], attributes := #[] }
def k1m1 : Method := { name := "law", desc := "(JJJII)Z", sig := { parameters := [.long, .long, .long, .int, .int], returnType := some .boolean }, accessFlags := 9, code := some k1c1 }
/-- com/example/ratify/ratify/recovery/RecoveryReportCompletePinLaw -/
def k1 : Class := { plain "com/example/ratify/ratify/recovery/RecoveryReportCompletePinLaw" (some 0) with
  accessFlags := 49
  interfaces := #[]
  cf := some (fileOf pool1 34 #[] #[{ accessFlags := 1, nameIndex := 5, descriptorIndex := 6, attributes := #[] }, { accessFlags := 9, nameIndex := 38, descriptorIndex := 39, attributes := #[] }] 49 2 #[] #[])
  fields := #[]
  methods := #[k1m0, k1m1]
  instanceTypes := #[]
  staticTypes := #[]
  resolved := Array.replicate 43 none
  statics := none }

def pool2 : Array CpInfo := pool [(1, .class_ 2), (0, u "java/io/Serializable"), (0, .class_ 4), (0, u "java/lang/Object")] 2

/-- java/io/Serializable -/
def k2 : Class := { plain "java/io/Serializable" (some 0) with
  accessFlags := 1537
  interfaces := #[]
  cf := some (fileOf pool2 1 #[] #[] 1537 3 #[] #[])
  fields := #[]
  methods := #[]
  instanceTypes := #[]
  staticTypes := #[]
  resolved := Array.replicate 7 none
  statics := none }

def pool3 : Array CpInfo := pool [(1, .class_ 2), (0, u "java/lang/Comparable"), (0, .class_ 4), (0, u "java/lang/Object")] 7

/-- java/lang/Comparable -/
def k3 : Class := { plain "java/lang/Comparable" (some 0) with
  accessFlags := 1537
  interfaces := #[]
  cf := some (fileOf pool3 1 #[] #[] 1537 3 #[] #[])
  fields := #[]
  methods := #[]
  instanceTypes := #[]
  staticTypes := #[]
  resolved := Array.replicate 12 none
  statics := none }

def pool4 : Array CpInfo := pool [(2, .class_ 4), (1, u "java/lang/CharSequence"), (42, .class_ 48), (0, u "java/lang/CharSequence$1CodePointIterator"), (10, .class_ 60), (0, u "java/lang/CharSequence$1CharIterator"), (5, .class_ 67), (0, u "java/lang/Object")] 63

/-- java/lang/CharSequence -/
def k4 : Class := { plain "java/lang/CharSequence" (some 0) with
  accessFlags := 1537
  interfaces := #[]
  cf := some (fileOf pool4 2 #[.nestMembers #[47, 59]] #[] 1537 66 #[] #[])
  fields := #[]
  methods := #[]
  instanceTypes := #[]
  staticTypes := #[]
  resolved := Array.replicate 131 none
  statics := none }

def pool5 : Array CpInfo := pool [(1, .class_ 2), (0, u "java/lang/constant/Constable"), (0, .class_ 4), (0, u "java/lang/Object")] 6

/-- java/lang/constant/Constable -/
def k5 : Class := { plain "java/lang/constant/Constable" (some 0) with
  accessFlags := 1537
  interfaces := #[]
  cf := some (fileOf pool5 1 #[] #[] 1537 3 #[] #[])
  fields := #[]
  methods := #[]
  instanceTypes := #[]
  staticTypes := #[]
  resolved := Array.replicate 11 none
  statics := none }

def pool6 : Array CpInfo := pool [(1, .class_ 2), (0, u "java/lang/constant/ConstantDesc"), (0, .class_ 4), (0, u "java/lang/Object")] 32

/-- java/lang/constant/ConstantDesc -/
def k6 : Class := { plain "java/lang/constant/ConstantDesc" (some 0) with
  accessFlags := 1537
  interfaces := #[]
  cf := some (fileOf pool6 1 #[] #[] 1537 3 #[] #[])
  fields := #[]
  methods := #[]
  instanceTypes := #[]
  staticTypes := #[]
  resolved := Array.replicate 37 none
  statics := none }

def pool7 : Array CpInfo := pool [(1, .methodref 2 3), (0, .class_ 4), (0, .nameAndType 5 6), (0, u "java/lang/Object"), (0, u "<init>"), (0, u "()V"), (2, .fieldref 10 11), (0, .class_ 12), (0, .nameAndType 13 14), (0, u "java/lang/String"), (0, u "value"), (0, u "[B"), (0, .fieldref 10 16), (0, .nameAndType 17 18), (0, u "coder"), (0, u "B"), (2, u "hash"), (0, u "I"), (2, u "hashIsZero"), (0, u "Z"), (11, .fieldref 10 39), (0, .nameAndType 40 26), (0, u "COMPACT_STRINGS"), (12, u "toBytes"), (53, .class_ 109), (1, u "java/lang/StringLatin1"), (99, .methodref 10 210), (0, .nameAndType 5 211), (0, u "([BB)V"), (157, u "(C)Z"), (205, .class_ 576), (0, u "java/lang/CharSequence"), (22, u "CASE_INSENSITIVE_ORDER"), (0, u "Ljava/util/Comparator;"), (181, u "valueOf"), (0, u "(C)Ljava/lang/String;"), (231, .methodref 107 1016), (0, .nameAndType 1017 369), (0, u "canEncode"), (0, .methodref 107 1019), (0, .nameAndType 53 1020), (0, u "(C)[B"), (80, u "serialPersistentFields"), (0, u "[Ljava/io/ObjectStreamField;"), (0, .class_ 1104), (0, u "java/lang/String$CaseInsensitiveComparator"), (1, .class_ 1107), (0, u "java/io/Serializable"), (0, .class_ 1109), (0, u "java/lang/Comparable"), (0, .class_ 1111), (0, u "java/lang/constant/Constable"), (0, .class_ 1113), (0, u "java/lang/constant/ConstantDesc"), (2, u "serialVersionUID"), (0, u "J"), (3, u "REPL"), (0, u "C"), (2, u "LATIN1"), (1, u "UTF16")] 323

def k7m0 : Method := { name := "<init>", desc := "()V", sig := { parameters := [], returnType := none }, accessFlags := 1, code := none }
def k7c1 : Code := { maxStack := 4, maxLocals := 1, code := jdk_42_method_139_code, exceptionTable := #[], attributes := #[] }
def k7m1 : Method := { name := "valueOf", desc := "(C)Ljava/lang/String;", sig := { parameters := [.char], returnType := some (.object "java/lang/String") }, accessFlags := 9, code := some k7c1 }
def k7c2 : Code := { maxStack := 2, maxLocals := 3, code := jdk_42_method_151_code, exceptionTable := #[], attributes := #[] }
def k7m2 : Method := { name := "<init>", desc := "([BB)V", sig := { parameters := [(.array .byte), .byte], returnType := none }, accessFlags := 0, code := some k7c2 }
/-- java/lang/String -/
def k7 : Class := { plain "java/lang/String" (some 0) with
  accessFlags := 49
  interfaces := #[2, 3, 4, 5, 6]
  cf := some (fileOf pool7 10 #[.nestMembers #[1103]] #[{ accessFlags := 1, nameIndex := 5, descriptorIndex := 6, attributes := #[] }, { accessFlags := 9, nameIndex := 782, descriptorIndex := 783, attributes := #[] }, { accessFlags := 0, nameIndex := 5, descriptorIndex := 211, attributes := #[] }] 49 2 #[1106, 1108, 575, 1110, 1112] #[{ accessFlags := 18, nameIndex := 13, descriptorIndex := 14, attributes := #[] }, { accessFlags := 18, nameIndex := 17, descriptorIndex := 18, attributes := #[] }, { accessFlags := 2, nameIndex := 21, descriptorIndex := 22, attributes := #[] }, { accessFlags := 2, nameIndex := 25, descriptorIndex := 26, attributes := #[] }, { accessFlags := 26, nameIndex := 1116, descriptorIndex := 1117, attributes := #[] }, { accessFlags := 24, nameIndex := 40, descriptorIndex := 26, attributes := #[] }, { accessFlags := 26, nameIndex := 1101, descriptorIndex := 1102, attributes := #[] }, { accessFlags := 26, nameIndex := 1121, descriptorIndex := 1122, attributes := #[] }, { accessFlags := 25, nameIndex := 599, descriptorIndex := 600, attributes := #[] }, { accessFlags := 24, nameIndex := 1125, descriptorIndex := 18, attributes := #[] }, { accessFlags := 24, nameIndex := 1127, descriptorIndex := 18, attributes := #[] }])
  fields := #[{ name := "value", type := (.array .byte), accessFlags := 18, slot := 0, constantValue := 0 }, { name := "coder", type := .byte, accessFlags := 18, slot := 1, constantValue := 0 }, { name := "hash", type := .int, accessFlags := 2, slot := 2, constantValue := 0 }, { name := "hashIsZero", type := .boolean, accessFlags := 2, slot := 3, constantValue := 0 }, { name := "serialVersionUID", type := .long, accessFlags := 26, slot := 0, constantValue := 0 }, { name := "COMPACT_STRINGS", type := .boolean, accessFlags := 24, slot := 1, constantValue := 0 }, { name := "serialPersistentFields", type := (.array (.object "java/io/ObjectStreamField")), accessFlags := 26, slot := 2, constantValue := 0 }, { name := "REPL", type := .char, accessFlags := 26, slot := 3, constantValue := 0 }, { name := "CASE_INSENSITIVE_ORDER", type := (.object "java/util/Comparator"), accessFlags := 25, slot := 4, constantValue := 0 }, { name := "LATIN1", type := .byte, accessFlags := 24, slot := 5, constantValue := 0 }, { name := "UTF16", type := .byte, accessFlags := 24, slot := 6, constantValue := 0 }]
  methods := #[k7m0, k7m1, k7m2]
  instanceTypes := #[(.array .byte), .byte, .int, .boolean]
  staticTypes := #[.long, .boolean, (.array (.object "java/io/ObjectStreamField")), .char, (.object "java/util/Comparator"), .byte, .byte]
  resolved := Array.replicate 1451 none
  statics := some 0 }

def pool8 : Array CpInfo := pool [(4, .class_ 6), (1, u "java/lang/Object"), (0, u "<init>"), (0, u "()V"), (5, .class_ 16), (1, u "java/lang/StringLatin1"), (73, u "canEncode"), (14, u "(C)Z"), (15, u "$assertionsDisabled"), (0, u "Z"), (98, .class_ 223), (1, u "java/lang/StringLatin1$LinesSpliterator"), (156, u "toBytes"), (1, u "(C)[B"), (7, .class_ 391), (0, u "java/lang/StringLatin1$CharsSpliterator")] 3

def k8m0 : Method := { name := "<init>", desc := "()V", sig := { parameters := [], returnType := none }, accessFlags := 0, code := none }
def k8c1 : Code := { maxStack := 2, maxLocals := 1, code := jdk_43_method_3_code, exceptionTable := #[], attributes := #[] }
def k8m1 : Method := { name := "canEncode", desc := "(C)Z", sig := { parameters := [.char], returnType := some .boolean }, accessFlags := 9, code := some k8c1 }
def k8c2 : Code := { maxStack := 4, maxLocals := 1, code := jdk_43_method_46_code, exceptionTable := #[], attributes := #[] }
def k8m2 : Method := { name := "toBytes", desc := "(C)[B", sig := { parameters := [.char], returnType := some (.array .byte) }, accessFlags := 9, code := some k8c2 }
/-- java/lang/StringLatin1 -/
def k8 : Class := { plain "java/lang/StringLatin1" (some 0) with
  accessFlags := 48
  interfaces := #[]
  cf := some (fileOf pool8 14 #[.nestMembers #[390, 221]] #[{ accessFlags := 0, nameIndex := 7, descriptorIndex := 8, attributes := #[] }, { accessFlags := 9, nameIndex := 90, descriptorIndex := 105, attributes := #[] }, { accessFlags := 9, nameIndex := 380, descriptorIndex := 382, attributes := #[] }] 48 4 #[] #[{ accessFlags := 4120, nameIndex := 121, descriptorIndex := 122, attributes := #[] }])
  fields := #[{ name := "$assertionsDisabled", type := .boolean, accessFlags := 4120, slot := 0, constantValue := 0 }]
  methods := #[k8m0, k8m1, k8m2]
  instanceTypes := #[]
  staticTypes := #[.boolean]
  resolved := Array.replicate 395 none
  statics := none }

def pool9 : Array CpInfo := pool [(8, .class_ 10), (1, u "java/lang/Iterable"), (24, .class_ 36), (0, u "java/lang/Object")] 25

/-- java/lang/Iterable -/
def k9 : Class := { plain "java/lang/Iterable" (some 0) with
  accessFlags := 1537
  interfaces := #[]
  cf := some (fileOf pool9 8 #[] #[] 1537 35 #[] #[])
  fields := #[]
  methods := #[]
  instanceTypes := #[]
  staticTypes := #[]
  resolved := Array.replicate 62 none
  statics := none }

def pool10 : Array CpInfo := pool [(10, .class_ 12), (1, u "java/util/Collection"), (0, u "toArray"), (16, u "()Z"), (29, .class_ 61), (0, u "java/lang/Object"), (0, .class_ 63), (0, u "java/lang/Iterable"), (2, u "isEmpty"), (3, u "()[Ljava/lang/Object;")] 44

def k10m0 : Method := { name := "isEmpty", desc := "()Z", sig := { parameters := [], returnType := some .boolean }, accessFlags := 1025, code := none }
def k10m1 : Method := { name := "toArray", desc := "()[Ljava/lang/Object;", sig := { parameters := [], returnType := some (.array (.object "java/lang/Object")) }, accessFlags := 1025, code := none }
/-- java/util/Collection -/
def k10 : Class := { plain "java/util/Collection" (some 0) with
  accessFlags := 1537
  interfaces := #[9]
  cf := some (fileOf pool10 10 #[] #[{ accessFlags := 1025, nameIndex := 66, descriptorIndex := 30, attributes := #[] }, { accessFlags := 1025, nameIndex := 13, descriptorIndex := 70, attributes := #[] }] 1537 60 #[62] #[])
  fields := #[]
  methods := #[k10m0, k10m1]
  instanceTypes := #[]
  staticTypes := #[]
  resolved := Array.replicate 115 none
  statics := none }

def pool11 : Array CpInfo := pool [(1, .methodref 2 3), (0, .class_ 4), (0, .nameAndType 5 6), (0, u "java/lang/Object"), (0, u "<init>"), (0, u "()V"), (1, .class_ 10), (1, u "java/util/AbstractCollection"), (66, .class_ 78), (0, u "java/util/Collection")] 81

def k11c0 : Code := { maxStack := 1, maxLocals := 1, code := jdk_22_method_1_code, exceptionTable := #[], attributes := #[] }
def k11m0 : Method := { name := "<init>", desc := "()V", sig := { parameters := [], returnType := none }, accessFlags := 4, code := some k11c0 }
/-- java/util/AbstractCollection -/
def k11 : Class := { plain "java/util/AbstractCollection" (some 0) with
  accessFlags := 1057
  interfaces := #[10]
  cf := some (fileOf pool11 8 #[] #[{ accessFlags := 4, nameIndex := 5, descriptorIndex := 6, attributes := #[] }] 1057 2 #[77] #[])
  fields := #[]
  methods := #[k11m0]
  instanceTypes := #[]
  staticTypes := #[]
  resolved := Array.replicate 160 none
  statics := none }

def pool12 : Array CpInfo := pool [(8, .class_ 10), (1, u "java/util/SequencedCollection"), (15, .class_ 27), (0, u "java/lang/Object"), (0, .class_ 29), (0, u "java/util/Collection")] 27

/-- java/util/SequencedCollection -/
def k12 : Class := { plain "java/util/SequencedCollection" (some 0) with
  accessFlags := 1537
  interfaces := #[10]
  cf := some (fileOf pool12 8 #[] #[] 1537 26 #[28] #[])
  fields := #[]
  methods := #[]
  instanceTypes := #[]
  staticTypes := #[]
  resolved := Array.replicate 57 none
  statics := none }

def pool13 : Array CpInfo := pool [(8, .class_ 10), (1, u "java/util/List"), (7, u "()Z"), (12, u "(Ljava/lang/Object;)V"), (16, u "<init>"), (11, u "add"), (3, u "(Ljava/lang/Object;)Z"), (2, u "isEmpty"), (20, u "of"), (1, .fieldref 91 92), (0, .class_ 93), (0, .nameAndType 94 95), (0, u "java/util/ImmutableCollections"), (0, u "EMPTY_LIST"), (0, u "Ljava/util/ImmutableCollections$ListN;"), (0, .class_ 97), (0, u "java/util/ImmutableCollections$List12"), (0, .methodref 96 99), (0, .nameAndType 48 31), (0, .methodref 96 101), (0, .nameAndType 48 102), (0, u "(Ljava/lang/Object;Ljava/lang/Object;)V"), (0, .class_ 104), (0, u "java/lang/Object"), (3, u "([Ljava/lang/Object;)Ljava/util/List;"), (0, .methodref 91 110), (0, .nameAndType 111 108), (0, u "listFromArray"), (0, .methodref 91 113), (0, .nameAndType 114 115), (0, u "listCopy"), (0, u "(Ljava/util/Collection;)Ljava/util/List;"), (3, u "()Ljava/util/List;"), (0, .class_ 121), (0, u "java/util/SequencedCollection"), (112, u "copyOf")] 16

def k13m0 : Method := { name := "isEmpty", desc := "()Z", sig := { parameters := [], returnType := some .boolean }, accessFlags := 1025, code := none }
def k13m1 : Method := { name := "add", desc := "(Ljava/lang/Object;)Z", sig := { parameters := [(.object "java/lang/Object")], returnType := some .boolean }, accessFlags := 1025, code := none }
def k13c2 : Code := { maxStack := 1, maxLocals := 0, code := jdk_40_method_36_code, exceptionTable := #[], attributes := #[] }
def k13m2 : Method := { name := "of", desc := "()Ljava/util/List;", sig := { parameters := [], returnType := some (.object "java/util/List") }, accessFlags := 9, code := some k13c2 }
def k13c3 : Code := { maxStack := 5, maxLocals := 2, code := jdk_40_method_47_code, exceptionTable := #[], attributes := #[] }
def k13m3 : Method := { name := "of", desc := "([Ljava/lang/Object;)Ljava/util/List;", sig := { parameters := [(.array (.object "java/lang/Object"))], returnType := some (.object "java/util/List") }, accessFlags := 137, code := some k13c3 }
def k13c4 : Code := { maxStack := 1, maxLocals := 1, code := jdk_40_method_48_code, exceptionTable := #[], attributes := #[] }
def k13m4 : Method := { name := "copyOf", desc := "(Ljava/util/Collection;)Ljava/util/List;", sig := { parameters := [(.object "java/util/Collection")], returnType := some (.object "java/util/List") }, accessFlags := 9, code := some k13c4 }
/-- java/util/List -/
def k13 : Class := { plain "java/util/List" (some 0) with
  accessFlags := 1537
  interfaces := #[12]
  cf := some (fileOf pool13 8 #[] #[{ accessFlags := 1025, nameIndex := 67, descriptorIndex := 18, attributes := #[] }, { accessFlags := 1025, nameIndex := 60, descriptorIndex := 64, attributes := #[] }, { accessFlags := 9, nameIndex := 88, descriptorIndex := 119, attributes := #[] }, { accessFlags := 137, nameIndex := 88, descriptorIndex := 108, attributes := #[] }, { accessFlags := 9, nameIndex := 234, descriptorIndex := 115, attributes := #[] }] 1537 103 #[120] #[])
  fields := #[]
  methods := #[k13m0, k13m1, k13m2, k13m3, k13m4]
  instanceTypes := #[]
  staticTypes := #[]
  resolved := Array.replicate 251 none
  statics := none }

def pool14 : Array CpInfo := pool [(1, .methodref 2 3), (0, .class_ 4), (0, .nameAndType 5 6), (0, u "java/util/AbstractCollection"), (0, u "<init>"), (0, u "()V"), (0, .fieldref 8 9), (0, .class_ 10), (0, .nameAndType 11 12), (0, u "java/util/AbstractList"), (0, u "modCount"), (0, u "I"), (64, .class_ 78), (0, u "java/util/AbstractList$Itr"), (3, .class_ 83), (0, u "java/util/AbstractList$ListItr"), (9, .class_ 94), (0, u "java/util/AbstractList$RandomAccessSubList"), (3, .class_ 99), (0, u "java/util/AbstractList$SubList"), (33, .class_ 134), (0, u "java/util/List"), (73, .class_ 209), (0, u "java/util/AbstractList$SubList$1"), (0, .class_ 211), (0, u "java/util/AbstractList$RandomAccessSpliterator")] 6

def k14c0 : Code := { maxStack := 2, maxLocals := 1, code := jdk_39_method_1_code, exceptionTable := #[], attributes := #[] }
def k14m0 : Method := { name := "<init>", desc := "()V", sig := { parameters := [], returnType := none }, accessFlags := 4, code := some k14c0 }
/-- java/util/AbstractList -/
def k14 : Class := { plain "java/util/AbstractList" (some 11) with
  accessFlags := 1057
  interfaces := #[13]
  cf := some (fileOf pool14 8 #[.nestMembers #[93, 98, 208, 210, 82, 77]] #[{ accessFlags := 4, nameIndex := 5, descriptorIndex := 6, attributes := #[] }] 1057 2 #[133] #[{ accessFlags := 132, nameIndex := 11, descriptorIndex := 12, attributes := #[] }])
  fields := #[{ name := "modCount", type := .int, accessFlags := 132, slot := 0, constantValue := 0 }]
  methods := #[k14m0]
  instanceTypes := #[.int]
  staticTypes := #[]
  resolved := Array.replicate 218 none
  statics := none }

def pool15 : Array CpInfo := pool [(1, .class_ 2), (0, u "java/util/RandomAccess"), (0, .class_ 4), (0, u "java/lang/Object")] 2

/-- java/util/RandomAccess -/
def k15 : Class := { plain "java/util/RandomAccess" (some 0) with
  accessFlags := 1537
  interfaces := #[]
  cf := some (fileOf pool15 1 #[] #[] 1537 3 #[] #[])
  fields := #[]
  methods := #[]
  instanceTypes := #[]
  staticTypes := #[]
  resolved := Array.replicate 7 none
  statics := none }

def pool16 : Array CpInfo := pool [(1, .class_ 2), (0, u "java/lang/Cloneable"), (0, .class_ 4), (0, u "java/lang/Object")] 2

/-- java/lang/Cloneable -/
def k16 : Class := { plain "java/lang/Cloneable" (some 0) with
  accessFlags := 1537
  interfaces := #[]
  cf := some (fileOf pool16 1 #[] #[] 1537 3 #[] #[])
  fields := #[]
  methods := #[]
  instanceTypes := #[]
  staticTypes := #[]
  resolved := Array.replicate 7 none
  statics := none }

def pool17 : Array CpInfo := pool [(1, .methodref 2 3), (0, .class_ 4), (0, .nameAndType 5 6), (0, u "java/util/AbstractList"), (0, u "<init>"), (0, u "()V"), (0, .class_ 8), (0, u "java/lang/Object"), (0, .fieldref 10 11), (0, .class_ 12), (0, .nameAndType 13 14), (0, u "java/util/ArrayList"), (0, u "elementData"), (0, u "[Ljava/lang/Object;"), (2, u "EMPTY_ELEMENTDATA"), (21, .fieldref 10 40), (0, .nameAndType 41 14), (0, u "DEFAULTCAPACITY_EMPTY_ELEMENTDATA"), (4, u "toArray"), (0, u "()[Ljava/lang/Object;"), (0, .fieldref 10 49), (0, .nameAndType 50 51), (0, u "size"), (0, u "I"), (6, .class_ 60), (1, u "java/util/Arrays"), (0, u "copyOf"), (1, .fieldref 10 64), (0, .nameAndType 65 51), (0, u "modCount"), (0, .methodref 58 67), (0, .nameAndType 61 68), (0, u "([Ljava/lang/Object;I)[Ljava/lang/Object;"), (0, .methodref 10 70), (0, .nameAndType 71 72), (0, u "grow"), (0, u "(I)[Ljava/lang/Object;"), (6, .methodref 80 81), (0, .class_ 82), (0, .nameAndType 83 84), (0, u "java/lang/Math"), (0, u "max"), (0, u "(II)I"), (11, u "(Ljava/lang/Object;)Z"), (32, .methodref 10 130), (0, .nameAndType 71 47), (0, .methodref 10 132), (0, .nameAndType 133 134), (0, u "add"), (0, u "(Ljava/lang/Object;[Ljava/lang/Object;I)V"), (13, .class_ 149), (0, u "java/util/List"), (23, u "()Z"), (88, .class_ 263), (0, u "java/util/ArrayList$ListItr"), (3, .class_ 268), (0, u "java/util/ArrayList$Itr"), (7, .class_ 277), (0, u "java/util/ArrayList$SubList"), (12, .class_ 291), (0, u "java/util/ArrayList$ArrayListSpliterator"), (37, .class_ 330), (0, u "java/util/RandomAccess"), (0, .class_ 332), (0, u "java/lang/Cloneable"), (0, .class_ 334), (0, u "java/io/Serializable"), (0, u "serialVersionUID"), (0, u "J"), (3, u "DEFAULT_CAPACITY"), (22, u "isEmpty"), (136, .class_ 501), (0, u "java/util/ArrayList$SubList$2"), (0, .class_ 503), (0, u "java/util/ArrayList$SubList$1")] 5

def k17c0 : Code := { maxStack := 2, maxLocals := 1, code := jdk_38_method_2_code, exceptionTable := #[], attributes := #[] }
def k17m0 : Method := { name := "<init>", desc := "()V", sig := { parameters := [], returnType := none }, accessFlags := 1, code := some k17c0 }
def k17c1 : Code := { maxStack := 4, maxLocals := 4, code := jdk_38_method_6_code, exceptionTable := #[], attributes := #[] }
def k17m1 : Method := { name := "grow", desc := "(I)[Ljava/lang/Object;", sig := { parameters := [.int], returnType := some (.array (.object "java/lang/Object")) }, accessFlags := 2, code := some k17c1 }
def k17c2 : Code := { maxStack := 3, maxLocals := 1, code := jdk_38_method_7_code, exceptionTable := #[], attributes := #[] }
def k17m2 : Method := { name := "grow", desc := "()[Ljava/lang/Object;", sig := { parameters := [], returnType := some (.array (.object "java/lang/Object")) }, accessFlags := 2, code := some k17c2 }
def k17c3 : Code := { maxStack := 1, maxLocals := 1, code := jdk_38_method_9_code, exceptionTable := #[], attributes := #[] }
def k17m3 : Method := { name := "isEmpty", desc := "()Z", sig := { parameters := [], returnType := some .boolean }, accessFlags := 1, code := some k17c3 }
def k17c4 : Code := { maxStack := 2, maxLocals := 1, code := jdk_38_method_16_code, exceptionTable := #[], attributes := #[] }
def k17m4 : Method := { name := "toArray", desc := "()[Ljava/lang/Object;", sig := { parameters := [], returnType := some (.array (.object "java/lang/Object")) }, accessFlags := 1, code := some k17c4 }
def k17c5 : Code := { maxStack := 3, maxLocals := 4, code := jdk_38_method_24_code, exceptionTable := #[], attributes := #[] }
def k17m5 : Method := { name := "add", desc := "(Ljava/lang/Object;[Ljava/lang/Object;I)V", sig := { parameters := [(.object "java/lang/Object"), (.array (.object "java/lang/Object")), .int], returnType := none }, accessFlags := 2, code := some k17c5 }
def k17c6 : Code := { maxStack := 4, maxLocals := 2, code := jdk_38_method_25_code, exceptionTable := #[], attributes := #[] }
def k17m6 : Method := { name := "add", desc := "(Ljava/lang/Object;)Z", sig := { parameters := [(.object "java/lang/Object")], returnType := some .boolean }, accessFlags := 1, code := some k17c6 }
/-- java/util/ArrayList -/
def k17 : Class := { plain "java/util/ArrayList" (some 14) with
  accessFlags := 33
  interfaces := #[13, 15, 16, 2]
  cf := some (fileOf pool17 10 #[.nestMembers #[290, 276, 500, 502, 262, 267]] #[{ accessFlags := 1, nameIndex := 5, descriptorIndex := 6, attributes := #[] }, { accessFlags := 2, nameIndex := 71, descriptorIndex := 72, attributes := #[] }, { accessFlags := 2, nameIndex := 71, descriptorIndex := 47, attributes := #[] }, { accessFlags := 1, nameIndex := 363, descriptorIndex := 173, attributes := #[] }, { accessFlags := 1, nameIndex := 46, descriptorIndex := 47, attributes := #[] }, { accessFlags := 2, nameIndex := 133, descriptorIndex := 134, attributes := #[] }, { accessFlags := 1, nameIndex := 133, descriptorIndex := 96, attributes := #[] }] 33 2 #[148, 329, 331, 333] #[{ accessFlags := 26, nameIndex := 335, descriptorIndex := 336, attributes := #[] }, { accessFlags := 26, nameIndex := 340, descriptorIndex := 51, attributes := #[] }, { accessFlags := 26, nameIndex := 17, descriptorIndex := 14, attributes := #[] }, { accessFlags := 26, nameIndex := 41, descriptorIndex := 14, attributes := #[] }, { accessFlags := 128, nameIndex := 13, descriptorIndex := 14, attributes := #[] }, { accessFlags := 2, nameIndex := 50, descriptorIndex := 51, attributes := #[] }])
  fields := #[{ name := "serialVersionUID", type := .long, accessFlags := 26, slot := 0, constantValue := 0 }, { name := "DEFAULT_CAPACITY", type := .int, accessFlags := 26, slot := 1, constantValue := 0 }, { name := "EMPTY_ELEMENTDATA", type := (.array (.object "java/lang/Object")), accessFlags := 26, slot := 2, constantValue := 0 }, { name := "DEFAULTCAPACITY_EMPTY_ELEMENTDATA", type := (.array (.object "java/lang/Object")), accessFlags := 26, slot := 3, constantValue := 0 }, { name := "elementData", type := (.array (.object "java/lang/Object")), accessFlags := 128, slot := 1, constantValue := 0 }, { name := "size", type := .int, accessFlags := 2, slot := 2, constantValue := 0 }]
  methods := #[k17m0, k17m1, k17m2, k17m3, k17m4, k17m5, k17m6]
  instanceTypes := #[.int, (.array (.object "java/lang/Object")), .int]
  staticTypes := #[.long, .int, (.array (.object "java/lang/Object")), (.array (.object "java/lang/Object"))]
  resolved := Array.replicate 509 none
  statics := some 1 }

def pool18 : Array CpInfo := pool [(1, .class_ 2), (0, u "java/lang/Math"), (1, .class_ 6), (1, u "java/lang/Object"), (0, u "<init>"), (0, u "()V"), (89, .class_ 100), (1, u "java/lang/Math$RandomNumberGeneratorHolder"), (71, u "negativeZeroFloatBits"), (0, u "J"), (2, u "negativeZeroDoubleBits"), (21, u "max"), (2, u "min"), (43, u "$assertionsDisabled"), (0, u "Z"), (88, u "(II)I"), (2, u "twoToTheDoubleScaleDown"), (0, u "D"), (4, u "twoToTheDoubleScaleUp"), (9, u "E"), (3, u "PI"), (2, u "TAU"), (2, u "DEGREES_TO_RADIANS"), (0, u "RADIANS_TO_DEGREES")] 94

def k18m0 : Method := { name := "<init>", desc := "()V", sig := { parameters := [], returnType := none }, accessFlags := 2, code := none }
def k18c1 : Code := { maxStack := 2, maxLocals := 2, code := jdk_29_method_65_code, exceptionTable := #[], attributes := #[] }
def k18m1 : Method := { name := "max", desc := "(II)I", sig := { parameters := [.int, .int], returnType := some .int }, accessFlags := 9, code := some k18c1 }
def k18c2 : Code := { maxStack := 2, maxLocals := 2, code := jdk_29_method_69_code, exceptionTable := #[], attributes := #[] }
def k18m2 : Method := { name := "min", desc := "(II)I", sig := { parameters := [.int, .int], returnType := some .int }, accessFlags := 9, code := some k18c2 }
/-- java/lang/Math -/
def k18 : Class := { plain "java/lang/Math" (some 0) with
  accessFlags := 49
  interfaces := #[]
  cf := some (fileOf pool18 1 #[.nestMembers #[98]] #[{ accessFlags := 2, nameIndex := 7, descriptorIndex := 8, attributes := #[] }, { accessFlags := 9, nameIndex := 198, descriptorIndex := 335, attributes := #[] }, { accessFlags := 9, nameIndex := 201, descriptorIndex := 335, attributes := #[] }] 49 4 #[] #[{ accessFlags := 25, nameIndex := 354, descriptorIndex := 339, attributes := #[] }, { accessFlags := 25, nameIndex := 358, descriptorIndex := 339, attributes := #[] }, { accessFlags := 25, nameIndex := 361, descriptorIndex := 339, attributes := #[] }, { accessFlags := 26, nameIndex := 364, descriptorIndex := 339, attributes := #[] }, { accessFlags := 26, nameIndex := 365, descriptorIndex := 339, attributes := #[] }, { accessFlags := 26, nameIndex := 172, descriptorIndex := 173, attributes := #[] }, { accessFlags := 26, nameIndex := 176, descriptorIndex := 173, attributes := #[] }, { accessFlags := 8, nameIndex := 344, descriptorIndex := 339, attributes := #[] }, { accessFlags := 8, nameIndex := 338, descriptorIndex := 339, attributes := #[] }, { accessFlags := 4120, nameIndex := 245, descriptorIndex := 246, attributes := #[] }])
  fields := #[{ name := "E", type := .double, accessFlags := 25, slot := 0, constantValue := 0 }, { name := "PI", type := .double, accessFlags := 25, slot := 1, constantValue := 0 }, { name := "TAU", type := .double, accessFlags := 25, slot := 2, constantValue := 0 }, { name := "DEGREES_TO_RADIANS", type := .double, accessFlags := 26, slot := 3, constantValue := 0 }, { name := "RADIANS_TO_DEGREES", type := .double, accessFlags := 26, slot := 4, constantValue := 0 }, { name := "negativeZeroFloatBits", type := .long, accessFlags := 26, slot := 5, constantValue := 0 }, { name := "negativeZeroDoubleBits", type := .long, accessFlags := 26, slot := 6, constantValue := 0 }, { name := "twoToTheDoubleScaleUp", type := .double, accessFlags := 8, slot := 7, constantValue := 0 }, { name := "twoToTheDoubleScaleDown", type := .double, accessFlags := 8, slot := 8, constantValue := 0 }, { name := "$assertionsDisabled", type := .boolean, accessFlags := 4120, slot := 9, constantValue := 0 }]
  methods := #[k18m0, k18m1, k18m2]
  instanceTypes := #[]
  staticTypes := #[.double, .double, .double, .double, .double, .long, .long, .double, .double, .boolean]
  resolved := Array.replicate 460 none
  statics := none }

def pool19 : Array CpInfo := pool [(2, .class_ 4), (1, u "java/util/Map"), (13, u "entrySet"), (0, u "()Ljava/util/Set;"), (16, .class_ 37), (0, u "java/util/Map$Entry"), (55, .class_ 94), (0, u "java/lang/Object")] 168

def k19m0 : Method := { name := "entrySet", desc := "()Ljava/util/Set;", sig := { parameters := [], returnType := some (.object "java/util/Set") }, accessFlags := 1025, code := none }
/-- java/util/Map -/
def k19 : Class := { plain "java/util/Map" (some 0) with
  accessFlags := 1537
  interfaces := #[]
  cf := some (fileOf pool19 2 #[.nestMembers #[36]] #[{ accessFlags := 1025, nameIndex := 18, descriptorIndex := 19, attributes := #[] }] 1537 93 #[] #[])
  fields := #[]
  methods := #[k19m0]
  instanceTypes := #[]
  staticTypes := #[]
  resolved := Array.replicate 263 none
  statics := none }

def pool20 : Array CpInfo := pool [(1, .methodref 2 3), (0, .class_ 4), (0, .nameAndType 5 6), (0, u "java/lang/Object"), (0, u "<init>"), (0, u "()V"), (1, .class_ 10), (1, u "java/util/AbstractMap"), (42, .class_ 54), (0, u "java/util/Map"), (9, u "keySet"), (0, u "Ljava/util/Set;"), (0, .class_ 67), (0, u "java/util/AbstractMap$1"), (5, u "values"), (0, u "Ljava/util/Collection;"), (0, .class_ 76), (0, u "java/util/AbstractMap$2"), (104, .class_ 182), (0, u "java/util/AbstractMap$ViewCollection"), (0, .class_ 184), (0, u "java/util/AbstractMap$SimpleImmutableEntry"), (0, .class_ 186), (0, u "java/util/AbstractMap$SimpleEntry"), (0, .class_ 188), (0, u "java/util/AbstractMap$2$1"), (0, .class_ 190), (0, u "java/util/AbstractMap$1$1")] 5

def k20c0 : Code := { maxStack := 1, maxLocals := 1, code := jdk_71_method_1_code, exceptionTable := #[], attributes := #[] }
def k20m0 : Method := { name := "<init>", desc := "()V", sig := { parameters := [], returnType := none }, accessFlags := 4, code := some k20c0 }
/-- java/util/AbstractMap -/
def k20 : Class := { plain "java/util/AbstractMap" (some 0) with
  accessFlags := 1057
  interfaces := #[19]
  cf := some (fileOf pool20 8 #[.nestMembers #[181, 183, 185, 75, 187, 66, 189]] #[{ accessFlags := 4, nameIndex := 5, descriptorIndex := 6, attributes := #[] }] 1057 2 #[53] #[{ accessFlags := 128, nameIndex := 64, descriptorIndex := 65, attributes := #[] }, { accessFlags := 128, nameIndex := 73, descriptorIndex := 74, attributes := #[] }])
  fields := #[{ name := "keySet", type := (.object "java/util/Set"), accessFlags := 128, slot := 0, constantValue := 0 }, { name := "values", type := (.object "java/util/Collection"), accessFlags := 128, slot := 1, constantValue := 0 }]
  methods := #[k20m0]
  instanceTypes := #[(.object "java/util/Set"), (.object "java/util/Collection")]
  staticTypes := #[]
  resolved := Array.replicate 196 none
  statics := none }

def pool21 : Array CpInfo := pool [(40, .class_ 41), (0, u "java/util/HashMap"), (1, .methodref 44 45), (0, .class_ 46), (0, .nameAndType 47 48), (0, u "java/util/AbstractMap"), (0, u "<init>"), (0, u "()V"), (32, .fieldref 40 82), (0, .nameAndType 83 84), (0, u "loadFactor"), (0, u "F"), (5, u "threshold"), (0, u "I"), (0, .float 1061158912), (8, .class_ 103), (1, u "java/util/Map"), (0, u "size"), (2, u "table"), (0, u "[Ljava/util/HashMap$Node;"), (14, u "entrySet"), (0, u "()Ljava/util/Set;"), (38, .class_ 165), (1, u "java/util/HashMap$Node"), (14, .class_ 181), (0, u "java/util/HashMap$TreeNode"), (22, u "modCount"), (37, u "Ljava/util/Set;"), (0, .class_ 244), (0, u "java/util/HashMap$KeySet"), (1, .nameAndType 47 247), (0, u "(Ljava/util/HashMap;)V"), (15, .class_ 264), (0, u "java/util/HashMap$Values"), (1, .fieldref 40 267), (0, .nameAndType 123 242), (0, .class_ 269), (0, u "java/util/HashMap$EntrySet"), (0, .methodref 268 246), (75, .class_ 348), (1, u "java/util/HashMap$UnsafeHolder"), (43, .class_ 393), (0, u "java/lang/Cloneable"), (0, .class_ 395), (0, u "java/io/Serializable"), (0, u "serialVersionUID"), (0, u "J"), (3, u "DEFAULT_INITIAL_CAPACITY"), (1, u "MAXIMUM_CAPACITY"), (0, u "DEFAULT_LOAD_FACTOR"), (0, u "TREEIFY_THRESHOLD"), (1, u "UNTREEIFY_THRESHOLD"), (1, u "MIN_TREEIFY_CAPACITY"), (186, .class_ 597), (0, u "java/util/HashMap$EntrySpliterator"), (0, .class_ 599), (0, u "java/util/HashMap$ValueSpliterator"), (0, .class_ 601), (0, u "java/util/HashMap$KeySpliterator"), (0, .class_ 603), (0, u "java/util/HashMap$HashMapSpliterator"), (0, .class_ 605), (0, u "java/util/HashMap$EntryIterator"), (0, .class_ 607), (0, u "java/util/HashMap$ValueIterator"), (0, .class_ 609), (0, u "java/util/HashMap$KeyIterator"), (0, .class_ 611), (0, u "java/util/HashMap$HashIterator")] 17

def k21c0 : Code := { maxStack := 2, maxLocals := 1, code := jdk_69_method_7_code, exceptionTable := #[], attributes := #[] }
def k21m0 : Method := { name := "<init>", desc := "()V", sig := { parameters := [], returnType := none }, accessFlags := 1, code := some k21c0 }
def k21c1 : Code := { maxStack := 4, maxLocals := 2, code := jdk_69_method_29_code, exceptionTable := #[], attributes := #[] }
def k21m1 : Method := { name := "entrySet", desc := "()Ljava/util/Set;", sig := { parameters := [], returnType := some (.object "java/util/Set") }, accessFlags := 1, code := some k21c1 }
/-- java/util/HashMap -/
def k21 : Class := { plain "java/util/HashMap" (some 20) with
  accessFlags := 33
  interfaces := #[19, 16, 2]
  cf := some (fileOf pool21 40 #[.nestMembers #[180, 596, 598, 600, 602, 604, 606, 608, 610, 346, 268, 263, 243, 163]] #[{ accessFlags := 1, nameIndex := 47, descriptorIndex := 48, attributes := #[] }, { accessFlags := 1, nameIndex := 123, descriptorIndex := 124, attributes := #[] }] 33 44 #[101, 392, 394] #[{ accessFlags := 26, nameIndex := 396, descriptorIndex := 397, attributes := #[] }, { accessFlags := 24, nameIndex := 401, descriptorIndex := 91, attributes := #[] }, { accessFlags := 24, nameIndex := 403, descriptorIndex := 91, attributes := #[] }, { accessFlags := 24, nameIndex := 404, descriptorIndex := 84, attributes := #[] }, { accessFlags := 24, nameIndex := 405, descriptorIndex := 91, attributes := #[] }, { accessFlags := 24, nameIndex := 407, descriptorIndex := 91, attributes := #[] }, { accessFlags := 24, nameIndex := 409, descriptorIndex := 91, attributes := #[] }, { accessFlags := 128, nameIndex := 107, descriptorIndex := 108, attributes := #[] }, { accessFlags := 128, nameIndex := 123, descriptorIndex := 242, attributes := #[] }, { accessFlags := 128, nameIndex := 104, descriptorIndex := 91, attributes := #[] }, { accessFlags := 128, nameIndex := 204, descriptorIndex := 91, attributes := #[] }, { accessFlags := 0, nameIndex := 90, descriptorIndex := 91, attributes := #[] }, { accessFlags := 16, nameIndex := 83, descriptorIndex := 84, attributes := #[] }])
  fields := #[{ name := "serialVersionUID", type := .long, accessFlags := 26, slot := 0, constantValue := 0 }, { name := "DEFAULT_INITIAL_CAPACITY", type := .int, accessFlags := 24, slot := 1, constantValue := 0 }, { name := "MAXIMUM_CAPACITY", type := .int, accessFlags := 24, slot := 2, constantValue := 0 }, { name := "DEFAULT_LOAD_FACTOR", type := .float, accessFlags := 24, slot := 3, constantValue := 0 }, { name := "TREEIFY_THRESHOLD", type := .int, accessFlags := 24, slot := 4, constantValue := 0 }, { name := "UNTREEIFY_THRESHOLD", type := .int, accessFlags := 24, slot := 5, constantValue := 0 }, { name := "MIN_TREEIFY_CAPACITY", type := .int, accessFlags := 24, slot := 6, constantValue := 0 }, { name := "table", type := (.array (.object "java/util/HashMap$Node")), accessFlags := 128, slot := 2, constantValue := 0 }, { name := "entrySet", type := (.object "java/util/Set"), accessFlags := 128, slot := 3, constantValue := 0 }, { name := "size", type := .int, accessFlags := 128, slot := 4, constantValue := 0 }, { name := "modCount", type := .int, accessFlags := 128, slot := 5, constantValue := 0 }, { name := "threshold", type := .int, accessFlags := 0, slot := 6, constantValue := 0 }, { name := "loadFactor", type := .float, accessFlags := 16, slot := 7, constantValue := 0 }]
  methods := #[k21m0, k21m1]
  instanceTypes := #[(.object "java/util/Set"), (.object "java/util/Collection"), (.array (.object "java/util/HashMap$Node")), (.object "java/util/Set"), .int, .int, .int, .float]
  staticTypes := #[.long, .int, .int, .float, .int, .int, .int]
  resolved := Array.replicate 629 none
  statics := none }

def pool22 : Array CpInfo := pool [(1, .methodref 2 3), (0, .class_ 4), (0, .nameAndType 5 6), (0, u "java/lang/Object"), (0, u "<init>"), (0, u "()V"), (0, .class_ 8), (0, u "java/lang/Record")] 13

def k22c0 : Code := { maxStack := 1, maxLocals := 1, code := jdk_30_method_1_code, exceptionTable := #[], attributes := #[] }
def k22m0 : Method := { name := "<init>", desc := "()V", sig := { parameters := [], returnType := none }, accessFlags := 4, code := some k22c0 }
/-- java/lang/Record -/
def k22 : Class := { plain "java/lang/Record" (some 0) with
  accessFlags := 1057
  interfaces := #[]
  cf := some (fileOf pool22 7 #[] #[{ accessFlags := 4, nameIndex := 5, descriptorIndex := 6, attributes := #[] }] 1057 2 #[] #[])
  fields := #[]
  methods := #[k22m0]
  instanceTypes := #[]
  staticTypes := #[]
  resolved := Array.replicate 22 none
  statics := none }

def pool23 : Array CpInfo := pool [(1, .methodref 2 3), (0, .class_ 4), (0, .nameAndType 5 6), (0, u "java/lang/Record"), (0, u "<init>"), (0, u "()V"), (0, .interfaceMethodref 8 9), (0, .class_ 10), (0, .nameAndType 11 12), (0, u "java/util/List"), (0, u "copyOf"), (0, u "(Ljava/util/Collection;)Ljava/util/List;"), (0, .class_ 14), (0, u "java/util/LinkedHashMap"), (0, .methodref 13 3), (0, .interfaceMethodref 17 18), (0, .class_ 19), (0, .nameAndType 20 21), (0, u "java/util/Map"), (0, u "entrySet"), (0, u "()Ljava/util/Set;"), (0, .interfaceMethodref 23 24), (0, .class_ 25), (0, .nameAndType 26 27), (0, u "java/util/Set"), (0, u "iterator"), (0, u "()Ljava/util/Iterator;"), (0, .interfaceMethodref 29 30), (0, .class_ 31), (0, .nameAndType 32 33), (0, u "java/util/Iterator"), (0, u "hasNext"), (0, u "()Z"), (20, .methodref 55 56), (0, .class_ 57), (0, .nameAndType 58 59), (0, u "java/util/Collections"), (0, u "unmodifiableMap"), (0, u "(Ljava/util/Map;)Ljava/util/Map;"), (0, .fieldref 61 62), (0, .class_ 63), (0, .nameAndType 64 65), (0, u "com/example/ratify/ratify/recovery/RecoveryReport"), (0, u "committed"), (0, u "J"), (0, .fieldref 61 67), (0, .nameAndType 68 65), (0, u "rolledBack"), (0, .fieldref 61 70), (0, .nameAndType 71 65), (0, u "pending"), (0, .fieldref 61 73), (0, .nameAndType 74 75), (0, u "unreachable"), (0, u "Ljava/util/List;"), (0, .fieldref 61 77), (0, .nameAndType 78 75), (0, u "failures"), (0, .fieldref 61 80), (0, .nameAndType 81 75), (0, u "finished"), (0, .fieldref 61 83), (0, .nameAndType 84 85), (0, u "unfinished"), (0, u "Ljava/util/Map;"), (0, .fieldref 61 87), (0, .nameAndType 88 75), (0, u "waiting"), (0, .fieldref 61 90), (0, .nameAndType 91 75), (0, u "deferred"), (0, .fieldref 61 93), (0, .nameAndType 94 75), (0, u "decided"), (0, .interfaceMethodref 8 96), (0, .nameAndType 97 33), (0, u "isEmpty"), (21, u "(JJJLjava/util/List;Ljava/util/List;Ljava/util/List;Ljava/util/Map;Ljava/util/List;Ljava/util/List;Ljava/util/List;)V"), (5, u "complete")] 39

def k23c0 : Code := { maxStack := 3, maxLocals := 17, code := prog_47_method_1_code, exceptionTable := #[], attributes := #[] }
def k23m0 : Method := { name := "<init>", desc := "(JJJLjava/util/List;Ljava/util/List;Ljava/util/List;Ljava/util/Map;Ljava/util/List;Ljava/util/List;Ljava/util/List;)V", sig := { parameters := [.long, .long, .long, (.object "java/util/List"), (.object "java/util/List"), (.object "java/util/List"), (.object "java/util/Map"), (.object "java/util/List"), (.object "java/util/List"), (.object "java/util/List")], returnType := none }, accessFlags := 1, code := some k23c0 }
def k23c1 : Code := { maxStack := 4, maxLocals := 1, code := prog_47_method_2_code, exceptionTable := #[], attributes := #[] }
def k23m1 : Method := { name := "complete", desc := "()Z", sig := { parameters := [], returnType := some .boolean }, accessFlags := 1, code := some k23c1 }
/-- com/example/ratify/ratify/recovery/RecoveryReport -/
def k23 : Class := { plain "com/example/ratify/ratify/recovery/RecoveryReport" (some 22) with
  accessFlags := 49
  interfaces := #[]
  cf := some (fileOf pool23 61 #[] #[{ accessFlags := 1, nameIndex := 5, descriptorIndex := 119, attributes := #[] }, { accessFlags := 1, nameIndex := 125, descriptorIndex := 33, attributes := #[] }] 49 2 #[] #[{ accessFlags := 18, nameIndex := 64, descriptorIndex := 65, attributes := #[] }, { accessFlags := 18, nameIndex := 68, descriptorIndex := 65, attributes := #[] }, { accessFlags := 18, nameIndex := 71, descriptorIndex := 65, attributes := #[] }, { accessFlags := 18, nameIndex := 74, descriptorIndex := 75, attributes := #[] }, { accessFlags := 18, nameIndex := 78, descriptorIndex := 75, attributes := #[] }, { accessFlags := 18, nameIndex := 81, descriptorIndex := 75, attributes := #[] }, { accessFlags := 18, nameIndex := 84, descriptorIndex := 85, attributes := #[] }, { accessFlags := 18, nameIndex := 88, descriptorIndex := 75, attributes := #[] }, { accessFlags := 18, nameIndex := 91, descriptorIndex := 75, attributes := #[] }, { accessFlags := 18, nameIndex := 94, descriptorIndex := 75, attributes := #[] }])
  fields := #[{ name := "committed", type := .long, accessFlags := 18, slot := 0, constantValue := 0 }, { name := "rolledBack", type := .long, accessFlags := 18, slot := 1, constantValue := 0 }, { name := "pending", type := .long, accessFlags := 18, slot := 2, constantValue := 0 }, { name := "unreachable", type := (.object "java/util/List"), accessFlags := 18, slot := 3, constantValue := 0 }, { name := "failures", type := (.object "java/util/List"), accessFlags := 18, slot := 4, constantValue := 0 }, { name := "finished", type := (.object "java/util/List"), accessFlags := 18, slot := 5, constantValue := 0 }, { name := "unfinished", type := (.object "java/util/Map"), accessFlags := 18, slot := 6, constantValue := 0 }, { name := "waiting", type := (.object "java/util/List"), accessFlags := 18, slot := 7, constantValue := 0 }, { name := "deferred", type := (.object "java/util/List"), accessFlags := 18, slot := 8, constantValue := 0 }, { name := "decided", type := (.object "java/util/List"), accessFlags := 18, slot := 9, constantValue := 0 }]
  methods := #[k23m0, k23m1]
  instanceTypes := #[.long, .long, .long, (.object "java/util/List"), (.object "java/util/List"), (.object "java/util/List"), (.object "java/util/Map"), (.object "java/util/List"), (.object "java/util/List"), (.object "java/util/List")]
  staticTypes := #[]
  resolved := Array.replicate 165 none
  statics := none }

def pool24 : Array CpInfo := pool [(2, .class_ 4), (1, u "java/lang/Object"), (0, u "<init>"), (0, u "()V"), (3, .class_ 11), (0, u "java/util/ImmutableCollections$List12"), (0, .class_ 13), (0, u "java/util/ImmutableCollections$ListN"), (3, u "Z"), (0, .class_ 19), (0, u "java/util/List"), (0, .interfaceMethodref 21 22), (0, .class_ 23), (0, .nameAndType 24 25), (0, u "java/util/Collection"), (0, u "isEmpty"), (0, u "()Z"), (0, .interfaceMethodref 18 27), (0, .nameAndType 28 29), (0, u "of"), (0, u "()Ljava/util/List;"), (0, .interfaceMethodref 21 31), (0, .nameAndType 32 33), (0, u "toArray"), (0, u "()[Ljava/lang/Object;"), (0, .interfaceMethodref 18 35), (0, .nameAndType 28 36), (0, u "([Ljava/lang/Object;)Ljava/util/List;"), (0, .methodref 38 39), (0, .class_ 40), (0, .nameAndType 41 42), (0, u "java/util/Objects"), (0, u "requireNonNull"), (0, u "(Ljava/lang/Object;)Ljava/lang/Object;"), (0, .methodref 12 44), (0, .nameAndType 5 45), (0, u "([Ljava/lang/Object;Z)V"), (1, .class_ 49), (1, u "java/util/ImmutableCollections"), (0, u "$assertionsDisabled"), (5, u "[Ljava/lang/Object;"), (5, u "EMPTY_LIST"), (0, u "Ljava/util/ImmutableCollections$ListN;"), (8, u "EMPTY_LIST_NULLS"), (22, u "SALT32L"), (0, u "J"), (2, u "REVERSE"), (6, u "archivedObjects"), (2, u "EMPTY"), (0, u "Ljava/lang/Object;"), (0, .class_ 112), (0, u "java/util/ImmutableCollections$SetN"), (5, u "EMPTY_SET"), (0, u "Ljava/util/ImmutableCollections$SetN;"), (0, .class_ 121), (0, u "java/util/ImmutableCollections$MapN"), (3, u "EMPTY_MAP"), (0, u "Ljava/util/ImmutableCollections$MapN;"), (4, u "EXPAND_FACTOR"), (0, u "I"), (9, u "listCopy"), (0, u "(Ljava/util/Collection;)Ljava/util/List;"), (7, u "listFromArray"), (17, .class_ 170), (0, u "java/util/ImmutableCollections$MapN$MapNIterator"), (0, .class_ 172), (0, u "java/util/ImmutableCollections$MapN$1"), (0, .class_ 174), (0, u "java/util/ImmutableCollections$Map1"), (0, .class_ 176), (0, u "java/util/ImmutableCollections$AbstractImmutableMap"), (0, .class_ 178), (0, u "java/util/ImmutableCollections$SetN$SetNIterator"), (0, .class_ 180), (0, u "java/util/ImmutableCollections$Set12"), (0, .class_ 182), (0, u "java/util/ImmutableCollections$Set12$1"), (0, .class_ 184), (0, u "java/util/ImmutableCollections$AbstractImmutableSet"), (0, .class_ 186), (0, u "java/util/ImmutableCollections$SubList"), (0, .class_ 188), (0, u "java/util/ImmutableCollections$ListItr"), (0, .class_ 190), (0, u "java/util/ImmutableCollections$AbstractImmutableList"), (0, .class_ 192), (0, u "java/util/ImmutableCollections$AbstractImmutableCollection"), (0, .class_ 194), (0, u "java/util/ImmutableCollections$Access"), (0, .class_ 196), (0, u "java/util/ImmutableCollections$Access$1")] 16

def k24m0 : Method := { name := "<init>", desc := "()V", sig := { parameters := [], returnType := none }, accessFlags := 2, code := none }
def k24c1 : Code := { maxStack := 1, maxLocals := 2, code := jdk_56_method_3_code, exceptionTable := #[], attributes := #[] }
def k24m1 : Method := { name := "listCopy", desc := "(Ljava/util/Collection;)Ljava/util/List;", sig := { parameters := [(.object "java/util/Collection")], returnType := some (.object "java/util/List") }, accessFlags := 8, code := some k24c1 }
def k24c2 : Code := { maxStack := 4, maxLocals := 3, code := jdk_56_method_4_code, exceptionTable := #[], attributes := #[] }
def k24m2 : Method := { name := "listFromArray", desc := "([Ljava/lang/Object;)Ljava/util/List;", sig := { parameters := [(.array (.object "java/lang/Object"))], returnType := some (.object "java/util/List") }, accessFlags := 136, code := some k24c2 }
/-- java/util/ImmutableCollections -/
def k24 : Class := { plain "java/util/ImmutableCollections" (some 0) with
  accessFlags := 32
  interfaces := #[]
  cf := some (fileOf pool24 47 #[.nestMembers #[120, 169, 171, 173, 175, 111, 177, 179, 181, 183, 12, 10, 185, 187, 189, 191, 193, 195]] #[{ accessFlags := 2, nameIndex := 5, descriptorIndex := 6, attributes := #[] }, { accessFlags := 8, nameIndex := 142, descriptorIndex := 143, attributes := #[] }, { accessFlags := 136, nameIndex := 151, descriptorIndex := 36, attributes := #[] }] 32 2 #[] #[{ accessFlags := 26, nameIndex := 95, descriptorIndex := 96, attributes := #[] }, { accessFlags := 26, nameIndex := 99, descriptorIndex := 17, attributes := #[] }, { accessFlags := 10, nameIndex := 106, descriptorIndex := 56, attributes := #[] }, { accessFlags := 26, nameIndex := 109, descriptorIndex := 110, attributes := #[] }, { accessFlags := 24, nameIndex := 62, descriptorIndex := 63, attributes := #[] }, { accessFlags := 24, nameIndex := 72, descriptorIndex := 63, attributes := #[] }, { accessFlags := 24, nameIndex := 118, descriptorIndex := 119, attributes := #[] }, { accessFlags := 24, nameIndex := 125, descriptorIndex := 126, attributes := #[] }, { accessFlags := 24, nameIndex := 131, descriptorIndex := 132, attributes := #[] }, { accessFlags := 4120, nameIndex := 50, descriptorIndex := 17, attributes := #[] }])
  fields := #[{ name := "SALT32L", type := .long, accessFlags := 26, slot := 0, constantValue := 0 }, { name := "REVERSE", type := .boolean, accessFlags := 26, slot := 1, constantValue := 0 }, { name := "archivedObjects", type := (.array (.object "java/lang/Object")), accessFlags := 10, slot := 2, constantValue := 0 }, { name := "EMPTY", type := (.object "java/lang/Object"), accessFlags := 26, slot := 3, constantValue := 0 }, { name := "EMPTY_LIST", type := (.object "java/util/ImmutableCollections$ListN"), accessFlags := 24, slot := 4, constantValue := 0 }, { name := "EMPTY_LIST_NULLS", type := (.object "java/util/ImmutableCollections$ListN"), accessFlags := 24, slot := 5, constantValue := 0 }, { name := "EMPTY_SET", type := (.object "java/util/ImmutableCollections$SetN"), accessFlags := 24, slot := 6, constantValue := 0 }, { name := "EMPTY_MAP", type := (.object "java/util/ImmutableCollections$MapN"), accessFlags := 24, slot := 7, constantValue := 0 }, { name := "EXPAND_FACTOR", type := .int, accessFlags := 24, slot := 8, constantValue := 0 }, { name := "$assertionsDisabled", type := .boolean, accessFlags := 4120, slot := 9, constantValue := 0 }]
  methods := #[k24m0, k24m1, k24m2]
  instanceTypes := #[]
  staticTypes := #[.long, .boolean, (.array (.object "java/lang/Object")), (.object "java/lang/Object"), (.object "java/util/ImmutableCollections$ListN"), (.object "java/util/ImmutableCollections$ListN"), (.object "java/util/ImmutableCollections$SetN"), (.object "java/util/ImmutableCollections$MapN"), .int, .boolean]
  resolved := Array.replicate 213 none
  statics := some 2 }

def pool25 : Array CpInfo := pool [(1, .methodref 2 3), (0, .class_ 4), (0, .nameAndType 5 6), (0, u "java/util/AbstractCollection"), (0, u "<init>"), (0, u "()V"), (1, .class_ 10), (1, u "java/util/ImmutableCollections"), (2, .class_ 14), (0, u "java/util/ImmutableCollections$AbstractImmutableCollection")] 41

def k25c0 : Code := { maxStack := 1, maxLocals := 1, code := jdk_47_method_1_code, exceptionTable := #[], attributes := #[] }
def k25m0 : Method := { name := "<init>", desc := "()V", sig := { parameters := [], returnType := none }, accessFlags := 0, code := some k25c0 }
/-- java/util/ImmutableCollections$AbstractImmutableCollection -/
def k25 : Class := { plain "java/util/ImmutableCollections$AbstractImmutableCollection" (some 11) with
  accessFlags := 1056
  interfaces := #[]
  cf := some (fileOf pool25 13 #[.nestHost 8] #[{ accessFlags := 0, nameIndex := 5, descriptorIndex := 6, attributes := #[] }] 1056 2 #[] #[])
  fields := #[]
  methods := #[k25m0]
  instanceTypes := #[]
  staticTypes := #[]
  resolved := Array.replicate 56 none
  statics := none }

def pool26 : Array CpInfo := pool [(1, .methodref 2 3), (0, .class_ 4), (0, .nameAndType 5 6), (0, u "java/util/ImmutableCollections$AbstractImmutableCollection"), (0, u "<init>"), (0, u "()V"), (1, .class_ 10), (1, u "java/util/ImmutableCollections"), (3, .class_ 16), (1, u "java/util/ImmutableCollections$AbstractImmutableList"), (60, .class_ 78), (0, u "java/util/List"), (45, .class_ 125), (0, u "java/util/RandomAccess")] 70

def k26c0 : Code := { maxStack := 1, maxLocals := 1, code := jdk_46_method_1_code, exceptionTable := #[], attributes := #[] }
def k26m0 : Method := { name := "<init>", desc := "()V", sig := { parameters := [], returnType := none }, accessFlags := 0, code := some k26c0 }
/-- java/util/ImmutableCollections$AbstractImmutableList -/
def k26 : Class := { plain "java/util/ImmutableCollections$AbstractImmutableList" (some 25) with
  accessFlags := 1056
  interfaces := #[13, 15]
  cf := some (fileOf pool26 14 #[.nestHost 8] #[{ accessFlags := 0, nameIndex := 5, descriptorIndex := 6, attributes := #[] }] 1056 2 #[77, 124] #[])
  fields := #[]
  methods := #[k26m0]
  instanceTypes := #[]
  staticTypes := #[]
  resolved := Array.replicate 196 none
  statics := none }

def pool27 : Array CpInfo := pool [(1, .methodref 2 3), (0, .class_ 4), (0, .nameAndType 5 6), (0, u "java/util/ImmutableCollections$AbstractImmutableList"), (0, u "<init>"), (0, u "()V"), (0, .methodref 8 9), (0, .class_ 10), (0, .nameAndType 11 12), (0, u "java/util/Objects"), (0, u "requireNonNull"), (0, u "(Ljava/lang/Object;)Ljava/lang/Object;"), (0, .fieldref 14 15), (0, .class_ 16), (0, .nameAndType 17 18), (0, u "java/util/ImmutableCollections$List12"), (0, u "e0"), (0, u "Ljava/lang/Object;"), (0, .fieldref 20 21), (0, .class_ 22), (0, .nameAndType 23 18), (0, u "java/util/ImmutableCollections"), (0, u "EMPTY"), (0, .fieldref 14 25), (0, .nameAndType 26 18), (0, u "e1"), (43, .class_ 71), (0, u "java/io/Serializable"), (4, u "(Ljava/lang/Object;)V"), (8, u "(Ljava/lang/Object;Ljava/lang/Object;)V"), (2, u "isEmpty"), (0, u "()Z")] 35

def k27c0 : Code := { maxStack := 2, maxLocals := 2, code := jdk_44_method_1_code, exceptionTable := #[], attributes := #[] }
def k27m0 : Method := { name := "<init>", desc := "(Ljava/lang/Object;)V", sig := { parameters := [(.object "java/lang/Object")], returnType := none }, accessFlags := 0, code := some k27c0 }
def k27c1 : Code := { maxStack := 2, maxLocals := 3, code := jdk_44_method_2_code, exceptionTable := #[], attributes := #[] }
def k27m1 : Method := { name := "<init>", desc := "(Ljava/lang/Object;Ljava/lang/Object;)V", sig := { parameters := [(.object "java/lang/Object"), (.object "java/lang/Object")], returnType := none }, accessFlags := 0, code := some k27c1 }
def k27c2 : Code := { maxStack := 1, maxLocals := 1, code := jdk_44_method_4_code, exceptionTable := #[], attributes := #[] }
def k27m2 : Method := { name := "isEmpty", desc := "()Z", sig := { parameters := [], returnType := some .boolean }, accessFlags := 1, code := some k27c2 }
/-- java/util/ImmutableCollections$List12 -/
def k27 : Class := { plain "java/util/ImmutableCollections$List12" (some 26) with
  accessFlags := 48
  interfaces := #[2]
  cf := some (fileOf pool27 14 #[.nestHost 20] #[{ accessFlags := 0, nameIndex := 5, descriptorIndex := 76, attributes := #[] }, { accessFlags := 0, nameIndex := 5, descriptorIndex := 85, attributes := #[] }, { accessFlags := 1, nameIndex := 88, descriptorIndex := 89, attributes := #[] }] 48 2 #[70] #[{ accessFlags := 18, nameIndex := 17, descriptorIndex := 18, attributes := #[] }, { accessFlags := 18, nameIndex := 26, descriptorIndex := 18, attributes := #[] }])
  fields := #[{ name := "e0", type := (.object "java/lang/Object"), accessFlags := 18, slot := 0, constantValue := 0 }, { name := "e1", type := (.object "java/lang/Object"), accessFlags := 18, slot := 1, constantValue := 0 }]
  methods := #[k27m0, k27m1, k27m2]
  instanceTypes := #[(.object "java/lang/Object"), (.object "java/lang/Object")]
  staticTypes := #[]
  resolved := Array.replicate 125 none
  statics := none }

def pool28 : Array CpInfo := pool [(1, .methodref 2 3), (0, .class_ 4), (0, .nameAndType 5 6), (0, u "java/util/ImmutableCollections$AbstractImmutableList"), (0, u "<init>"), (0, u "()V"), (0, .fieldref 8 9), (0, .class_ 10), (0, .nameAndType 11 12), (0, u "java/util/ImmutableCollections$ListN"), (0, u "elements"), (0, u "[Ljava/lang/Object;"), (0, .fieldref 8 14), (0, .nameAndType 15 16), (0, u "allowNulls"), (0, u "Z"), (42, .class_ 60), (0, u "java/io/Serializable"), (4, u "([Ljava/lang/Object;Z)V"), (8, u "isEmpty"), (0, u "()Z"), (38, .class_ 115), (0, u "java/util/ImmutableCollections")] 3

def k28c0 : Code := { maxStack := 2, maxLocals := 3, code := jdk_45_method_1_code, exceptionTable := #[], attributes := #[] }
def k28m0 : Method := { name := "<init>", desc := "([Ljava/lang/Object;Z)V", sig := { parameters := [(.array (.object "java/lang/Object")), .boolean], returnType := none }, accessFlags := 2, code := some k28c0 }
def k28c1 : Code := { maxStack := 1, maxLocals := 1, code := jdk_45_method_2_code, exceptionTable := #[], attributes := #[] }
def k28m1 : Method := { name := "isEmpty", desc := "()Z", sig := { parameters := [], returnType := some .boolean }, accessFlags := 1, code := some k28c1 }
/-- java/util/ImmutableCollections$ListN -/
def k28 : Class := { plain "java/util/ImmutableCollections$ListN" (some 26) with
  accessFlags := 48
  interfaces := #[2]
  cf := some (fileOf pool28 8 #[.nestHost 114] #[{ accessFlags := 2, nameIndex := 5, descriptorIndex := 65, attributes := #[] }, { accessFlags := 1, nameIndex := 74, descriptorIndex := 75, attributes := #[] }] 48 2 #[59] #[{ accessFlags := 18, nameIndex := 11, descriptorIndex := 12, attributes := #[] }, { accessFlags := 18, nameIndex := 15, descriptorIndex := 16, attributes := #[] }])
  fields := #[{ name := "elements", type := (.array (.object "java/lang/Object")), accessFlags := 18, slot := 0, constantValue := 0 }, { name := "allowNulls", type := .boolean, accessFlags := 18, slot := 1, constantValue := 0 }]
  methods := #[k28m0, k28m1]
  instanceTypes := #[(.array (.object "java/lang/Object")), .boolean]
  staticTypes := #[]
  resolved := Array.replicate 119 none
  statics := none }

def pool29 : Array CpInfo := pool [(2, .class_ 4), (1, u "java/lang/Object"), (0, u "<init>"), (0, u "()V"), (7, .class_ 16), (1, u "java/util/Arrays"), (57, .class_ 76), (1, u "java/util/Arrays$NaturalOrder"), (9, .methodref 2 87), (0, .nameAndType 88 89), (0, u "getClass"), (0, u "()Ljava/lang/Class;"), (20, .class_ 111), (0, u "[Ljava/lang/Object;"), (1, .class_ 115), (1, u "java/util/Arrays$LegacyMergeSort"), (1, u "Z"), (32, .methodref 151 152), (0, .class_ 153), (0, .nameAndType 154 155), (0, u "java/lang/System"), (0, u "arraycopy"), (0, u "(Ljava/lang/Object;ILjava/lang/Object;II)V"), (144, .methodref 14 301), (0, .nameAndType 302 303), (0, u "copyOf"), (0, u "([Ljava/lang/Object;ILjava/lang/Class;)[Ljava/lang/Object;"), (0, .methodref 305 306), (0, .class_ 307), (0, .nameAndType 308 309), (0, u "java/lang/Math"), (0, u "min"), (0, u "(II)I"), (65, .class_ 376), (0, u "java/util/Arrays$ArrayList"), (68, u "$assertionsDisabled"), (269, u "MIN_ARRAY_SORT_GRAN"), (0, u "I"), (2, u "INSERTIONSORT_THRESHOLD"), (140, u "([Ljava/lang/Object;I)[Ljava/lang/Object;"), (114, .class_ 976), (0, u "java/util/Arrays$ArrayItr")] 52

def k29m0 : Method := { name := "<init>", desc := "()V", sig := { parameters := [], returnType := none }, accessFlags := 2, code := none }
def k29c1 : Code := { maxStack := 3, maxLocals := 2, code := jdk_65_method_119_code, exceptionTable := #[], attributes := #[] }
def k29m1 : Method := { name := "copyOf", desc := "([Ljava/lang/Object;I)[Ljava/lang/Object;", sig := { parameters := [(.array (.object "java/lang/Object")), .int], returnType := some (.array (.object "java/lang/Object")) }, accessFlags := 9, code := some k29c1 }
def k29c2 : Code := { maxStack := 6, maxLocals := 4, code := jdk_65_method_120_code, exceptionTable := #[], attributes := #[] }
def k29m2 : Method := { name := "copyOf", desc := "([Ljava/lang/Object;ILjava/lang/Class;)[Ljava/lang/Object;", sig := { parameters := [(.array (.object "java/lang/Object")), .int, (.object "java/lang/Class")], returnType := some (.array (.object "java/lang/Object")) }, accessFlags := 9, code := some k29c2 }
/-- java/util/Arrays -/
def k29 : Class := { plain "java/util/Arrays" (some 0) with
  accessFlags := 49
  interfaces := #[]
  cf := some (fileOf pool29 14 #[.nestMembers #[975, 375, 113, 74]] #[{ accessFlags := 2, nameIndex := 5, descriptorIndex := 6, attributes := #[] }, { accessFlags := 9, nameIndex := 302, descriptorIndex := 860, attributes := #[] }, { accessFlags := 9, nameIndex := 302, descriptorIndex := 303, attributes := #[] }] 49 2 #[] #[{ accessFlags := 26, nameIndex := 715, descriptorIndex := 716, attributes := #[] }, { accessFlags := 26, nameIndex := 719, descriptorIndex := 716, attributes := #[] }, { accessFlags := 4120, nameIndex := 445, descriptorIndex := 117, attributes := #[] }])
  fields := #[{ name := "MIN_ARRAY_SORT_GRAN", type := .int, accessFlags := 26, slot := 0, constantValue := 0 }, { name := "INSERTIONSORT_THRESHOLD", type := .int, accessFlags := 26, slot := 1, constantValue := 0 }, { name := "$assertionsDisabled", type := .boolean, accessFlags := 4120, slot := 2, constantValue := 0 }]
  methods := #[k29m0, k29m1, k29m2]
  instanceTypes := #[]
  staticTypes := #[.int, .int, .boolean]
  resolved := Array.replicate 1029 none
  statics := none }

def pool30 : Array CpInfo := pool [(2, .class_ 4), (1, u "java/lang/Object"), (0, u "<init>"), (0, u "()V"), (1, .class_ 10), (1, u "java/lang/System"), (0, u "allowSecurityManager"), (0, u "I"), (16, u "cons"), (0, u "Ljava/io/Console;"), (77, .class_ 110), (1, u "java/lang/System$CallersHolder"), (43, u "initialErrStream"), (0, u "Ljava/io/PrintStream;"), (19, u "security"), (0, u "Ljava/lang/SecurityManager;"), (31, .class_ 209), (0, u "java/lang/System$1"), (7, u "props"), (0, u "Ljava/util/Properties;"), (2, u "lineSeparator"), (0, u "Ljava/lang/String;"), (96, .class_ 321), (1, u "java/lang/System$LoggerFinder"), (5, .class_ 328), (0, u "java/lang/System$Logger"), (67, u "err"), (2, u "out"), (91, u "notSupportedJnuEncoding"), (15, u "in"), (17, u "initialIn"), (0, u "Ljava/io/InputStream;"), (35, u "bootLayer"), (0, u "Ljava/lang/ModuleLayer;"), (99, .class_ 664), (0, u "java/lang/System$2"), (9, u "NEVER"), (2, u "MAYBE"), (49, u "arraycopy"), (0, u "(Ljava/lang/Object;ILjava/lang/Object;II)V"), (72, .class_ 802), (0, u "java/lang/System$Logger$Level")] 31

def k30m0 : Method := { name := "<init>", desc := "()V", sig := { parameters := [], returnType := none }, accessFlags := 2, code := none }
def k30m1 : Method := { name := "arraycopy", desc := "(Ljava/lang/Object;ILjava/lang/Object;II)V", sig := { parameters := [(.object "java/lang/Object"), .int, (.object "java/lang/Object"), .int, .int], returnType := none }, accessFlags := 265, code := none }
/-- java/lang/System -/
def k30 : Class := { plain "java/lang/System" (some 0) with
  accessFlags := 49
  interfaces := #[]
  cf := some (fileOf pool30 8 #[.nestMembers #[319, 327, 801, 108, 663, 208]] #[{ accessFlags := 2, nameIndex := 5, descriptorIndex := 6, attributes := #[] }, { accessFlags := 265, nameIndex := 727, descriptorIndex := 728, attributes := #[] }] 49 2 #[] #[{ accessFlags := 25, nameIndex := 507, descriptorIndex := 526, attributes := #[] }, { accessFlags := 25, nameIndex := 399, descriptorIndex := 155, attributes := #[] }, { accessFlags := 25, nameIndex := 396, descriptorIndex := 155, attributes := #[] }, { accessFlags := 10, nameIndex := 525, descriptorIndex := 526, attributes := #[] }, { accessFlags := 26, nameIndex := 674, descriptorIndex := 12, attributes := #[] }, { accessFlags := 26, nameIndex := 677, descriptorIndex := 12, attributes := #[] }, { accessFlags := 10, nameIndex := 11, descriptorIndex := 12, attributes := #[] }, { accessFlags := 74, nameIndex := 175, descriptorIndex := 176, attributes := #[] }, { accessFlags := 10, nameIndex := 491, descriptorIndex := 222, attributes := #[] }, { accessFlags := 74, nameIndex := 29, descriptorIndex := 30, attributes := #[] }, { accessFlags := 74, nameIndex := 154, descriptorIndex := 155, attributes := #[] }, { accessFlags := 10, nameIndex := 217, descriptorIndex := 218, attributes := #[] }, { accessFlags := 10, nameIndex := 221, descriptorIndex := 222, attributes := #[] }, { accessFlags := 8, nameIndex := 562, descriptorIndex := 563, attributes := #[] }])
  fields := #[{ name := "in", type := (.object "java/io/InputStream"), accessFlags := 25, slot := 0, constantValue := 0 }, { name := "out", type := (.object "java/io/PrintStream"), accessFlags := 25, slot := 1, constantValue := 0 }, { name := "err", type := (.object "java/io/PrintStream"), accessFlags := 25, slot := 2, constantValue := 0 }, { name := "initialIn", type := (.object "java/io/InputStream"), accessFlags := 10, slot := 3, constantValue := 0 }, { name := "NEVER", type := .int, accessFlags := 26, slot := 4, constantValue := 0 }, { name := "MAYBE", type := .int, accessFlags := 26, slot := 5, constantValue := 0 }, { name := "allowSecurityManager", type := .int, accessFlags := 10, slot := 6, constantValue := 0 }, { name := "security", type := (.object "java/lang/SecurityManager"), accessFlags := 74, slot := 7, constantValue := 0 }, { name := "notSupportedJnuEncoding", type := (.object "java/lang/String"), accessFlags := 10, slot := 8, constantValue := 0 }, { name := "cons", type := (.object "java/io/Console"), accessFlags := 74, slot := 9, constantValue := 0 }, { name := "initialErrStream", type := (.object "java/io/PrintStream"), accessFlags := 74, slot := 10, constantValue := 0 }, { name := "props", type := (.object "java/util/Properties"), accessFlags := 10, slot := 11, constantValue := 0 }, { name := "lineSeparator", type := (.object "java/lang/String"), accessFlags := 10, slot := 12, constantValue := 0 }, { name := "bootLayer", type := (.object "java/lang/ModuleLayer"), accessFlags := 8, slot := 13, constantValue := 0 }]
  methods := #[k30m0, k30m1]
  instanceTypes := #[]
  staticTypes := #[(.object "java/io/InputStream"), (.object "java/io/PrintStream"), (.object "java/io/PrintStream"), (.object "java/io/InputStream"), .int, .int, .int, (.object "java/lang/SecurityManager"), (.object "java/lang/String"), (.object "java/io/Console"), (.object "java/io/PrintStream"), (.object "java/util/Properties"), (.object "java/lang/String"), (.object "java/lang/ModuleLayer")]
  resolved := Array.replicate 834 none
  statics := none }

def pool31 : Array CpInfo := pool [(2, .class_ 4), (1, u "java/lang/Object"), (0, u "<init>"), (0, u "()V"), (35, .class_ 44), (1, u "java/util/Objects"), (0, u "requireNonNull"), (0, u "(Ljava/lang/Object;)Ljava/lang/Object;")] 137

def k31m0 : Method := { name := "<init>", desc := "()V", sig := { parameters := [], returnType := none }, accessFlags := 2, code := none }
def k31c1 : Code := { maxStack := 2, maxLocals := 1, code := jdk_31_method_10_code, exceptionTable := #[], attributes := #[] }
def k31m1 : Method := { name := "requireNonNull", desc := "(Ljava/lang/Object;)Ljava/lang/Object;", sig := { parameters := [(.object "java/lang/Object")], returnType := some (.object "java/lang/Object") }, accessFlags := 9, code := some k31c1 }
/-- java/util/Objects -/
def k31 : Class := { plain "java/util/Objects" (some 0) with
  accessFlags := 49
  interfaces := #[]
  cf := some (fileOf pool31 42 #[] #[{ accessFlags := 2, nameIndex := 5, descriptorIndex := 6, attributes := #[] }, { accessFlags := 9, nameIndex := 45, descriptorIndex := 46, attributes := #[] }] 49 2 #[] #[])
  fields := #[]
  methods := #[k31m0, k31m1]
  instanceTypes := #[]
  staticTypes := #[]
  resolved := Array.replicate 184 none
  statics := none }

def pool32 : Array CpInfo := pool [(2, .class_ 4), (1, u "java/util/SequencedMap"), (38, .class_ 44), (0, u "java/util/SequencedMap$1SeqKeySet"), (3, .class_ 49), (0, u "java/util/SequencedMap$1SeqValues"), (1, .class_ 52), (0, u "java/util/SequencedMap$1SeqEntrySet"), (1, .class_ 55), (0, u "java/lang/Object"), (0, .class_ 57), (0, u "java/util/Map")] 48

/-- java/util/SequencedMap -/
def k32 : Class := { plain "java/util/SequencedMap" (some 0) with
  accessFlags := 1537
  interfaces := #[19]
  cf := some (fileOf pool32 2 #[.nestMembers #[51, 48, 43]] #[] 1537 54 #[56] #[])
  fields := #[]
  methods := #[]
  instanceTypes := #[]
  staticTypes := #[]
  resolved := Array.replicate 106 none
  statics := none }

def pool33 : Array CpInfo := pool [(1, .fieldref 2 3), (0, .class_ 4), (0, .nameAndType 5 6), (0, u "java/util/LinkedHashMap"), (0, u "putMode"), (0, u "I"), (2, u "head"), (0, u "Ljava/util/LinkedHashMap$Entry;"), (2, u "tail"), (1, .class_ 17), (1, u "java/util/LinkedHashMap$Entry"), (5, .class_ 25), (1, u "java/util/HashMap"), (1, u "()V"), (2, u "<init>"), (33, .fieldref 2 65), (0, .nameAndType 66 67), (0, u "accessOrder"), (0, u "Z"), (19, .methodref 23 88), (0, .nameAndType 30 27), (32, .class_ 122), (0, u "java/util/LinkedHashMap$LinkedKeySet"), (20, .class_ 144), (0, u "java/util/LinkedHashMap$LinkedValues"), (9, .class_ 155), (0, u "java/util/LinkedHashMap$LinkedEntrySet"), (44, .class_ 201), (0, u "java/util/LinkedHashMap$ReversedLinkedHashMapView"), (3, .class_ 206), (0, u "java/util/SequencedMap"), (0, u "serialVersionUID"), (0, u "J"), (5, u "PUT_NORM"), (1, u "PUT_FIRST"), (1, u "PUT_LAST"), (143, .class_ 363), (0, u "java/util/LinkedHashMap$LinkedEntryIterator"), (0, .class_ 365), (0, u "java/util/LinkedHashMap$LinkedValueIterator"), (0, .class_ 367), (0, u "java/util/LinkedHashMap$LinkedKeyIterator"), (0, .class_ 369), (0, u "java/util/LinkedHashMap$LinkedHashIterator")] 16

def k33c0 : Code := { maxStack := 2, maxLocals := 1, code := jdk_94_method_16_code, exceptionTable := #[], attributes := #[] }
def k33m0 : Method := { name := "<init>", desc := "()V", sig := { parameters := [], returnType := none }, accessFlags := 1, code := some k33c0 }
/-- java/util/LinkedHashMap -/
def k33 : Class := { plain "java/util/LinkedHashMap" (some 21) with
  accessFlags := 33
  interfaces := #[32]
  cf := some (fileOf pool33 2 #[.nestMembers #[200, 362, 364, 366, 368, 154, 143, 121, 15]] #[{ accessFlags := 1, nameIndex := 30, descriptorIndex := 27, attributes := #[] }] 33 23 #[205] #[{ accessFlags := 26, nameIndex := 207, descriptorIndex := 208, attributes := #[] }, { accessFlags := 128, nameIndex := 9, descriptorIndex := 10, attributes := #[] }, { accessFlags := 128, nameIndex := 13, descriptorIndex := 10, attributes := #[] }, { accessFlags := 16, nameIndex := 66, descriptorIndex := 67, attributes := #[] }, { accessFlags := 24, nameIndex := 214, descriptorIndex := 6, attributes := #[] }, { accessFlags := 24, nameIndex := 216, descriptorIndex := 6, attributes := #[] }, { accessFlags := 24, nameIndex := 218, descriptorIndex := 6, attributes := #[] }, { accessFlags := 128, nameIndex := 5, descriptorIndex := 6, attributes := #[] }])
  fields := #[{ name := "serialVersionUID", type := .long, accessFlags := 26, slot := 0, constantValue := 0 }, { name := "head", type := (.object "java/util/LinkedHashMap$Entry"), accessFlags := 128, slot := 8, constantValue := 0 }, { name := "tail", type := (.object "java/util/LinkedHashMap$Entry"), accessFlags := 128, slot := 9, constantValue := 0 }, { name := "accessOrder", type := .boolean, accessFlags := 16, slot := 10, constantValue := 0 }, { name := "PUT_NORM", type := .int, accessFlags := 24, slot := 1, constantValue := 0 }, { name := "PUT_FIRST", type := .int, accessFlags := 24, slot := 2, constantValue := 0 }, { name := "PUT_LAST", type := .int, accessFlags := 24, slot := 3, constantValue := 0 }, { name := "putMode", type := .int, accessFlags := 128, slot := 11, constantValue := 0 }]
  methods := #[k33m0]
  instanceTypes := #[(.object "java/util/Set"), (.object "java/util/Collection"), (.array (.object "java/util/HashMap$Node")), (.object "java/util/Set"), .int, .int, .int, .float, (.object "java/util/LinkedHashMap$Entry"), (.object "java/util/LinkedHashMap$Entry"), .boolean, .int]
  staticTypes := #[.long, .int, .int, .int]
  resolved := Array.replicate 386 none
  mirror := some 5
  statics := none }

def pool34 : Array CpInfo := pool [(26, .class_ 27), (0, u "java/lang/Object"), (5, .class_ 34), (0, u "java/util/Set"), (1, .class_ 38), (1, u "java/util/Collection"), (22, u "iterator"), (0, u "()Ljava/util/Iterator;")] 81

def k34m0 : Method := { name := "iterator", desc := "()Ljava/util/Iterator;", sig := { parameters := [], returnType := some (.object "java/util/Iterator") }, accessFlags := 1025, code := none }
/-- java/util/Set -/
def k34 : Class := { plain "java/util/Set" (some 0) with
  accessFlags := 1537
  interfaces := #[10]
  cf := some (fileOf pool34 33 #[] #[{ accessFlags := 1025, nameIndex := 61, descriptorIndex := 62, attributes := #[] }] 1537 26 #[36] #[])
  fields := #[]
  methods := #[k34m0]
  instanceTypes := #[]
  staticTypes := #[]
  resolved := Array.replicate 144 none
  statics := none }

def pool35 : Array CpInfo := pool [(1, .methodref 2 3), (0, .class_ 4), (0, .nameAndType 5 6), (0, u "java/util/AbstractCollection"), (0, u "<init>"), (0, u "()V"), (0, .class_ 8), (0, u "java/util/Set"), (7, .class_ 17), (0, u "java/util/AbstractSet")] 78

def k35c0 : Code := { maxStack := 1, maxLocals := 1, code := jdk_91_method_1_code, exceptionTable := #[], attributes := #[] }
def k35m0 : Method := { name := "<init>", desc := "()V", sig := { parameters := [], returnType := none }, accessFlags := 4, code := some k35c0 }
/-- java/util/AbstractSet -/
def k35 : Class := { plain "java/util/AbstractSet" (some 11) with
  accessFlags := 1057
  interfaces := #[34]
  cf := some (fileOf pool35 16 #[] #[{ accessFlags := 4, nameIndex := 5, descriptorIndex := 6, attributes := #[] }] 1057 2 #[7] #[])
  fields := #[]
  methods := #[k35m0]
  instanceTypes := #[]
  staticTypes := #[]
  resolved := Array.replicate 96 none
  statics := none }

def pool36 : Array CpInfo := pool [(1, .fieldref 2 3), (0, .class_ 4), (0, .nameAndType 5 6), (0, u "java/util/HashMap$EntrySet"), (0, u "this$0"), (0, u "Ljava/util/HashMap;"), (0, .methodref 8 9), (0, .class_ 10), (0, .nameAndType 11 12), (0, u "java/util/AbstractSet"), (0, u "<init>"), (0, u "()V"), (1, .class_ 16), (1, u "java/util/HashMap"), (5, .class_ 23), (0, u "java/util/HashMap$EntryIterator"), (0, .methodref 22 25), (0, .nameAndType 11 26), (0, u "(Ljava/util/HashMap;)V"), (64, u "iterator"), (0, u "()Ljava/util/Iterator;")] 41

def k36c0 : Code := { maxStack := 2, maxLocals := 2, code := jdk_111_method_1_code, exceptionTable := #[], attributes := #[] }
def k36m0 : Method := { name := "<init>", desc := "(Ljava/util/HashMap;)V", sig := { parameters := [(.object "java/util/HashMap")], returnType := none }, accessFlags := 0, code := some k36c0 }
def k36c1 : Code := { maxStack := 3, maxLocals := 1, code := jdk_111_method_4_code, exceptionTable := #[], attributes := #[] }
def k36m1 : Method := { name := "iterator", desc := "()Ljava/util/Iterator;", sig := { parameters := [], returnType := some (.object "java/util/Iterator") }, accessFlags := 17, code := some k36c1 }
/-- java/util/HashMap$EntrySet -/
def k36 : Class := { plain "java/util/HashMap$EntrySet" (some 35) with
  accessFlags := 48
  interfaces := #[]
  cf := some (fileOf pool36 2 #[.nestHost 14] #[{ accessFlags := 0, nameIndex := 11, descriptorIndex := 26, attributes := #[] }, { accessFlags := 17, nameIndex := 91, descriptorIndex := 92, attributes := #[] }] 48 8 #[] #[{ accessFlags := 4112, nameIndex := 5, descriptorIndex := 6, attributes := #[] }])
  fields := #[{ name := "this$0", type := (.object "java/util/HashMap"), accessFlags := 4112, slot := 0, constantValue := 0 }]
  methods := #[k36m0, k36m1]
  instanceTypes := #[(.object "java/util/HashMap")]
  staticTypes := #[]
  resolved := Array.replicate 134 none
  statics := none }

def pool37 : Array CpInfo := pool [(1, .fieldref 2 3), (0, .class_ 4), (0, .nameAndType 5 6), (0, u "java/util/HashMap$HashIterator"), (0, u "this$0"), (0, u "Ljava/util/HashMap;"), (0, .methodref 8 9), (0, .class_ 10), (0, .nameAndType 11 12), (0, u "java/lang/Object"), (0, u "<init>"), (0, u "()V"), (0, .fieldref 14 15), (0, .class_ 16), (0, .nameAndType 17 18), (0, u "java/util/HashMap"), (0, u "modCount"), (0, u "I"), (0, .fieldref 2 20), (0, .nameAndType 21 18), (0, u "expectedModCount"), (0, .fieldref 14 23), (0, .nameAndType 24 25), (0, u "table"), (0, u "[Ljava/util/HashMap$Node;"), (0, .fieldref 2 27), (0, .nameAndType 28 29), (0, u "next"), (0, u "Ljava/util/HashMap$Node;"), (0, .fieldref 2 31), (0, .nameAndType 32 29), (0, u "current"), (0, .fieldref 2 34), (0, .nameAndType 35 18), (0, u "index"), (28, u "(Ljava/util/HashMap;)V"), (12, u "hasNext"), (0, u "()Z")] 12

def k37c0 : Code := { maxStack := 6, maxLocals := 3, code := jdk_99_method_1_code, exceptionTable := #[], attributes := #[] }
def k37m0 : Method := { name := "<init>", desc := "(Ljava/util/HashMap;)V", sig := { parameters := [(.object "java/util/HashMap")], returnType := none }, accessFlags := 0, code := some k37c0 }
def k37c1 : Code := { maxStack := 1, maxLocals := 1, code := jdk_99_method_2_code, exceptionTable := #[], attributes := #[] }
def k37m1 : Method := { name := "hasNext", desc := "()Z", sig := { parameters := [], returnType := some .boolean }, accessFlags := 17, code := some k37c1 }
/-- java/util/HashMap$HashIterator -/
def k37 : Class := { plain "java/util/HashMap$HashIterator" (some 0) with
  accessFlags := 1056
  interfaces := #[]
  cf := some (fileOf pool37 2 #[.nestHost 14] #[{ accessFlags := 0, nameIndex := 11, descriptorIndex := 64, attributes := #[] }, { accessFlags := 17, nameIndex := 77, descriptorIndex := 78, attributes := #[] }] 1056 8 #[] #[{ accessFlags := 0, nameIndex := 28, descriptorIndex := 29, attributes := #[] }, { accessFlags := 0, nameIndex := 32, descriptorIndex := 29, attributes := #[] }, { accessFlags := 0, nameIndex := 21, descriptorIndex := 18, attributes := #[] }, { accessFlags := 0, nameIndex := 35, descriptorIndex := 18, attributes := #[] }, { accessFlags := 4112, nameIndex := 5, descriptorIndex := 6, attributes := #[] }])
  fields := #[{ name := "next", type := (.object "java/util/HashMap$Node"), accessFlags := 0, slot := 0, constantValue := 0 }, { name := "current", type := (.object "java/util/HashMap$Node"), accessFlags := 0, slot := 1, constantValue := 0 }, { name := "expectedModCount", type := .int, accessFlags := 0, slot := 2, constantValue := 0 }, { name := "index", type := .int, accessFlags := 0, slot := 3, constantValue := 0 }, { name := "this$0", type := (.object "java/util/HashMap"), accessFlags := 4112, slot := 4, constantValue := 0 }]
  methods := #[k37m0, k37m1]
  instanceTypes := #[(.object "java/util/HashMap$Node"), (.object "java/util/HashMap$Node"), .int, .int, (.object "java/util/HashMap")]
  staticTypes := #[]
  resolved := Array.replicate 91 none
  statics := none }

def pool38 : Array CpInfo := pool [(16, .class_ 18), (1, u "java/util/Iterator"), (0, u "hasNext"), (0, u "()Z"), (10, .class_ 32), (0, u "java/lang/Object")] 20

def k38m0 : Method := { name := "hasNext", desc := "()Z", sig := { parameters := [], returnType := some .boolean }, accessFlags := 1025, code := none }
/-- java/util/Iterator -/
def k38 : Class := { plain "java/util/Iterator" (some 0) with
  accessFlags := 1537
  interfaces := #[]
  cf := some (fileOf pool38 16 #[] #[{ accessFlags := 1025, nameIndex := 19, descriptorIndex := 20, attributes := #[] }] 1537 31 #[] #[])
  fields := #[]
  methods := #[k38m0]
  instanceTypes := #[]
  staticTypes := #[]
  resolved := Array.replicate 53 none
  statics := none }

def pool39 : Array CpInfo := pool [(1, .methodref 2 3), (0, .class_ 4), (0, .nameAndType 5 6), (0, u "java/util/HashMap$HashIterator"), (0, u "<init>"), (0, u "(Ljava/util/HashMap;)V"), (1, .class_ 10), (1, u "java/util/HashMap$EntryIterator"), (6, .class_ 18), (0, u "java/util/Iterator"), (17, .class_ 37), (0, u "java/util/HashMap")] 11

def k39c0 : Code := { maxStack := 2, maxLocals := 2, code := jdk_142_method_1_code, exceptionTable := #[], attributes := #[] }
def k39m0 : Method := { name := "<init>", desc := "(Ljava/util/HashMap;)V", sig := { parameters := [(.object "java/util/HashMap")], returnType := none }, accessFlags := 0, code := some k39c0 }
/-- java/util/HashMap$EntryIterator -/
def k39 : Class := { plain "java/util/HashMap$EntryIterator" (some 37) with
  accessFlags := 48
  interfaces := #[38]
  cf := some (fileOf pool39 8 #[.nestHost 36] #[{ accessFlags := 0, nameIndex := 5, descriptorIndex := 6, attributes := #[] }] 48 2 #[17] #[])
  fields := #[]
  methods := #[k39m0]
  instanceTypes := #[(.object "java/util/HashMap$Node"), (.object "java/util/HashMap$Node"), .int, .int, (.object "java/util/HashMap")]
  staticTypes := #[]
  resolved := Array.replicate 49 none
  statics := none }

def pool40 : Array CpInfo := pool [(2, .class_ 4), (1, u "java/lang/Object"), (0, u "<init>"), (0, u "()V"), (12, .class_ 20), (0, u "java/util/Collections"), (63, u "r"), (0, u "Ljava/util/Random;"), (77, .nameAndType 164 165), (0, u "getClass"), (0, u "()Ljava/lang/Class;"), (0, .class_ 167), (0, u "java/util/Collections$UnmodifiableCollection"), (6, .class_ 175), (0, u "java/util/Collections$UnmodifiableSequencedCollection"), (6, .class_ 183), (0, u "java/util/Collections$UnmodifiableSet"), (6, .class_ 191), (0, u "java/util/Collections$UnmodifiableSequencedSet"), (6, .class_ 199), (0, u "java/util/Collections$UnmodifiableSortedSet"), (6, .class_ 207), (0, u "java/util/Collections$UnmodifiableNavigableSet"), (4, .class_ 213), (0, u "java/util/Collections$UnmodifiableList"), (1, .class_ 216), (0, u "java/util/Collections$UnmodifiableRandomAccessList"), (3, .interfaceMethodref 221 163), (0, .class_ 222), (0, u "java/util/Map"), (0, .class_ 224), (0, u "java/util/Collections$UnmodifiableMap"), (0, .methodref 223 226), (0, .nameAndType 5 227), (0, u "(Ljava/util/Map;)V"), (3, .class_ 232), (0, u "java/util/Collections$UnmodifiableSequencedMap"), (4, .class_ 238), (0, u "java/util/Collections$UnmodifiableSortedMap"), (6, .class_ 246), (0, u "java/util/Collections$UnmodifiableNavigableMap"), (3, .class_ 251), (0, u "java/util/Collections$SynchronizedCollection"), (4, .class_ 257), (0, u "java/util/Collections$SynchronizedSet"), (4, .class_ 263), (0, u "java/util/Collections$SynchronizedSortedSet"), (1, .class_ 266), (0, u "java/util/Collections$SynchronizedNavigableSet"), (1, .class_ 269), (0, u "java/util/Collections$SynchronizedRandomAccessList"), (1, .class_ 272), (0, u "java/util/Collections$SynchronizedList"), (5, .class_ 279), (0, u "java/util/Collections$SynchronizedMap"), (1, .class_ 282), (0, u "java/util/Collections$SynchronizedSortedMap"), (1, .class_ 285), (0, u "java/util/Collections$SynchronizedNavigableMap"), (1, .class_ 288), (0, u "java/util/Collections$CheckedCollection"), (11, .class_ 301), (0, u "java/util/Collections$CheckedQueue"), (3, .class_ 306), (0, u "java/util/Collections$CheckedSet"), (3, .class_ 311), (0, u "java/util/Collections$CheckedSortedSet"), (3, .class_ 316), (0, u "java/util/Collections$CheckedNavigableSet"), (3, .class_ 321), (0, u "java/util/Collections$CheckedRandomAccessList"), (3, .class_ 326), (0, u "java/util/Collections$CheckedList"), (1, .class_ 329), (0, u "java/util/Collections$CheckedMap"), (3, .class_ 334), (0, u "java/util/Collections$CheckedSortedMap"), (3, .class_ 339), (0, u "java/util/Collections$CheckedNavigableMap"), (4, .class_ 346), (1, u "java/util/Collections$EmptyIterator"), (3, .class_ 352), (1, u "java/util/Collections$EmptyListIterator"), (2, .class_ 357), (1, u "java/util/Collections$EmptyEnumeration"), (4, u "EMPTY_SET"), (0, u "Ljava/util/Set;"), (6, u "EMPTY_LIST"), (0, u "Ljava/util/List;"), (2, u "EMPTY_MAP"), (0, u "Ljava/util/Map;"), (4, .class_ 381), (0, u "java/util/Collections$SingletonSet"), (2, .class_ 385), (0, u "java/util/Collections$1"), (1, .class_ 388), (0, u "java/util/Collections$2"), (1, .class_ 391), (0, u "java/util/Collections$SingletonList"), (1, .class_ 394), (0, u "java/util/Collections$SingletonMap"), (22, .class_ 418), (0, u "java/util/Collections$CopiesList"), (4, .class_ 425), (1, u "java/util/Collections$ReverseComparator"), (8, .class_ 435), (0, u "java/util/Collections$ReverseComparator2"), (6, .class_ 443), (0, u "java/util/Collections$3"), (25, .class_ 470), (0, u "java/util/Collections$SetFromMap"), (2, .class_ 474), (0, u "java/util/Collections$SequencedSetFromMap"), (3, .class_ 479), (0, u "java/util/Collections$AsLIFOQueue"), (11, .class_ 492), (0, u "java/util/Collections$EmptySet"), (1, .class_ 495), (0, u "java/util/Collections$EmptyList"), (1, .class_ 498), (0, u "java/util/Collections$EmptyMap"), (1, u "BINARYSEARCH_THRESHOLD"), (0, u "I"), (2, u "REVERSE_THRESHOLD"), (1, u "SHUFFLE_THRESHOLD"), (1, u "FILL_THRESHOLD"), (1, u "ROTATE_THRESHOLD"), (1, u "COPY_THRESHOLD"), (1, u "REPLACEALL_THRESHOLD"), (1, u "INDEXOFSUBLIST_THRESHOLD"), (132, u "unmodifiableMap"), (0, u "(Ljava/util/Map;)Ljava/util/Map;"), (199, .class_ 851), (0, u "java/util/Collections$CheckedMap$CheckedEntrySet"), (0, .class_ 853), (0, u "java/util/Collections$CheckedMap$CheckedEntrySet$CheckedEntry"), (0, .class_ 855), (0, u "java/util/Collections$CheckedMap$CheckedEntrySet$1"), (0, .class_ 857), (0, u "java/util/Collections$CheckedList$1"), (0, .class_ 859), (0, u "java/util/Collections$CheckedCollection$1"), (0, .class_ 861), (0, u "java/util/Collections$UnmodifiableNavigableMap$EmptyNavigableMap"), (0, .class_ 863), (0, u "java/util/Collections$UnmodifiableMap$UnmodifiableEntrySet"), (0, .class_ 865), (0, u "java/util/Collections$UnmodifiableMap$UnmodifiableEntrySet$UnmodifiableEntry"), (0, .class_ 867), (0, u "java/util/Collections$UnmodifiableMap$UnmodifiableEntrySet$UnmodifiableEntrySetSpliterator"), (0, .class_ 869), (0, u "java/util/Collections$UnmodifiableMap$UnmodifiableEntrySet$1"), (0, .class_ 871), (0, u "java/util/Collections$UnmodifiableList$1"), (0, .class_ 873), (0, u "java/util/Collections$UnmodifiableNavigableSet$EmptyNavigableSet"), (0, .class_ 875), (0, u "java/util/Collections$UnmodifiableCollection$1")] 57

def k40m0 : Method := { name := "<init>", desc := "()V", sig := { parameters := [], returnType := none }, accessFlags := 2, code := none }
def k40c1 : Code := { maxStack := 3, maxLocals := 1, code := jdk_79_method_36_code, exceptionTable := #[], attributes := #[] }
def k40m1 : Method := { name := "unmodifiableMap", desc := "(Ljava/util/Map;)Ljava/util/Map;", sig := { parameters := [(.object "java/util/Map")], returnType := some (.object "java/util/Map") }, accessFlags := 9, code := some k40c1 }
/-- java/util/Collections -/
def k40 : Class := { plain "java/util/Collections" (some 0) with
  accessFlags := 33
  interfaces := #[]
  cf := some (fileOf pool40 19 #[.nestMembers #[478, 473, 469, 434, 423, 417, 393, 390, 380, 497, 494, 491, 355, 350, 344, 338, 333, 328, 850, 852, 854, 320, 325, 856, 315, 310, 305, 300, 287, 858, 284, 281, 278, 268, 271, 265, 262, 256, 250, 245, 860, 237, 231, 223, 862, 864, 866, 868, 215, 212, 870, 206, 872, 198, 190, 182, 174, 166, 874, 442, 387, 384]] #[{ accessFlags := 2, nameIndex := 5, descriptorIndex := 6, attributes := #[] }, { accessFlags := 9, nameIndex := 649, descriptorIndex := 650, attributes := #[] }] 33 2 #[] #[{ accessFlags := 26, nameIndex := 500, descriptorIndex := 501, attributes := #[] }, { accessFlags := 26, nameIndex := 504, descriptorIndex := 501, attributes := #[] }, { accessFlags := 26, nameIndex := 506, descriptorIndex := 501, attributes := #[] }, { accessFlags := 26, nameIndex := 508, descriptorIndex := 501, attributes := #[] }, { accessFlags := 26, nameIndex := 510, descriptorIndex := 501, attributes := #[] }, { accessFlags := 26, nameIndex := 512, descriptorIndex := 501, attributes := #[] }, { accessFlags := 26, nameIndex := 514, descriptorIndex := 501, attributes := #[] }, { accessFlags := 26, nameIndex := 516, descriptorIndex := 501, attributes := #[] }, { accessFlags := 10, nameIndex := 84, descriptorIndex := 85, attributes := #[] }, { accessFlags := 25, nameIndex := 362, descriptorIndex := 363, attributes := #[] }, { accessFlags := 25, nameIndex := 370, descriptorIndex := 371, attributes := #[] }, { accessFlags := 25, nameIndex := 374, descriptorIndex := 375, attributes := #[] }])
  fields := #[{ name := "BINARYSEARCH_THRESHOLD", type := .int, accessFlags := 26, slot := 0, constantValue := 0 }, { name := "REVERSE_THRESHOLD", type := .int, accessFlags := 26, slot := 1, constantValue := 0 }, { name := "SHUFFLE_THRESHOLD", type := .int, accessFlags := 26, slot := 2, constantValue := 0 }, { name := "FILL_THRESHOLD", type := .int, accessFlags := 26, slot := 3, constantValue := 0 }, { name := "ROTATE_THRESHOLD", type := .int, accessFlags := 26, slot := 4, constantValue := 0 }, { name := "COPY_THRESHOLD", type := .int, accessFlags := 26, slot := 5, constantValue := 0 }, { name := "REPLACEALL_THRESHOLD", type := .int, accessFlags := 26, slot := 6, constantValue := 0 }, { name := "INDEXOFSUBLIST_THRESHOLD", type := .int, accessFlags := 26, slot := 7, constantValue := 0 }, { name := "r", type := (.object "java/util/Random"), accessFlags := 10, slot := 8, constantValue := 0 }, { name := "EMPTY_SET", type := (.object "java/util/Set"), accessFlags := 25, slot := 9, constantValue := 0 }, { name := "EMPTY_LIST", type := (.object "java/util/List"), accessFlags := 25, slot := 10, constantValue := 0 }, { name := "EMPTY_MAP", type := (.object "java/util/Map"), accessFlags := 25, slot := 11, constantValue := 0 }]
  methods := #[k40m0, k40m1]
  instanceTypes := #[]
  staticTypes := #[.int, .int, .int, .int, .int, .int, .int, .int, (.object "java/util/Random"), (.object "java/util/Set"), (.object "java/util/List"), (.object "java/util/Map")]
  resolved := Array.replicate 933 none
  statics := none }

def pool41 : Array CpInfo := pool [(1, .methodref 2 3), (0, .class_ 4), (0, .nameAndType 5 6), (0, u "java/lang/Object"), (0, u "<init>"), (0, u "()V"), (3, .fieldref 11 12), (0, .class_ 13), (0, .nameAndType 14 15), (0, u "java/util/Collections$UnmodifiableMap"), (0, u "m"), (0, u "Ljava/util/Map;"), (1, .class_ 19), (1, u "java/util/Map"), (22, u "keySet"), (0, u "Ljava/util/Set;"), (4, .class_ 50), (1, u "java/util/Collections"), (4, u "entrySet"), (9, u "values"), (0, u "Ljava/util/Collection;"), (25, .class_ 93), (0, u "java/io/Serializable"), (0, u "serialVersionUID"), (0, u "J"), (8, u "(Ljava/util/Map;)V")] 70

def k41c0 : Code := { maxStack := 2, maxLocals := 2, code := jdk_2500_method_1_code, exceptionTable := #[], attributes := #[] }
def k41m0 : Method := { name := "<init>", desc := "(Ljava/util/Map;)V", sig := { parameters := [(.object "java/util/Map")], returnType := none }, accessFlags := 0, code := some k41c0 }
/-- java/util/Collections$UnmodifiableMap -/
def k41 : Class := { plain "java/util/Collections$UnmodifiableMap" (some 0) with
  accessFlags := 32
  interfaces := #[19, 2]
  cf := some (fileOf pool41 11 #[.nestHost 48] #[{ accessFlags := 0, nameIndex := 5, descriptorIndex := 104, attributes := #[] }] 32 2 #[17, 92] #[{ accessFlags := 26, nameIndex := 94, descriptorIndex := 95, attributes := #[] }, { accessFlags := 16, nameIndex := 14, descriptorIndex := 15, attributes := #[] }, { accessFlags := 130, nameIndex := 42, descriptorIndex := 43, attributes := #[] }, { accessFlags := 130, nameIndex := 55, descriptorIndex := 43, attributes := #[] }, { accessFlags := 130, nameIndex := 65, descriptorIndex := 66, attributes := #[] }])
  fields := #[{ name := "serialVersionUID", type := .long, accessFlags := 26, slot := 0, constantValue := 0 }, { name := "m", type := (.object "java/util/Map"), accessFlags := 16, slot := 0, constantValue := 0 }, { name := "keySet", type := (.object "java/util/Set"), accessFlags := 130, slot := 1, constantValue := 0 }, { name := "entrySet", type := (.object "java/util/Set"), accessFlags := 130, slot := 2, constantValue := 0 }, { name := "values", type := (.object "java/util/Collection"), accessFlags := 130, slot := 3, constantValue := 0 }]
  methods := #[k41m0]
  instanceTypes := #[(.object "java/util/Map"), (.object "java/util/Set"), (.object "java/util/Set"), (.object "java/util/Collection")]
  staticTypes := #[.long]
  resolved := Array.replicate 175 none
  mirror := some 6
  statics := none }

def pool42 : Array CpInfo := pool [(2, .class_ 4), (1, u "java/lang/Object"), (0, u "<init>"), (0, u "()V"), (17, .class_ 26), (1, u "jdk/internal/util/Preconditions"), (28, .class_ 56), (0, u "jdk/internal/util/Preconditions$4"), (57, .class_ 115), (0, u "jdk/internal/util/Preconditions$1"), (7, u "SIOOBE_FORMATTER"), (0, u "Ljava/util/function/BiFunction;"), (0, .class_ 126), (0, u "jdk/internal/util/Preconditions$2"), (3, u "AIOOBE_FORMATTER"), (0, .class_ 132), (0, u "jdk/internal/util/Preconditions$3"), (3, u "IOOBE_FORMATTER")] 57

def k42m0 : Method := { name := "<init>", desc := "()V", sig := { parameters := [], returnType := none }, accessFlags := 1, code := none }
/-- jdk/internal/util/Preconditions -/
def k42 : Class := { plain "jdk/internal/util/Preconditions" (some 0) with
  accessFlags := 33
  interfaces := #[]
  cf := some (fileOf pool42 24 #[.nestMembers #[55, 131, 125, 114]] #[{ accessFlags := 1, nameIndex := 5, descriptorIndex := 6, attributes := #[] }] 33 2 #[] #[{ accessFlags := 25, nameIndex := 123, descriptorIndex := 124, attributes := #[] }, { accessFlags := 25, nameIndex := 130, descriptorIndex := 124, attributes := #[] }, { accessFlags := 25, nameIndex := 136, descriptorIndex := 124, attributes := #[] }])
  fields := #[{ name := "SIOOBE_FORMATTER", type := (.object "java/util/function/BiFunction"), accessFlags := 25, slot := 0, constantValue := 0 }, { name := "AIOOBE_FORMATTER", type := (.object "java/util/function/BiFunction"), accessFlags := 25, slot := 1, constantValue := 0 }, { name := "IOOBE_FORMATTER", type := (.object "java/util/function/BiFunction"), accessFlags := 25, slot := 2, constantValue := 0 }]
  methods := #[k42m0]
  instanceTypes := #[]
  staticTypes := #[(.object "java/util/function/BiFunction"), (.object "java/util/function/BiFunction"), (.object "java/util/function/BiFunction")]
  resolved := Array.replicate 194 none
  statics := some 3 }

def pool43 : Array CpInfo := pool [(9, u "<init>"), (6, .class_ 18), (1, u "java/lang/Object"), (0, u "()V"), (1, .class_ 23), (1, u "jdk/internal/util/ArraysSupport"), (0, u "LOG2_ARRAY_LONG_INDEX_SCALE"), (0, u "I"), (2, u "U"), (0, u "Ljdk/internal/misc/Unsafe;"), (8, u "BIG_ENDIAN"), (0, u "Z"), (8, u "LOG2_BYTE_BIT_SIZE"), (4, u "LOG2_ARRAY_INT_INDEX_SCALE"), (54, u "JLA"), (0, u "Ljdk/internal/access/JavaLangAccess;"), (11, u "LOG2_ARRAY_BOOLEAN_INDEX_SCALE"), (9, u "LOG2_ARRAY_BYTE_INDEX_SCALE"), (5, u "LOG2_ARRAY_CHAR_INDEX_SCALE"), (5, u "LOG2_ARRAY_SHORT_INDEX_SCALE"), (18, u "LOG2_ARRAY_FLOAT_INDEX_SCALE"), (24, u "LOG2_ARRAY_DOUBLE_INDEX_SCALE"), (89, u "T_BOOLEAN"), (2, u "T_CHAR"), (1, u "T_FLOAT"), (1, u "T_DOUBLE"), (1, u "T_BYTE"), (1, u "T_SHORT"), (1, u "T_INT"), (1, u "T_LONG"), (1, u "SOFT_MAX_ARRAY_LENGTH")] 83

def k43m0 : Method := { name := "<init>", desc := "()V", sig := { parameters := [], returnType := none }, accessFlags := 2, code := none }
/-- jdk/internal/util/ArraysSupport -/
def k43 : Class := { plain "jdk/internal/util/ArraysSupport" (some 0) with
  accessFlags := 33
  interfaces := #[]
  cf := some (fileOf pool43 21 #[] #[{ accessFlags := 2, nameIndex := 9, descriptorIndex := 19, attributes := #[] }] 33 16 #[] #[{ accessFlags := 24, nameIndex := 28, descriptorIndex := 29, attributes := #[] }, { accessFlags := 26, nameIndex := 38, descriptorIndex := 39, attributes := #[] }, { accessFlags := 25, nameIndex := 121, descriptorIndex := 25, attributes := #[] }, { accessFlags := 25, nameIndex := 131, descriptorIndex := 25, attributes := #[] }, { accessFlags := 25, nameIndex := 137, descriptorIndex := 25, attributes := #[] }, { accessFlags := 25, nameIndex := 143, descriptorIndex := 25, attributes := #[] }, { accessFlags := 25, nameIndex := 53, descriptorIndex := 25, attributes := #[] }, { accessFlags := 25, nameIndex := 24, descriptorIndex := 25, attributes := #[] }, { accessFlags := 25, nameIndex := 162, descriptorIndex := 25, attributes := #[] }, { accessFlags := 25, nameIndex := 187, descriptorIndex := 25, attributes := #[] }, { accessFlags := 26, nameIndex := 48, descriptorIndex := 25, attributes := #[] }, { accessFlags := 25, nameIndex := 277, descriptorIndex := 25, attributes := #[] }, { accessFlags := 25, nameIndex := 280, descriptorIndex := 25, attributes := #[] }, { accessFlags := 25, nameIndex := 282, descriptorIndex := 25, attributes := #[] }, { accessFlags := 25, nameIndex := 284, descriptorIndex := 25, attributes := #[] }, { accessFlags := 25, nameIndex := 286, descriptorIndex := 25, attributes := #[] }, { accessFlags := 25, nameIndex := 288, descriptorIndex := 25, attributes := #[] }, { accessFlags := 25, nameIndex := 290, descriptorIndex := 25, attributes := #[] }, { accessFlags := 25, nameIndex := 292, descriptorIndex := 25, attributes := #[] }, { accessFlags := 26, nameIndex := 108, descriptorIndex := 109, attributes := #[] }, { accessFlags := 25, nameIndex := 294, descriptorIndex := 25, attributes := #[] }])
  fields := #[{ name := "U", type := (.object "jdk/internal/misc/Unsafe"), accessFlags := 24, slot := 0, constantValue := 0 }, { name := "BIG_ENDIAN", type := .boolean, accessFlags := 26, slot := 1, constantValue := 0 }, { name := "LOG2_ARRAY_BOOLEAN_INDEX_SCALE", type := .int, accessFlags := 25, slot := 2, constantValue := 0 }, { name := "LOG2_ARRAY_BYTE_INDEX_SCALE", type := .int, accessFlags := 25, slot := 3, constantValue := 0 }, { name := "LOG2_ARRAY_CHAR_INDEX_SCALE", type := .int, accessFlags := 25, slot := 4, constantValue := 0 }, { name := "LOG2_ARRAY_SHORT_INDEX_SCALE", type := .int, accessFlags := 25, slot := 5, constantValue := 0 }, { name := "LOG2_ARRAY_INT_INDEX_SCALE", type := .int, accessFlags := 25, slot := 6, constantValue := 0 }, { name := "LOG2_ARRAY_LONG_INDEX_SCALE", type := .int, accessFlags := 25, slot := 7, constantValue := 0 }, { name := "LOG2_ARRAY_FLOAT_INDEX_SCALE", type := .int, accessFlags := 25, slot := 8, constantValue := 0 }, { name := "LOG2_ARRAY_DOUBLE_INDEX_SCALE", type := .int, accessFlags := 25, slot := 9, constantValue := 0 }, { name := "LOG2_BYTE_BIT_SIZE", type := .int, accessFlags := 26, slot := 10, constantValue := 0 }, { name := "T_BOOLEAN", type := .int, accessFlags := 25, slot := 11, constantValue := 0 }, { name := "T_CHAR", type := .int, accessFlags := 25, slot := 12, constantValue := 0 }, { name := "T_FLOAT", type := .int, accessFlags := 25, slot := 13, constantValue := 0 }, { name := "T_DOUBLE", type := .int, accessFlags := 25, slot := 14, constantValue := 0 }, { name := "T_BYTE", type := .int, accessFlags := 25, slot := 15, constantValue := 0 }, { name := "T_SHORT", type := .int, accessFlags := 25, slot := 16, constantValue := 0 }, { name := "T_INT", type := .int, accessFlags := 25, slot := 17, constantValue := 0 }, { name := "T_LONG", type := .int, accessFlags := 25, slot := 18, constantValue := 0 }, { name := "JLA", type := (.object "jdk/internal/access/JavaLangAccess"), accessFlags := 26, slot := 19, constantValue := 0 }, { name := "SOFT_MAX_ARRAY_LENGTH", type := .int, accessFlags := 25, slot := 20, constantValue := 0 }]
  methods := #[k43m0]
  instanceTypes := #[]
  staticTypes := #[(.object "jdk/internal/misc/Unsafe"), .boolean, .int, .int, .int, .int, .int, .int, .int, .int, .int, .int, .int, .int, .int, .int, .int, .int, .int, (.object "jdk/internal/access/JavaLangAccess"), .int]
  resolved := Array.replicate 378 none
  statics := none }

def pool44 : Array CpInfo := pool [(1, u "java/lang/Class"), (0, .class_ 1), (0, u "java/lang/Object"), (0, .class_ 3)] 0

/-- java/lang/Class -/
def k44 : Class := { plain "java/lang/Class" (some 0) with
  accessFlags := 49
  interfaces := #[]
  cf := some (fileOf pool44 2 #[] #[] 49 4 #[] #[])
  fields := #[]
  methods := #[]
  instanceTypes := #[]
  staticTypes := #[]
  resolved := Array.replicate 5 none
  statics := none }

/-- the primitive byte -/
def k45 : Class := { plain "byte" none with kind := .primitive 'B', accessFlags := 0x411 }
/-- [B -/
def k46 : Class := { plain "[B" (some 0) with kind := .array 45 .byte, interfaces := #[16, 2], accessFlags := 1041 }

/-- the primitive int -/
def k47 : Class := { plain "int" none with kind := .primitive 'I', accessFlags := 0x411 }
/-- [I -/
def k48 : Class := { plain "[I" (some 0) with kind := .array 47 .int, interfaces := #[16, 2], accessFlags := 1041 }

/-- [Ljava/lang/Object; -/
def k49 : Class := { plain "[Ljava/lang/Object;" (some 0) with mirror := some 4, kind := .array 0 (.object "java/lang/Object"), interfaces := #[16, 2], accessFlags := 1041 }

def heap : Heap := #[{ cls := 7, slots := #[.long 0, .int 1, .null, .int 0, .null, .int 0, .int 0], vm := .statics 7 },
  { cls := 17, slots := #[.long 0, .int 0, .ref 9, .ref 10], vm := .statics 17 },
  { cls := 24, slots := #[.long 0, .int 0, .null, .ref 11, .ref 8, .null, .null, .null, .int 0, .int 1], vm := .statics 24 },
  { cls := 42, slots := #[.null, .null, .null], vm := .statics 42 },
  { cls := 44, slots := #[], vm := .mirror 49 },
  { cls := 44, slots := #[], vm := .mirror 33 },
  { cls := 44, slots := #[], vm := .mirror 41 },
  { cls := 49, slots := #[], vm := .none },
  { cls := 28, slots := #[.ref 7, .int 0], vm := .none },
  { cls := 49, slots := #[], vm := .none },
  { cls := 49, slots := #[], vm := .none },
  { cls := 0, slots := #[], vm := .none }]
def classes : Array Class := #[k0, k1, k2, k3, k4, k5, k6, k7, k8, k9, k10, k11, k12, k13, k14, k15, k16, k17, k18, k19, k20, k21, k22, k23, k24, k25, k26, k27, k28, k29, k30, k31, k32, k33, k34, k35, k36, k37, k38, k39, k40, k41, k42, k43, k44, k45, k46, k47, k48, k49]
def interned : List (Array UInt16 × Addr) := []
def slotsUsed : Nat := 26
def theMethod : MethodId := ⟨1, 1⟩
def args0 : Array Value := #[.long 1, .long 2, .long 0, .int 5, .int 16961]
def aboutOver (below : List Frame) : State where
  vm := { classes := classes, interned := interned.toArray }
  heap := heap
  slotsUsed := slotsUsed
  threads := #[{ frames := .invoking theMethod args0 :: below }]
def below0 : List Frame := [.native { method := ⟨0, 0⟩, args := #[] }]
def about1 : State := aboutOver below0
def p0 : Program := .bare "" "" ""
def e0 : Env := launch0.env 0 0 0
theorem w_frames : about1.frames = Frame.invoking theMethod args0 :: below0 := rfl
set_option maxRecDepth 65536 in
theorem w_args : argsFit about1.vm theMethod args0 = true := by decide +kernel
set_option maxRecDepth 65536 in
theorem w_heap : heapFits about1 = true := by decide +kernel
set_option maxRecDepth 65536 in
theorem w_runnable : about1.curStatus? = some .runnable := by decide +kernel
set_option maxRecDepth 65536 in
theorem w_alone : about1.alone = true := by decide +kernel
set_option maxRecDepth 65536 in
theorem w_named : about1.methodNamed? x = some theMethod := by decide +kernel
set_option maxRecDepth 65536 in
theorem w_hears : about1.hears theMethod below0 = true := by decide +kernel
set_option maxRecDepth 65536 in
theorem w_ripe : about1.ripe theMethod args0 below0 = true := by decide +kernel
theorem w_running : about1.status = .running := rfl
set_option maxRecDepth 65536 in
theorem w_room : about1.hasRoom e0.platform room_1 = true :=
  launch0.hasRoom_least _ room_1 (by decide +kernel) (by decide +kernel) (by decide +kernel) (by decide +kernel) (by decide +kernel) (by decide +kernel)
theorem allAtoms_all (ts : List Jvm.Cond) (a : Array Jvm.Value) (st : Jvm.State) : (allAtoms ts).before a st = ts.all (fun c => c.before a st) := by
  induction ts with
  | nil => rfl
  | cons c t ih =>
    show (Jvm.Cond.and c (allAtoms t)).before a st = _
    rw [Jvm.Cond.before_and, ih, List.all_cons]
def words1 : List Jvm.Cond := Jvm.Cond.code x code maxLocals ret :: tables_1
/-- a 'code' word, met by the world's own term for the bytes: nothing is compared byte by byte -/
theorem code_word {y : MethodName} {bytes : ByteArray} {mx : Nat} {rt : Option FieldType} {a : Array Value} {s : State} {m : MethodId} {meth : Method} {c : Code} (h1 : s.methodNamed? y = some m) (h2 : s.vm.method? m = some meth) (h3 : meth.code = some c) (h4 : c.code = bytes)
    (h5 : (c.maxLocals == mx && c.exceptionTable.isEmpty && decide (c.maxStack ≤ mostOperands) && decide (meth.sig.returnType = rt) && !meth.locks && decide (parseMethodDescriptor y.desc = some meth.sig)) = true) : (Jvm.Cond.code y bytes mx rt).before a s = true := by
  simp only [Bool.and_eq_true, beq_iff_eq, Bool.not_eq_true', decide_eq_true_eq] at h5
  obtain ⟨⟨⟨⟨⟨g1, g2⟩, g3⟩, g4⟩, g5⟩, g6⟩ := h5
  simp [Cond.before, Cond.holds, Cond.value, h1, h2, h3, h4, g1, g2, g3, g4, g5, g6]
def isCode : Jvm.Cond → Bool
  | .code _ _ _ _ => true
  | _ => false
theorem all_split {L : List Jvm.Cond} {P : Jvm.Cond → Bool} (h1 : L.all (fun c => isCode c || P c) = true) (h2 : ∀ c ∈ L.filter isCode, P c = true) : L.all P = true := by
  refine List.all_eq_true.mpr fun c hc => ?_
  have h := List.all_eq_true.mp h1 c hc
  rcases Bool.eq_false_or_eq_true (isCode c) with hi | hi
  · exact h2 c (List.mem_filter.mpr ⟨hc, hi⟩)
  · simpa [hi] using h
set_option maxRecDepth 65536 in
theorem w_c0 : (Jvm.Cond.code x code maxLocals ret).before args0 about1 = true := code_word (m := ⟨1, 1⟩) (meth := k1m1) (c := k1c1) (by decide +kernel) rfl rfl rfl (by decide +kernel)
set_option maxRecDepth 65536 in
theorem w_c1 : (Jvm.Cond.code ({ cls := "java/lang/String", name := "valueOf", desc := "(C)Ljava/lang/String;" } : Jvm.MethodName) jdk_42_method_139_code (1 : Nat) (Option.some (Jvm.ClassFile.FieldType.object "java/lang/String"))).before args0 about1 = true := code_word (m := ⟨7, 1⟩) (meth := k7m1) (c := k7c1) (by decide +kernel) rfl rfl rfl (by decide +kernel)
set_option maxRecDepth 65536 in
theorem w_c2 : (Jvm.Cond.code ({ cls := "java/lang/StringLatin1", name := "canEncode", desc := "(C)Z" } : Jvm.MethodName) jdk_43_method_3_code (1 : Nat) (Option.some Jvm.ClassFile.FieldType.boolean)).before args0 about1 = true := code_word (m := ⟨8, 1⟩) (meth := k8m1) (c := k8c1) (by decide +kernel) rfl rfl rfl (by decide +kernel)
set_option maxRecDepth 65536 in
theorem w_c3 : (Jvm.Cond.code ({ cls := "java/lang/StringLatin1", name := "toBytes", desc := "(C)[B" } : Jvm.MethodName) jdk_43_method_46_code (1 : Nat) (Option.some (Jvm.ClassFile.FieldType.array Jvm.ClassFile.FieldType.byte))).before args0 about1 = true := code_word (m := ⟨8, 2⟩) (meth := k8m2) (c := k8c2) (by decide +kernel) rfl rfl rfl (by decide +kernel)
set_option maxRecDepth 65536 in
theorem w_c4 : (Jvm.Cond.code ({ cls := "java/lang/String", name := "<init>", desc := "([BB)V" } : Jvm.MethodName) jdk_42_method_151_code (3 : Nat) (Option.none : Option Jvm.ClassFile.FieldType)).before args0 about1 = true := code_word (m := ⟨7, 2⟩) (meth := k7m2) (c := k7c2) (by decide +kernel) rfl rfl rfl (by decide +kernel)
set_option maxRecDepth 65536 in
theorem w_c5 : (Jvm.Cond.code ({ cls := "java/lang/Object", name := "<init>", desc := "()V" } : Jvm.MethodName) object_method_1_code (1 : Nat) (Option.none : Option Jvm.ClassFile.FieldType)).before args0 about1 = true := code_word (m := ⟨0, 0⟩) (meth := k0m0) (c := k0c0) (by decide +kernel) rfl rfl rfl (by decide +kernel)
set_option maxRecDepth 65536 in
theorem w_c6 : (Jvm.Cond.code ({ cls := "java/util/ArrayList", name := "<init>", desc := "()V" } : Jvm.MethodName) jdk_38_method_2_code (1 : Nat) (Option.none : Option Jvm.ClassFile.FieldType)).before args0 about1 = true := code_word (m := ⟨17, 0⟩) (meth := k17m0) (c := k17c0) (by decide +kernel) rfl rfl rfl (by decide +kernel)
set_option maxRecDepth 65536 in
theorem w_c7 : (Jvm.Cond.code ({ cls := "java/util/AbstractList", name := "<init>", desc := "()V" } : Jvm.MethodName) jdk_39_method_1_code (1 : Nat) (Option.none : Option Jvm.ClassFile.FieldType)).before args0 about1 = true := code_word (m := ⟨14, 0⟩) (meth := k14m0) (c := k14c0) (by decide +kernel) rfl rfl rfl (by decide +kernel)
set_option maxRecDepth 65536 in
theorem w_c8 : (Jvm.Cond.code ({ cls := "java/util/AbstractCollection", name := "<init>", desc := "()V" } : Jvm.MethodName) jdk_22_method_1_code (1 : Nat) (Option.none : Option Jvm.ClassFile.FieldType)).before args0 about1 = true := code_word (m := ⟨11, 0⟩) (meth := k11m0) (c := k11c0) (by decide +kernel) rfl rfl rfl (by decide +kernel)
set_option maxRecDepth 65536 in
theorem w_c9 : (Jvm.Cond.code ({ cls := "java/util/ArrayList", name := "add", desc := "(Ljava/lang/Object;)Z" } : Jvm.MethodName) jdk_38_method_25_code (2 : Nat) (Option.some Jvm.ClassFile.FieldType.boolean)).before args0 about1 = true := code_word (m := ⟨17, 6⟩) (meth := k17m6) (c := k17c6) (by decide +kernel) rfl rfl rfl (by decide +kernel)
set_option maxRecDepth 65536 in
theorem w_c10 : (Jvm.Cond.code ({ cls := "java/util/ArrayList", name := "add", desc := "(Ljava/lang/Object;[Ljava/lang/Object;I)V" } : Jvm.MethodName) jdk_38_method_24_code (4 : Nat) (Option.none : Option Jvm.ClassFile.FieldType)).before args0 about1 = true := code_word (m := ⟨17, 5⟩) (meth := k17m5) (c := k17c5) (by decide +kernel) rfl rfl rfl (by decide +kernel)
set_option maxRecDepth 65536 in
theorem w_c11 : (Jvm.Cond.code ({ cls := "java/util/ArrayList", name := "grow", desc := "()[Ljava/lang/Object;" } : Jvm.MethodName) jdk_38_method_7_code (1 : Nat) (Option.some (Jvm.ClassFile.FieldType.array (Jvm.ClassFile.FieldType.object "java/lang/Object")))).before args0 about1 = true := code_word (m := ⟨17, 2⟩) (meth := k17m2) (c := k17c2) (by decide +kernel) rfl rfl rfl (by decide +kernel)
set_option maxRecDepth 65536 in
theorem w_c12 : (Jvm.Cond.code ({ cls := "java/util/ArrayList", name := "grow", desc := "(I)[Ljava/lang/Object;" } : Jvm.MethodName) jdk_38_method_6_code (4 : Nat) (Option.some (Jvm.ClassFile.FieldType.array (Jvm.ClassFile.FieldType.object "java/lang/Object")))).before args0 about1 = true := code_word (m := ⟨17, 1⟩) (meth := k17m1) (c := k17c1) (by decide +kernel) rfl rfl rfl (by decide +kernel)
set_option maxRecDepth 65536 in
theorem w_c13 : (Jvm.Cond.code ({ cls := "java/lang/Math", name := "max", desc := "(II)I" } : Jvm.MethodName) jdk_29_method_65_code (2 : Nat) (Option.some Jvm.ClassFile.FieldType.int)).before args0 about1 = true := code_word (m := ⟨18, 1⟩) (meth := k18m1) (c := k18c1) (by decide +kernel) rfl rfl rfl (by decide +kernel)
set_option maxRecDepth 65536 in
theorem w_c14 : (Jvm.Cond.code ({ cls := "java/util/HashMap", name := "<init>", desc := "()V" } : Jvm.MethodName) jdk_69_method_7_code (1 : Nat) (Option.none : Option Jvm.ClassFile.FieldType)).before args0 about1 = true := code_word (m := ⟨21, 0⟩) (meth := k21m0) (c := k21c0) (by decide +kernel) rfl rfl rfl (by decide +kernel)
set_option maxRecDepth 65536 in
theorem w_c15 : (Jvm.Cond.code ({ cls := "java/util/AbstractMap", name := "<init>", desc := "()V" } : Jvm.MethodName) jdk_71_method_1_code (1 : Nat) (Option.none : Option Jvm.ClassFile.FieldType)).before args0 about1 = true := code_word (m := ⟨20, 0⟩) (meth := k20m0) (c := k20c0) (by decide +kernel) rfl rfl rfl (by decide +kernel)
set_option maxRecDepth 65536 in
theorem w_c16 : (Jvm.Cond.code ({ cls := "com/example/ratify/ratify/recovery/RecoveryReport", name := "<init>", desc := "(JJJLjava/util/List;Ljava/util/List;Ljava/util/List;Ljava/util/Map;Ljava/util/List;Ljava/util/List;Ljava/util/List;)V" } : Jvm.MethodName) prog_47_method_1_code (17 : Nat) (Option.none : Option Jvm.ClassFile.FieldType)).before args0 about1 = true := code_word (m := ⟨23, 0⟩) (meth := k23m0) (c := k23c0) (by decide +kernel) rfl rfl rfl (by decide +kernel)
set_option maxRecDepth 65536 in
theorem w_c17 : (Jvm.Cond.code ({ cls := "java/lang/Record", name := "<init>", desc := "()V" } : Jvm.MethodName) jdk_30_method_1_code (1 : Nat) (Option.none : Option Jvm.ClassFile.FieldType)).before args0 about1 = true := code_word (m := ⟨22, 0⟩) (meth := k22m0) (c := k22c0) (by decide +kernel) rfl rfl rfl (by decide +kernel)
set_option maxRecDepth 65536 in
theorem w_c18 : (Jvm.Cond.code ({ cls := "java/util/List", name := "copyOf", desc := "(Ljava/util/Collection;)Ljava/util/List;" } : Jvm.MethodName) jdk_40_method_48_code (1 : Nat) (Option.some (Jvm.ClassFile.FieldType.object "java/util/List"))).before args0 about1 = true := code_word (m := ⟨13, 4⟩) (meth := k13m4) (c := k13c4) (by decide +kernel) rfl rfl rfl (by decide +kernel)
set_option maxRecDepth 65536 in
theorem w_c19 : (Jvm.Cond.code ({ cls := "java/util/ImmutableCollections", name := "listCopy", desc := "(Ljava/util/Collection;)Ljava/util/List;" } : Jvm.MethodName) jdk_56_method_3_code (2 : Nat) (Option.some (Jvm.ClassFile.FieldType.object "java/util/List"))).before args0 about1 = true := code_word (m := ⟨24, 1⟩) (meth := k24m1) (c := k24c1) (by decide +kernel) rfl rfl rfl (by decide +kernel)
set_option maxRecDepth 65536 in
theorem w_c20 : (Jvm.Cond.code ({ cls := "java/util/ArrayList", name := "isEmpty", desc := "()Z" } : Jvm.MethodName) jdk_38_method_9_code (1 : Nat) (Option.some Jvm.ClassFile.FieldType.boolean)).before args0 about1 = true := code_word (m := ⟨17, 3⟩) (meth := k17m3) (c := k17c3) (by decide +kernel) rfl rfl rfl (by decide +kernel)
set_option maxRecDepth 65536 in
theorem w_c21 : (Jvm.Cond.code ({ cls := "java/util/ArrayList", name := "toArray", desc := "()[Ljava/lang/Object;" } : Jvm.MethodName) jdk_38_method_16_code (1 : Nat) (Option.some (Jvm.ClassFile.FieldType.array (Jvm.ClassFile.FieldType.object "java/lang/Object")))).before args0 about1 = true := code_word (m := ⟨17, 4⟩) (meth := k17m4) (c := k17c4) (by decide +kernel) rfl rfl rfl (by decide +kernel)
set_option maxRecDepth 65536 in
theorem w_c22 : (Jvm.Cond.code ({ cls := "java/util/Arrays", name := "copyOf", desc := "([Ljava/lang/Object;I)[Ljava/lang/Object;" } : Jvm.MethodName) jdk_65_method_119_code (2 : Nat) (Option.some (Jvm.ClassFile.FieldType.array (Jvm.ClassFile.FieldType.object "java/lang/Object")))).before args0 about1 = true := code_word (m := ⟨29, 1⟩) (meth := k29m1) (c := k29c1) (by decide +kernel) rfl rfl rfl (by decide +kernel)
set_option maxRecDepth 65536 in
theorem w_c23 : (Jvm.Cond.code ({ cls := "java/util/Arrays", name := "copyOf", desc := "([Ljava/lang/Object;ILjava/lang/Class;)[Ljava/lang/Object;" } : Jvm.MethodName) jdk_65_method_120_code (4 : Nat) (Option.some (Jvm.ClassFile.FieldType.array (Jvm.ClassFile.FieldType.object "java/lang/Object")))).before args0 about1 = true := code_word (m := ⟨29, 2⟩) (meth := k29m2) (c := k29c2) (by decide +kernel) rfl rfl rfl (by decide +kernel)
set_option maxRecDepth 65536 in
theorem w_c24 : (Jvm.Cond.code ({ cls := "java/lang/Math", name := "min", desc := "(II)I" } : Jvm.MethodName) jdk_29_method_69_code (2 : Nat) (Option.some Jvm.ClassFile.FieldType.int)).before args0 about1 = true := code_word (m := ⟨18, 2⟩) (meth := k18m2) (c := k18c2) (by decide +kernel) rfl rfl rfl (by decide +kernel)
set_option maxRecDepth 65536 in
theorem w_c25 : (Jvm.Cond.code ({ cls := "java/util/List", name := "of", desc := "([Ljava/lang/Object;)Ljava/util/List;" } : Jvm.MethodName) jdk_40_method_47_code (2 : Nat) (Option.some (Jvm.ClassFile.FieldType.object "java/util/List"))).before args0 about1 = true := code_word (m := ⟨13, 3⟩) (meth := k13m3) (c := k13c3) (by decide +kernel) rfl rfl rfl (by decide +kernel)
set_option maxRecDepth 65536 in
theorem w_c26 : (Jvm.Cond.code ({ cls := "java/util/ImmutableCollections$List12", name := "<init>", desc := "(Ljava/lang/Object;Ljava/lang/Object;)V" } : Jvm.MethodName) jdk_44_method_2_code (3 : Nat) (Option.none : Option Jvm.ClassFile.FieldType)).before args0 about1 = true := code_word (m := ⟨27, 1⟩) (meth := k27m1) (c := k27c1) (by decide +kernel) rfl rfl rfl (by decide +kernel)
set_option maxRecDepth 65536 in
theorem w_c27 : (Jvm.Cond.code ({ cls := "java/util/ImmutableCollections$AbstractImmutableList", name := "<init>", desc := "()V" } : Jvm.MethodName) jdk_46_method_1_code (1 : Nat) (Option.none : Option Jvm.ClassFile.FieldType)).before args0 about1 = true := code_word (m := ⟨26, 0⟩) (meth := k26m0) (c := k26c0) (by decide +kernel) rfl rfl rfl (by decide +kernel)
set_option maxRecDepth 65536 in
theorem w_c28 : (Jvm.Cond.code ({ cls := "java/util/ImmutableCollections$AbstractImmutableCollection", name := "<init>", desc := "()V" } : Jvm.MethodName) jdk_47_method_1_code (1 : Nat) (Option.none : Option Jvm.ClassFile.FieldType)).before args0 about1 = true := code_word (m := ⟨25, 0⟩) (meth := k25m0) (c := k25c0) (by decide +kernel) rfl rfl rfl (by decide +kernel)
set_option maxRecDepth 65536 in
theorem w_c29 : (Jvm.Cond.code ({ cls := "java/util/Objects", name := "requireNonNull", desc := "(Ljava/lang/Object;)Ljava/lang/Object;" } : Jvm.MethodName) jdk_31_method_10_code (1 : Nat) (Option.some (Jvm.ClassFile.FieldType.object "java/lang/Object"))).before args0 about1 = true := code_word (m := ⟨31, 1⟩) (meth := k31m1) (c := k31c1) (by decide +kernel) rfl rfl rfl (by decide +kernel)
set_option maxRecDepth 65536 in
theorem w_c30 : (Jvm.Cond.code ({ cls := "java/util/List", name := "of", desc := "()Ljava/util/List;" } : Jvm.MethodName) jdk_40_method_36_code (0 : Nat) (Option.some (Jvm.ClassFile.FieldType.object "java/util/List"))).before args0 about1 = true := code_word (m := ⟨13, 2⟩) (meth := k13m2) (c := k13c2) (by decide +kernel) rfl rfl rfl (by decide +kernel)
set_option maxRecDepth 65536 in
theorem w_c31 : (Jvm.Cond.code ({ cls := "java/util/LinkedHashMap", name := "<init>", desc := "()V" } : Jvm.MethodName) jdk_94_method_16_code (1 : Nat) (Option.none : Option Jvm.ClassFile.FieldType)).before args0 about1 = true := code_word (m := ⟨33, 0⟩) (meth := k33m0) (c := k33c0) (by decide +kernel) rfl rfl rfl (by decide +kernel)
set_option maxRecDepth 65536 in
theorem w_c32 : (Jvm.Cond.code ({ cls := "java/util/HashMap", name := "entrySet", desc := "()Ljava/util/Set;" } : Jvm.MethodName) jdk_69_method_29_code (2 : Nat) (Option.some (Jvm.ClassFile.FieldType.object "java/util/Set"))).before args0 about1 = true := code_word (m := ⟨21, 1⟩) (meth := k21m1) (c := k21c1) (by decide +kernel) rfl rfl rfl (by decide +kernel)
set_option maxRecDepth 65536 in
theorem w_c33 : (Jvm.Cond.code ({ cls := "java/util/HashMap$EntrySet", name := "<init>", desc := "(Ljava/util/HashMap;)V" } : Jvm.MethodName) jdk_111_method_1_code (2 : Nat) (Option.none : Option Jvm.ClassFile.FieldType)).before args0 about1 = true := code_word (m := ⟨36, 0⟩) (meth := k36m0) (c := k36c0) (by decide +kernel) rfl rfl rfl (by decide +kernel)
set_option maxRecDepth 65536 in
theorem w_c34 : (Jvm.Cond.code ({ cls := "java/util/AbstractSet", name := "<init>", desc := "()V" } : Jvm.MethodName) jdk_91_method_1_code (1 : Nat) (Option.none : Option Jvm.ClassFile.FieldType)).before args0 about1 = true := code_word (m := ⟨35, 0⟩) (meth := k35m0) (c := k35c0) (by decide +kernel) rfl rfl rfl (by decide +kernel)
set_option maxRecDepth 65536 in
theorem w_c35 : (Jvm.Cond.code ({ cls := "java/util/HashMap$EntrySet", name := "iterator", desc := "()Ljava/util/Iterator;" } : Jvm.MethodName) jdk_111_method_4_code (1 : Nat) (Option.some (Jvm.ClassFile.FieldType.object "java/util/Iterator"))).before args0 about1 = true := code_word (m := ⟨36, 1⟩) (meth := k36m1) (c := k36c1) (by decide +kernel) rfl rfl rfl (by decide +kernel)
set_option maxRecDepth 65536 in
theorem w_c36 : (Jvm.Cond.code ({ cls := "java/util/HashMap$EntryIterator", name := "<init>", desc := "(Ljava/util/HashMap;)V" } : Jvm.MethodName) jdk_142_method_1_code (2 : Nat) (Option.none : Option Jvm.ClassFile.FieldType)).before args0 about1 = true := code_word (m := ⟨39, 0⟩) (meth := k39m0) (c := k39c0) (by decide +kernel) rfl rfl rfl (by decide +kernel)
set_option maxRecDepth 65536 in
theorem w_c37 : (Jvm.Cond.code ({ cls := "java/util/HashMap$HashIterator", name := "<init>", desc := "(Ljava/util/HashMap;)V" } : Jvm.MethodName) jdk_99_method_1_code (3 : Nat) (Option.none : Option Jvm.ClassFile.FieldType)).before args0 about1 = true := code_word (m := ⟨37, 0⟩) (meth := k37m0) (c := k37c0) (by decide +kernel) rfl rfl rfl (by decide +kernel)
set_option maxRecDepth 65536 in
theorem w_c38 : (Jvm.Cond.code ({ cls := "java/util/HashMap$HashIterator", name := "hasNext", desc := "()Z" } : Jvm.MethodName) jdk_99_method_2_code (1 : Nat) (Option.some Jvm.ClassFile.FieldType.boolean)).before args0 about1 = true := code_word (m := ⟨37, 1⟩) (meth := k37m1) (c := k37c1) (by decide +kernel) rfl rfl rfl (by decide +kernel)
set_option maxRecDepth 65536 in
theorem w_c39 : (Jvm.Cond.code ({ cls := "java/util/Collections", name := "unmodifiableMap", desc := "(Ljava/util/Map;)Ljava/util/Map;" } : Jvm.MethodName) jdk_79_method_36_code (1 : Nat) (Option.some (Jvm.ClassFile.FieldType.object "java/util/Map"))).before args0 about1 = true := code_word (m := ⟨40, 1⟩) (meth := k40m1) (c := k40c1) (by decide +kernel) rfl rfl rfl (by decide +kernel)
set_option maxRecDepth 65536 in
theorem w_c40 : (Jvm.Cond.code ({ cls := "java/util/Collections$UnmodifiableMap", name := "<init>", desc := "(Ljava/util/Map;)V" } : Jvm.MethodName) jdk_2500_method_1_code (2 : Nat) (Option.none : Option Jvm.ClassFile.FieldType)).before args0 about1 = true := code_word (m := ⟨41, 0⟩) (meth := k41m0) (c := k41c0) (by decide +kernel) rfl rfl rfl (by decide +kernel)
set_option maxRecDepth 65536 in
theorem w_c41 : (Jvm.Cond.code ({ cls := "com/example/ratify/ratify/recovery/RecoveryReport", name := "complete", desc := "()Z" } : Jvm.MethodName) prog_47_method_2_code (1 : Nat) (Option.some Jvm.ClassFile.FieldType.boolean)).before args0 about1 = true := code_word (m := ⟨23, 1⟩) (meth := k23m1) (c := k23c1) (by decide +kernel) rfl rfl rfl (by decide +kernel)
set_option maxRecDepth 65536 in
theorem w_c42 : (Jvm.Cond.code ({ cls := "java/util/ImmutableCollections$List12", name := "<init>", desc := "(Ljava/lang/Object;)V" } : Jvm.MethodName) jdk_44_method_1_code (2 : Nat) (Option.none : Option Jvm.ClassFile.FieldType)).before args0 about1 = true := code_word (m := ⟨27, 0⟩) (meth := k27m0) (c := k27c0) (by decide +kernel) rfl rfl rfl (by decide +kernel)
set_option maxRecDepth 65536 in
theorem w_c43 : (Jvm.Cond.code ({ cls := "java/util/ImmutableCollections", name := "listFromArray", desc := "([Ljava/lang/Object;)Ljava/util/List;" } : Jvm.MethodName) jdk_56_method_4_code (3 : Nat) (Option.some (Jvm.ClassFile.FieldType.object "java/util/List"))).before args0 about1 = true := code_word (m := ⟨24, 2⟩) (meth := k24m2) (c := k24c2) (by decide +kernel) rfl rfl rfl (by decide +kernel)
set_option maxRecDepth 65536 in
theorem w_c44 : (Jvm.Cond.code ({ cls := "java/util/ImmutableCollections$ListN", name := "<init>", desc := "([Ljava/lang/Object;Z)V" } : Jvm.MethodName) jdk_45_method_1_code (3 : Nat) (Option.none : Option Jvm.ClassFile.FieldType)).before args0 about1 = true := code_word (m := ⟨28, 0⟩) (meth := k28m0) (c := k28c0) (by decide +kernel) rfl rfl rfl (by decide +kernel)
set_option maxRecDepth 65536 in
theorem w_c45 : (Jvm.Cond.code ({ cls := "java/util/ImmutableCollections$List12", name := "isEmpty", desc := "()Z" } : Jvm.MethodName) jdk_44_method_4_code (1 : Nat) (Option.some Jvm.ClassFile.FieldType.boolean)).before args0 about1 = true := code_word (m := ⟨27, 2⟩) (meth := k27m2) (c := k27c2) (by decide +kernel) rfl rfl rfl (by decide +kernel)
set_option maxRecDepth 65536 in
theorem w_c46 : (Jvm.Cond.code ({ cls := "java/util/ImmutableCollections$ListN", name := "isEmpty", desc := "()Z" } : Jvm.MethodName) jdk_45_method_2_code (1 : Nat) (Option.some Jvm.ClassFile.FieldType.boolean)).before args0 about1 = true := code_word (m := ⟨28, 1⟩) (meth := k28m1) (c := k28c1) (by decide +kernel) rfl rfl rfl (by decide +kernel)
def codes1 : List Jvm.Cond := [Jvm.Cond.code x code maxLocals ret, Jvm.Cond.code ({ cls := "java/lang/String", name := "valueOf", desc := "(C)Ljava/lang/String;" } : Jvm.MethodName) jdk_42_method_139_code (1 : Nat) (Option.some (Jvm.ClassFile.FieldType.object "java/lang/String")), Jvm.Cond.code ({ cls := "java/lang/StringLatin1", name := "canEncode", desc := "(C)Z" } : Jvm.MethodName) jdk_43_method_3_code (1 : Nat) (Option.some Jvm.ClassFile.FieldType.boolean), Jvm.Cond.code ({ cls := "java/lang/StringLatin1", name := "toBytes", desc := "(C)[B" } : Jvm.MethodName) jdk_43_method_46_code (1 : Nat) (Option.some (Jvm.ClassFile.FieldType.array Jvm.ClassFile.FieldType.byte)), Jvm.Cond.code ({ cls := "java/lang/String", name := "<init>", desc := "([BB)V" } : Jvm.MethodName) jdk_42_method_151_code (3 : Nat) (Option.none : Option Jvm.ClassFile.FieldType), Jvm.Cond.code ({ cls := "java/lang/Object", name := "<init>", desc := "()V" } : Jvm.MethodName) object_method_1_code (1 : Nat) (Option.none : Option Jvm.ClassFile.FieldType), Jvm.Cond.code ({ cls := "java/util/ArrayList", name := "<init>", desc := "()V" } : Jvm.MethodName) jdk_38_method_2_code (1 : Nat) (Option.none : Option Jvm.ClassFile.FieldType), Jvm.Cond.code ({ cls := "java/util/AbstractList", name := "<init>", desc := "()V" } : Jvm.MethodName) jdk_39_method_1_code (1 : Nat) (Option.none : Option Jvm.ClassFile.FieldType), Jvm.Cond.code ({ cls := "java/util/AbstractCollection", name := "<init>", desc := "()V" } : Jvm.MethodName) jdk_22_method_1_code (1 : Nat) (Option.none : Option Jvm.ClassFile.FieldType), Jvm.Cond.code ({ cls := "java/util/ArrayList", name := "add", desc := "(Ljava/lang/Object;)Z" } : Jvm.MethodName) jdk_38_method_25_code (2 : Nat) (Option.some Jvm.ClassFile.FieldType.boolean), Jvm.Cond.code ({ cls := "java/util/ArrayList", name := "add", desc := "(Ljava/lang/Object;[Ljava/lang/Object;I)V" } : Jvm.MethodName) jdk_38_method_24_code (4 : Nat) (Option.none : Option Jvm.ClassFile.FieldType), Jvm.Cond.code ({ cls := "java/util/ArrayList", name := "grow", desc := "()[Ljava/lang/Object;" } : Jvm.MethodName) jdk_38_method_7_code (1 : Nat) (Option.some (Jvm.ClassFile.FieldType.array (Jvm.ClassFile.FieldType.object "java/lang/Object"))), Jvm.Cond.code ({ cls := "java/util/ArrayList", name := "grow", desc := "(I)[Ljava/lang/Object;" } : Jvm.MethodName) jdk_38_method_6_code (4 : Nat) (Option.some (Jvm.ClassFile.FieldType.array (Jvm.ClassFile.FieldType.object "java/lang/Object"))), Jvm.Cond.code ({ cls := "java/lang/Math", name := "max", desc := "(II)I" } : Jvm.MethodName) jdk_29_method_65_code (2 : Nat) (Option.some Jvm.ClassFile.FieldType.int), Jvm.Cond.code ({ cls := "java/util/HashMap", name := "<init>", desc := "()V" } : Jvm.MethodName) jdk_69_method_7_code (1 : Nat) (Option.none : Option Jvm.ClassFile.FieldType), Jvm.Cond.code ({ cls := "java/util/AbstractMap", name := "<init>", desc := "()V" } : Jvm.MethodName) jdk_71_method_1_code (1 : Nat) (Option.none : Option Jvm.ClassFile.FieldType), Jvm.Cond.code ({ cls := "com/example/ratify/ratify/recovery/RecoveryReport", name := "<init>", desc := "(JJJLjava/util/List;Ljava/util/List;Ljava/util/List;Ljava/util/Map;Ljava/util/List;Ljava/util/List;Ljava/util/List;)V" } : Jvm.MethodName) prog_47_method_1_code (17 : Nat) (Option.none : Option Jvm.ClassFile.FieldType), Jvm.Cond.code ({ cls := "java/lang/Record", name := "<init>", desc := "()V" } : Jvm.MethodName) jdk_30_method_1_code (1 : Nat) (Option.none : Option Jvm.ClassFile.FieldType), Jvm.Cond.code ({ cls := "java/util/List", name := "copyOf", desc := "(Ljava/util/Collection;)Ljava/util/List;" } : Jvm.MethodName) jdk_40_method_48_code (1 : Nat) (Option.some (Jvm.ClassFile.FieldType.object "java/util/List")), Jvm.Cond.code ({ cls := "java/util/ImmutableCollections", name := "listCopy", desc := "(Ljava/util/Collection;)Ljava/util/List;" } : Jvm.MethodName) jdk_56_method_3_code (2 : Nat) (Option.some (Jvm.ClassFile.FieldType.object "java/util/List")), Jvm.Cond.code ({ cls := "java/util/ArrayList", name := "isEmpty", desc := "()Z" } : Jvm.MethodName) jdk_38_method_9_code (1 : Nat) (Option.some Jvm.ClassFile.FieldType.boolean), Jvm.Cond.code ({ cls := "java/util/ArrayList", name := "toArray", desc := "()[Ljava/lang/Object;" } : Jvm.MethodName) jdk_38_method_16_code (1 : Nat) (Option.some (Jvm.ClassFile.FieldType.array (Jvm.ClassFile.FieldType.object "java/lang/Object"))), Jvm.Cond.code ({ cls := "java/util/Arrays", name := "copyOf", desc := "([Ljava/lang/Object;I)[Ljava/lang/Object;" } : Jvm.MethodName) jdk_65_method_119_code (2 : Nat) (Option.some (Jvm.ClassFile.FieldType.array (Jvm.ClassFile.FieldType.object "java/lang/Object"))), Jvm.Cond.code ({ cls := "java/util/Arrays", name := "copyOf", desc := "([Ljava/lang/Object;ILjava/lang/Class;)[Ljava/lang/Object;" } : Jvm.MethodName) jdk_65_method_120_code (4 : Nat) (Option.some (Jvm.ClassFile.FieldType.array (Jvm.ClassFile.FieldType.object "java/lang/Object"))), Jvm.Cond.code ({ cls := "java/lang/Math", name := "min", desc := "(II)I" } : Jvm.MethodName) jdk_29_method_69_code (2 : Nat) (Option.some Jvm.ClassFile.FieldType.int), Jvm.Cond.code ({ cls := "java/util/List", name := "of", desc := "([Ljava/lang/Object;)Ljava/util/List;" } : Jvm.MethodName) jdk_40_method_47_code (2 : Nat) (Option.some (Jvm.ClassFile.FieldType.object "java/util/List")), Jvm.Cond.code ({ cls := "java/util/ImmutableCollections$List12", name := "<init>", desc := "(Ljava/lang/Object;Ljava/lang/Object;)V" } : Jvm.MethodName) jdk_44_method_2_code (3 : Nat) (Option.none : Option Jvm.ClassFile.FieldType), Jvm.Cond.code ({ cls := "java/util/ImmutableCollections$AbstractImmutableList", name := "<init>", desc := "()V" } : Jvm.MethodName) jdk_46_method_1_code (1 : Nat) (Option.none : Option Jvm.ClassFile.FieldType), Jvm.Cond.code ({ cls := "java/util/ImmutableCollections$AbstractImmutableCollection", name := "<init>", desc := "()V" } : Jvm.MethodName) jdk_47_method_1_code (1 : Nat) (Option.none : Option Jvm.ClassFile.FieldType), Jvm.Cond.code ({ cls := "java/util/Objects", name := "requireNonNull", desc := "(Ljava/lang/Object;)Ljava/lang/Object;" } : Jvm.MethodName) jdk_31_method_10_code (1 : Nat) (Option.some (Jvm.ClassFile.FieldType.object "java/lang/Object")), Jvm.Cond.code ({ cls := "java/util/List", name := "of", desc := "()Ljava/util/List;" } : Jvm.MethodName) jdk_40_method_36_code (0 : Nat) (Option.some (Jvm.ClassFile.FieldType.object "java/util/List")), Jvm.Cond.code ({ cls := "java/util/LinkedHashMap", name := "<init>", desc := "()V" } : Jvm.MethodName) jdk_94_method_16_code (1 : Nat) (Option.none : Option Jvm.ClassFile.FieldType), Jvm.Cond.code ({ cls := "java/util/HashMap", name := "entrySet", desc := "()Ljava/util/Set;" } : Jvm.MethodName) jdk_69_method_29_code (2 : Nat) (Option.some (Jvm.ClassFile.FieldType.object "java/util/Set")), Jvm.Cond.code ({ cls := "java/util/HashMap$EntrySet", name := "<init>", desc := "(Ljava/util/HashMap;)V" } : Jvm.MethodName) jdk_111_method_1_code (2 : Nat) (Option.none : Option Jvm.ClassFile.FieldType), Jvm.Cond.code ({ cls := "java/util/AbstractSet", name := "<init>", desc := "()V" } : Jvm.MethodName) jdk_91_method_1_code (1 : Nat) (Option.none : Option Jvm.ClassFile.FieldType), Jvm.Cond.code ({ cls := "java/util/HashMap$EntrySet", name := "iterator", desc := "()Ljava/util/Iterator;" } : Jvm.MethodName) jdk_111_method_4_code (1 : Nat) (Option.some (Jvm.ClassFile.FieldType.object "java/util/Iterator")), Jvm.Cond.code ({ cls := "java/util/HashMap$EntryIterator", name := "<init>", desc := "(Ljava/util/HashMap;)V" } : Jvm.MethodName) jdk_142_method_1_code (2 : Nat) (Option.none : Option Jvm.ClassFile.FieldType), Jvm.Cond.code ({ cls := "java/util/HashMap$HashIterator", name := "<init>", desc := "(Ljava/util/HashMap;)V" } : Jvm.MethodName) jdk_99_method_1_code (3 : Nat) (Option.none : Option Jvm.ClassFile.FieldType), Jvm.Cond.code ({ cls := "java/util/HashMap$HashIterator", name := "hasNext", desc := "()Z" } : Jvm.MethodName) jdk_99_method_2_code (1 : Nat) (Option.some Jvm.ClassFile.FieldType.boolean), Jvm.Cond.code ({ cls := "java/util/Collections", name := "unmodifiableMap", desc := "(Ljava/util/Map;)Ljava/util/Map;" } : Jvm.MethodName) jdk_79_method_36_code (1 : Nat) (Option.some (Jvm.ClassFile.FieldType.object "java/util/Map")), Jvm.Cond.code ({ cls := "java/util/Collections$UnmodifiableMap", name := "<init>", desc := "(Ljava/util/Map;)V" } : Jvm.MethodName) jdk_2500_method_1_code (2 : Nat) (Option.none : Option Jvm.ClassFile.FieldType), Jvm.Cond.code ({ cls := "com/example/ratify/ratify/recovery/RecoveryReport", name := "complete", desc := "()Z" } : Jvm.MethodName) prog_47_method_2_code (1 : Nat) (Option.some Jvm.ClassFile.FieldType.boolean), Jvm.Cond.code ({ cls := "java/util/ImmutableCollections$List12", name := "<init>", desc := "(Ljava/lang/Object;)V" } : Jvm.MethodName) jdk_44_method_1_code (2 : Nat) (Option.none : Option Jvm.ClassFile.FieldType), Jvm.Cond.code ({ cls := "java/util/ImmutableCollections", name := "listFromArray", desc := "([Ljava/lang/Object;)Ljava/util/List;" } : Jvm.MethodName) jdk_56_method_4_code (3 : Nat) (Option.some (Jvm.ClassFile.FieldType.object "java/util/List")), Jvm.Cond.code ({ cls := "java/util/ImmutableCollections$ListN", name := "<init>", desc := "([Ljava/lang/Object;Z)V" } : Jvm.MethodName) jdk_45_method_1_code (3 : Nat) (Option.none : Option Jvm.ClassFile.FieldType), Jvm.Cond.code ({ cls := "java/util/ImmutableCollections$List12", name := "isEmpty", desc := "()Z" } : Jvm.MethodName) jdk_44_method_4_code (1 : Nat) (Option.some Jvm.ClassFile.FieldType.boolean), Jvm.Cond.code ({ cls := "java/util/ImmutableCollections$ListN", name := "isEmpty", desc := "()Z" } : Jvm.MethodName) jdk_45_method_2_code (1 : Nat) (Option.some Jvm.ClassFile.FieldType.boolean)]
set_option maxRecDepth 65536 in
theorem codes_eq : words1.filter isCode = codes1 := rfl
theorem w_codes : ∀ c ∈ words1.filter isCode, c.before args0 about1 = true := by
  rw [codes_eq]
  intro c hc
  simp only [codes1, List.mem_cons, List.not_mem_nil, or_false] at hc
  rcases hc with rfl | rfl | rfl | rfl | rfl | rfl | rfl | rfl | rfl | rfl | rfl | rfl | rfl | rfl | rfl | rfl | rfl | rfl | rfl | rfl | rfl | rfl | rfl | rfl | rfl | rfl | rfl | rfl | rfl | rfl | rfl | rfl | rfl | rfl | rfl | rfl | rfl | rfl | rfl | rfl | rfl | rfl | rfl | rfl | rfl | rfl | rfl
  · exact w_c0
  · exact w_c1
  · exact w_c2
  · exact w_c3
  · exact w_c4
  · exact w_c5
  · exact w_c6
  · exact w_c7
  · exact w_c8
  · exact w_c9
  · exact w_c10
  · exact w_c11
  · exact w_c12
  · exact w_c13
  · exact w_c14
  · exact w_c15
  · exact w_c16
  · exact w_c17
  · exact w_c18
  · exact w_c19
  · exact w_c20
  · exact w_c21
  · exact w_c22
  · exact w_c23
  · exact w_c24
  · exact w_c25
  · exact w_c26
  · exact w_c27
  · exact w_c28
  · exact w_c29
  · exact w_c30
  · exact w_c31
  · exact w_c32
  · exact w_c33
  · exact w_c34
  · exact w_c35
  · exact w_c36
  · exact w_c37
  · exact w_c38
  · exact w_c39
  · exact w_c40
  · exact w_c41
  · exact w_c42
  · exact w_c43
  · exact w_c44
  · exact w_c45
  · exact w_c46
set_option maxRecDepth 65536 in
theorem w_t1 : (words1.take 24).all (fun c => isCode c || c.before args0 about1) = true := by decide +kernel
set_option maxRecDepth 65536 in
theorem w_t2 : ((words1.drop 24).take 24).all (fun c => isCode c || c.before args0 about1) = true := by decide +kernel
set_option maxRecDepth 65536 in
theorem w_t3 : (((words1.drop 24).drop 24).take 24).all (fun c => isCode c || c.before args0 about1) = true := by decide +kernel
set_option maxRecDepth 65536 in
theorem w_t4 : ((((words1.drop 24).drop 24).drop 24).take 24).all (fun c => isCode c || c.before args0 about1) = true := by decide +kernel
set_option maxRecDepth 65536 in
theorem w_t5 : (((((words1.drop 24).drop 24).drop 24).drop 24).take 24).all (fun c => isCode c || c.before args0 about1) = true := by decide +kernel
set_option maxRecDepth 65536 in
theorem w_t6 : ((((((words1.drop 24).drop 24).drop 24).drop 24).drop 24).take 24).all (fun c => isCode c || c.before args0 about1) = true := by decide +kernel
set_option maxRecDepth 65536 in
theorem w_t7 : (((((((words1.drop 24).drop 24).drop 24).drop 24).drop 24).drop 24).take 24).all (fun c => isCode c || c.before args0 about1) = true := by decide +kernel
set_option maxRecDepth 65536 in
theorem w_t8 : ((((((((words1.drop 24).drop 24).drop 24).drop 24).drop 24).drop 24).drop 24).take 24).all (fun c => isCode c || c.before args0 about1) = true := by decide +kernel
set_option maxRecDepth 65536 in
theorem w_t9 : (((((((((words1.drop 24).drop 24).drop 24).drop 24).drop 24).drop 24).drop 24).drop 24).take 24).all (fun c => isCode c || c.before args0 about1) = true := by decide +kernel
set_option maxRecDepth 65536 in
theorem w_t10 : ((((((((((words1.drop 24).drop 24).drop 24).drop 24).drop 24).drop 24).drop 24).drop 24).drop 24).take 24).all (fun c => isCode c || c.before args0 about1) = true := by decide +kernel
set_option maxRecDepth 65536 in
theorem w_t11 : (((((((((((words1.drop 24).drop 24).drop 24).drop 24).drop 24).drop 24).drop 24).drop 24).drop 24).drop 24).take 24).all (fun c => isCode c || c.before args0 about1) = true := by decide +kernel
set_option maxRecDepth 65536 in
theorem w_t12 : ((((((((((((words1.drop 24).drop 24).drop 24).drop 24).drop 24).drop 24).drop 24).drop 24).drop 24).drop 24).drop 24).take 24).all (fun c => isCode c || c.before args0 about1) = true := by decide +kernel
set_option maxRecDepth 65536 in
theorem w_t13 : (((((((((((((words1.drop 24).drop 24).drop 24).drop 24).drop 24).drop 24).drop 24).drop 24).drop 24).drop 24).drop 24).drop 24).take 24).all (fun c => isCode c || c.before args0 about1) = true := by decide +kernel
set_option maxRecDepth 65536 in
theorem w_t14 : ((((((((((((((words1.drop 24).drop 24).drop 24).drop 24).drop 24).drop 24).drop 24).drop 24).drop 24).drop 24).drop 24).drop 24).drop 24).take 24).all (fun c => isCode c || c.before args0 about1) = true := by decide +kernel
set_option maxRecDepth 65536 in
theorem w_t15 : (((((((((((((((words1.drop 24).drop 24).drop 24).drop 24).drop 24).drop 24).drop 24).drop 24).drop 24).drop 24).drop 24).drop 24).drop 24).drop 24).take 24).all (fun c => isCode c || c.before args0 about1) = true := by decide +kernel
set_option maxRecDepth 65536 in
theorem w_t16 : (((((((((((((((words1.drop 24).drop 24).drop 24).drop 24).drop 24).drop 24).drop 24).drop 24).drop 24).drop 24).drop 24).drop 24).drop 24).drop 24).drop 24).all (fun c => isCode c || c.before args0 about1) = true := by decide +kernel
theorem w_tables : (allAtoms (Jvm.Cond.code x code maxLocals ret :: tables_1)).before args0 about1 = true := by
  rw [allAtoms_all]
  show words1.all (fun c => c.before args0 about1) = true
  refine all_split ?_ w_codes
  rw [← List.take_append_drop 24 words1, List.all_append, w_t1, ← List.take_append_drop 24 (words1.drop 24), List.all_append, w_t2, ← List.take_append_drop 24 ((words1.drop 24).drop 24), List.all_append, w_t3, ← List.take_append_drop 24 (((words1.drop 24).drop 24).drop 24), List.all_append, w_t4, ← List.take_append_drop 24 ((((words1.drop 24).drop 24).drop 24).drop 24), List.all_append, w_t5, ← List.take_append_drop 24 (((((words1.drop 24).drop 24).drop 24).drop 24).drop 24), List.all_append, w_t6, ← List.take_append_drop 24 ((((((words1.drop 24).drop 24).drop 24).drop 24).drop 24).drop 24), List.all_append, w_t7, ← List.take_append_drop 24 (((((((words1.drop 24).drop 24).drop 24).drop 24).drop 24).drop 24).drop 24), List.all_append, w_t8, ← List.take_append_drop 24 ((((((((words1.drop 24).drop 24).drop 24).drop 24).drop 24).drop 24).drop 24).drop 24), List.all_append, w_t9, ← List.take_append_drop 24 (((((((((words1.drop 24).drop 24).drop 24).drop 24).drop 24).drop 24).drop 24).drop 24).drop 24), List.all_append, w_t10, ← List.take_append_drop 24 ((((((((((words1.drop 24).drop 24).drop 24).drop 24).drop 24).drop 24).drop 24).drop 24).drop 24).drop 24), List.all_append, w_t11, ← List.take_append_drop 24 (((((((((((words1.drop 24).drop 24).drop 24).drop 24).drop 24).drop 24).drop 24).drop 24).drop 24).drop 24).drop 24), List.all_append, w_t12, ← List.take_append_drop 24 ((((((((((((words1.drop 24).drop 24).drop 24).drop 24).drop 24).drop 24).drop 24).drop 24).drop 24).drop 24).drop 24).drop 24), List.all_append, w_t13, ← List.take_append_drop 24 (((((((((((((words1.drop 24).drop 24).drop 24).drop 24).drop 24).drop 24).drop 24).drop 24).drop 24).drop 24).drop 24).drop 24).drop 24), List.all_append, w_t14, ← List.take_append_drop 24 ((((((((((((((words1.drop 24).drop 24).drop 24).drop 24).drop 24).drop 24).drop 24).drop 24).drop 24).drop 24).drop 24).drop 24).drop 24).drop 24), List.all_append, w_t15, w_t16]
  rfl
set_option maxRecDepth 65536 in
theorem w_rest : rest_1_c.before args0 about1 = true := by decide +kernel
set_option maxRecDepth 65536 in
theorem w_case : (Jvm.Cond.and given_1 narrow_1).before args0 about1 = true := by decide +kernel
theorem w_applies : (headSpec (Jvm.Cond.code x code maxLocals ret :: tables_1) room_1).applies x e0.platform about1 = true :=
  (Spec.applies_iff w_frames).mpr ⟨w_running, w_runnable, w_alone, w_named, w_hears, w_ripe, w_room, w_tables⟩
theorem atStart : AtStart classFile x code maxLocals ret World_1 tables_1 room_1 Calls_1 rest_1 Pre_1 launch0 p0 e0 about1 theMethod args0 below0 :=
  ⟨lists_1, trivial, launch0.admits_env _ _ _, launch0.least_env, fairChoices_fair.cas, fairChoices_fair.clock, w_frames, w_args, w_heap, w_applies, ⟨⟨49, k49, 4, by decide +kernel, rfl, rfl, _, rfl, rfl⟩, ⟨⟨33, k33, 5, by decide +kernel, rfl, rfl, _, rfl, rfl⟩, ⟨⟨41, k41, 6, by decide +kernel, rfl, rfl, _, rfl, rfl⟩, trivial⟩⟩⟩, w_rest, w_case⟩
end start1
theorem witness_1 : WitnessClaimed_1 := ⟨start1.p0, start1.e0, start1.about1, start1.theMethod, start1.args0, start1.below0, start1.atStart⟩
end Jvm.Pilot.@@N@@
