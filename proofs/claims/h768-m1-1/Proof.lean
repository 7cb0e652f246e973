import JvmDerived
import JvmDerived.Pilot.@@N@@Statement
import JvmDerived.Pilot.@@N@@Code
set_option linter.unusedVariables false
set_option linter.unusedSimpArgs false
namespace Jvm.RoadKit
open Sem ClassFile Op Lib Jvm.Stand Jvm.Free Jvm.LawKit
section New
variable {p : Program} {l : Launch} {e : Env} {R : Room} {s : State} {m : MethodId} {args : Array Value} {below : List Frame} {meth : Method} {c : Code} {T : State} {locs : List Loc} {cells slots : Nat}
theorem retI (X : Stand p l e R s m args below meth c T locs cells slots) (hx : p.tables.exec = Jvm.exec) {pc : Nat} {Ls : Array Slot} {z : Int32} {rest : List Value} (hret : meth.sig.returnType = some .int) (hd : decode c.code pc = .ok (.ireturn, 1)) {fs : List Frame}
    (hl : ∀ (f : JFrame) (acts : List Action), f.method = m → f.locked = none → f.entered = [] → (doReturn e (T.setTop f) acts (some (.int z))).1 = T.setFrames fs) : Steps p.tables e below (T.setTop (mkF m pc Ls (.int z :: rest))) (T.setFrames fs) :=
  retOut X hx hret rfl (Or.inl ⟨rfl, Or.inl rfl, _, rfl⟩) hd hl
end New
end Jvm.RoadKit
namespace Jvm.RoadKit
open Sem ClassFile Op Lib Jvm.Stand Jvm.Free Jvm.LawKit
def Mi (Z : State) (C : String) (m : Addr) : Prop := ∃ (c : ClassId) (k : Class), Z.vm.findClass C = some c ∧ Z.vm.classes[c]? = some k ∧ k.mirror = some m
section OwnMi
variable {p : Program} {l : Launch} {e : Env} {R : Room} {s : State} {m : MethodId} {args : Array Value} {below : List Frame} {meth : Method} {c : Code} {T : State} {locs : List Loc} {cells slots : Nat} {Z : State} {h : Heap} {a b : Addr} {a0 : Array Value}
theorem own_mvMN {own host : String} {index : Nat} {x : MethodName} (hZ : Z.Warmed39 s.vm) (w : (Cond.methodLinkNest own index x host).before a0 Z = true) : (Cond.methodLinkNest own index x host).before args s = true := (Cond.methodLinkNest_wide hZ w :)
theorem own_mvIM {I O n d : String} (hZ : Z.Warmed39 s.vm) (w : (Cond.interfaceMethod I O n d).before a0 Z = true) : (Cond.interfaceMethod I O n d).before args s = true := by
  have hf := State.methodFound?_setVm hZ.alike I n d
  have q : (Cond.interfaceMethod I O n d).before a0 (Z.setVm s.vm) = true := by
    simp only [Cond.before, Cond.holds, Cond.value, State.vm_setVm, hZ.alike.findClass, hf, State.methodNamed?_setVm hZ.alike, arm_isInterface_setVm hZ.alike] at w ⊢
    exact w
  simp only [Cond.before, Cond.holds, Cond.value] at q ⊢
  exact q
theorem own_ldcM (X : Stand p l e R s m args below meth c T locs cells slots) (hx : p.tables.exec = Jvm.exec) (hZ : Z.Warmed39 s.vm) {own C : String} {index : Nat} (hown : s.vm.findClass own = some m.cls) (w : (Cond.classLink own index C).before a0 Z = true) (eT : T.heap = h) {mr : Addr} (M : Mi Z C mr)
    {g : JFrame} (hg : g.method = m) (hd : decode c.code g.pc = .ok (.ldc index, 2)) : ∃ T', Stand p l e R s m args below meth c T' locs cells slots ∧ T'.heap = h ∧ ∀ target, Steps p.tables e below (T'.setTop { g with pc := g.pc + 2, stack := .ref mr :: g.stack }) target → Steps p.tables e below (T.setTop g) target := by
  obtain ⟨cM, kM, f1, f2, f3⟩ := M
  obtain ⟨kN, f4, f5⟩ := hZ.alike.2.2 _ _ f2
  have f6 : kN.mirror = some mr := by rw [f5]; exact f3
  have f7 : s.vm.findClass C = some cM := by rw [hZ.alike.findClass]; exact f1
  obtain ⟨vm', X', st⟩ := X.ldcMirror hx hown (mvT hZ w) (C := C) (a := mr) (by simp [Term.eval, f7, f4, f6]) hg hd
  exact ⟨_, X', eT, st⟩
theorem own_gcls (X : Stand p l e R s m args below meth c T locs cells slots) (hx : p.tables.exec = Jvm.exec) (hZ : Z.Warmed39 s.vm) {own C : String} {index : Nat} (hown : s.vm.findClass own = some m.cls)
    (w1 : (Cond.methodLink own index ⟨"java/lang/Object", "getClass", "()Ljava/lang/Class;"⟩).before a0 Z = true) (w2 : (Cond.declares ⟨"java/lang/Object", "getClass", "()Ljava/lang/Class;"⟩).before a0 Z = true) (w4 : (Cond.selects C ⟨"java/lang/Object", "getClass", "()Ljava/lang/Class;"⟩ ⟨"java/lang/Object", "getClass", "()Ljava/lang/Class;"⟩).before a0 Z = true)
    (w5 : (Cond.instanceMethod ⟨"java/lang/Object", "getClass", "()Ljava/lang/Class;"⟩).before a0 Z = true) (w6 : (Cond.native ⟨"java/lang/Object", "getClass", "()Ljava/lang/Class;"⟩).before a0 Z = true) (eT : T.heap = h) (E : Exa Z h a C) {mr : Addr} (M : Mi Z C mr)
    {g : JFrame} (hg : g.method = m) (hsize : g.locals.size = c.maxLocals) {rest : List Value} (hs : g.stack = .ref a :: rest) (hd : decode c.code g.pc = .ok (.invokevirtual index, 3)) (hf : 1 ≤ R.frames) {W : Nat} (hW : 2 * g.monitorRoom + (rest.map fun v => v.category).sum ≤ W) (hl : W + (nativeFrameWords "java/lang/Object" "getClass" 1 + 11) ≤ R.locals) :
    ∃ T', Stand p l e R s m args below meth c T' locs cells slots ∧ T'.heap = h ∧ ∀ target, Steps p.tables e below (T'.setTop { g with pc := g.pc + 3, stack := .ref mr :: rest }) target → Steps p.tables e below (T.setTop g) target := by
  obtain ⟨cM, kM, f1, f2, f3⟩ := M
  obtain ⟨kN, f4, f5⟩ := hZ.alike.2.2 _ _ f2
  have f7 : s.vm.findClass C = some cM := by rw [hZ.alike.findClass]; exact f1
  obtain ⟨cI, kI, i1, i2, i3⟩ := isOf hZ eT E
  cases i1.symm.trans f7
  obtain ⟨vm', X', st⟩ := X.getClassOf hx hown (mvT hZ w1) (mvT hZ w2) (notFace_of_selects (args := #[]) (mvT hZ w4)) (mvT hZ w4) (mvT hZ w5) (mvT hZ w6) f7 i3 f4 (by rw [f5]; exact f3) hg hsize hs hd hf (by omega)
  exact ⟨_, X', eT, st⟩
theorem own_gclsI (X : Stand p l e R s m args below meth c T locs cells slots) (hx : p.tables.exec = Jvm.exec) (hZ : Z.Warmed39 s.vm) {own C I : String} {index count : Nat} (hown : s.vm.findClass own = some m.cls)
    (w1 : (Cond.methodLink own index ⟨I, "getClass", "()Ljava/lang/Class;"⟩).before a0 Z = true) (w2 : (Cond.declares ⟨"java/lang/Object", "getClass", "()Ljava/lang/Class;"⟩).before a0 Z = true) (w3 : (Cond.interfaceMethod I "java/lang/Object" "getClass" "()Ljava/lang/Class;").before a0 Z = true) (w4 : (Cond.selects C ⟨I, "getClass", "()Ljava/lang/Class;"⟩ ⟨"java/lang/Object", "getClass", "()Ljava/lang/Class;"⟩).before a0 Z = true)
    (w5 : (Cond.instanceMethod ⟨"java/lang/Object", "getClass", "()Ljava/lang/Class;"⟩).before a0 Z = true) (w6 : (Cond.publicMethod ⟨"java/lang/Object", "getClass", "()Ljava/lang/Class;"⟩).before a0 Z = true) (w7 : (Cond.unhidden C "getClass" "()Ljava/lang/Class;").before a0 Z = true) (w8 : (Cond.castable C I).before a0 Z = true) (w9 : (Cond.native ⟨"java/lang/Object", "getClass", "()Ljava/lang/Class;"⟩).before a0 Z = true)
    (hI : I ≠ "java/lang/invoke/MethodHandle" ∧ I ≠ "java/lang/invoke/VarHandle") (hO : I ≠ "java/lang/Object") (eT : T.heap = h) (E : Exa Z h a C) {mr : Addr} (M : Mi Z C mr)
    {g : JFrame} (hg : g.method = m) (hsize : g.locals.size = c.maxLocals) {rest : List Value} (hs : g.stack = .ref a :: rest) (hd : decode c.code g.pc = .ok (.invokeinterface index count, 5)) (hf : 1 ≤ R.frames) {W : Nat} (hW : 2 * g.monitorRoom + (rest.map fun v => v.category).sum ≤ W) (hl : W + (nativeFrameWords "java/lang/Object" "getClass" 1 + 11) ≤ R.locals) :
    ∃ T', Stand p l e R s m args below meth c T' locs cells slots ∧ T'.heap = h ∧ ∀ target, Steps p.tables e below (T'.setTop { g with pc := g.pc + 5, stack := .ref mr :: rest }) target → Steps p.tables e below (T.setTop g) target := by
  obtain ⟨cM, kM, f1, f2, f3⟩ := M
  obtain ⟨kN, f4, f5⟩ := hZ.alike.2.2 _ _ f2
  have f7 : s.vm.findClass C = some cM := by rw [hZ.alike.findClass]; exact f1
  obtain ⟨cI, kI, i1, i2, i3⟩ := isOf hZ eT E
  cases i1.symm.trans f7
  obtain ⟨vm', X', st⟩ := X.getClassOfI hx (xi := ⟨I, "getClass", "()Ljava/lang/Class;"⟩) hown (mvT hZ w1) (mvT hZ w2) (own_mvIM hZ w3) (mvT hZ w4) (mvT hZ w5) (mvT hZ w6) (mvT hZ w7) (mvT hZ w8) (mvT hZ w9) hI hO rfl rfl f7 f4 i3 (by rw [f5]; exact f3) hg hsize hs hd hf (by omega)
  exact ⟨_, X', eT, st⟩
theorem own_nsroot {O K : String} {n : Nat} (w : (Cond.noSuperclass O).before a0 Z = true) (wk : (Cond.instantiable K n).before a0 Z = true) (hn : O ≠ K) : NS Z O K := by
  obtain ⟨cO, kO, h1, h2, h3, -, -⟩ := Cond.noSuperclass_spec w
  obtain ⟨cK, kK, g1, -⟩ := Cond.instantiable_spec wk
  have ne := ids_ne h1 g1 hn
  refine ⟨cO, cK, h1, g1, fun fuel => ?_⟩
  cases fuel with
  | zero => rfl
  | succ f => simp [Vm.isSubclassAux, ne, h2, h3]
theorem own_nsno {C S K : String} {n : Nat} (w : (Cond.superclass C S).before a0 Z = true) (wk : (Cond.instantiable K n).before a0 Z = true) (q : NS Z C K) (hn : C ≠ K) : ∃ c t, Z.vm.findClass C = some c ∧ Z.vm.findClass K = some t ∧ Z.vm.assignable c t = false := by
  obtain ⟨cC, cK, h0, g0, n3⟩ := q
  obtain ⟨pS, kC, kS, -, h2, -, -, h5, -, -⟩ := Cond.superclass_spec h0 w
  obtain ⟨cK', kK, g1, g2, g3, g4, -⟩ := Cond.instantiable_spec wk
  cases g0.symm.trans g1
  have ne := ids_ne h0 g0 hn
  have g5 : kK.isInterface = false := by cases q : kK.isInterface <;> simp [q] at g4 ⊢
  refine ⟨cC, cK, h0, g0, ?_⟩
  show Z.vm.assignableAux (255 + 1) cC cK = false
  simp [Vm.assignableAux, ne, h2, g2, h5, g3, g5, Vm.isSubclass, n3]
theorem own_len {t : Term} {cl : Cell} {ty : FieldType} {z : Int32} (ev : t.eval args Z none [] Z = some (.ref a)) (A : Arr Z Z.heap a cl ty) (e : (Term.length t).eval args Z none [] Z = some (.int z)) : cl.slots.size < 2 ^ 31 ∧ cl.slots.size.toInt32 = z := by
  have hA := A.fin (Vm.Alike.refl Z.vm) (U := Z)
  have h31 := SBG.length_lt ev hA e
  refine ⟨h31, ?_⟩
  have q : (Term.length t).eval args Z none [] Z = some (.int (Int32.ofNat cl.slots.size)) := by simp [Term.eval, ev, hA, h31]
  have := Option.some.inj (q.symm.trans e)
  simpa using this
theorem own_arr0 {t : Term} {ty : FieldType} {K : String} {dv : Value} (hf : Fit Z) (hex : (Cond.exactly t K).before args Z = true) (har : (Cond.arrayOf t ty).before args Z = true) (hlen : (Term.length t).eval args Z none [] Z = some (.int (0 : Int32))) : ∃ (d : Addr) (k : ClassId), t.eval args Z none [] Z = some (.ref d) ∧ Exa Z Z.heap d K ∧ Arv Z Z.heap d k ty (0 : Int32) [] dv := by
  obtain ⟨d, -, -, -, hev, -⟩ := Cond.exactly_spec hex
  obtain ⟨cl, A⟩ := Arr.start hev (Cond.before_iff.mp har)
  obtain ⟨q, r⟩ := own_len hev A hlen
  exact ⟨d, _, hev, Exa.start hev (Cond.before_iff.mp hex), Arv.start hf A q r (by decide) rfl trivial⟩
end OwnMi
end Jvm.RoadKit
namespace Jvm.RoadKit
open Sem ClassFile Op Lib Jvm.Stand Jvm.Free Jvm.LawKit Bundle Jvm.Free.Exc Jvm.Free.Str Jvm.Lib.Cold
abbrev rxN : String := "java/lang/RuntimeException"
abbrev spA : Cond := .lays tN tN "suppressedExceptions" listD
theorem own_ties {args : Array Value} {s : State} {pl : Platform} (howns : pl.frameOwnsMonitors = true) (hfin : pl.finalization = false) (hpl : pl.magicAccessors = ({} : Platform).magicAccessors)
    (h : ∀ c ∈ excAtoms rxN, c = spA ∨ c.before args s = true) : ∃ (T : ThrowableC) (Z : Init0T), T.Links pl s ∧ Ties T Z s := by
  have w : ∀ d ∈ excAtoms rxN, d ≠ spA → d.before args s = true := fun d hd hn => (h d hd).resolve_left hn
  -- the class
  obtain ⟨⟨cT, jN⟩, mN, n1, n2, n3, n4, n5, n6⟩ := Cond.native_spec (w (.native tFill0) (by simp [excAtoms, throwableAtoms]) (by simp))
  have fc : s.vm.findClass tN = some cT := findClass_of_methodNamed n1
  obtain ⟨kT, fk, fn⟩ := Vm.findClass_spec fc
  obtain ⟨-, kS, -, -, g1, -, -, g2, -, g3⟩ := Cond.superclass_spec fc (w (.superclass tN "java/lang/Object") (by simp [excAtoms, throwableAtoms]) (by simp))
  cases fk.symm.trans g1
  have fi := Cond.initialized_spec fc fk (w (.initialized tN) (by simp [excAtoms, throwableAtoms]) (by simp))
  -- its methods
  have own := fun (x : MethodName) (hx : s.vm.findClass x.cls = some cT) (hm : Cond.instanceMethod x ∈ excAtoms rxN) => Cond.ownMethod hx fk (w _ hm (by simp))
  have lnk := fun {x : MethodName} {q : MethodId} (ix : Nat) (hq : s.methodNamed? x = some q) (hm : Cond.methodLink tN ix x ∈ excAtoms rxN) => Cond.linkedMethod fc fk hq (w _ hm (by simp)) pl hpl
  obtain ⟨jF, mF, f1, f2, f3, f4, f5, -⟩ := own tFill fc (by simp [excAtoms, throwableAtoms])
  obtain ⟨mF', cF, f6, f7, f8, f9, fA, fB, -, fC⟩ := Cond.codeSync_spec f1 (w (.codeSync tFill LibCode.Throwable.Fill.code 1 (some (.object tN))) (by simp [excAtoms, throwableAtoms]) (by simp))
  cases f2.symm.trans f6
  obtain ⟨jN', mN', m1, m2, m3, m4, m5, m6, m7⟩ := own tFill0 fc (by simp [excAtoms, throwableAtoms])
  cases n1.symm.trans m1
  cases n2.symm.trans m2
  obtain ⟨jI, mI, i1, i2, i3, -⟩ := own tInit0 fc (by simp [excAtoms, throwableAtoms])
  obtain ⟨mI', cI, i4, i5, i6, i7, -, i8, -⟩ := Cond.code_spec i1 (w (.code tInit0 LibCode.Throwable.Init0.code 1 none) (by simp [excAtoms, throwableAtoms]) (by simp))
  cases i2.symm.trans i4
  obtain ⟨oO, mO, o1, o2, o3, o4⟩ := Cond.instanceMethod_spec (w (.instanceMethod oInit) (by simp [excAtoms, throwableAtoms]) (by simp))
  obtain ⟨mO', cO, o5, o6, o7, o8, -, o9, -, oA⟩ := Cond.code_spec o1 (w (.code oInit ⟨#[0xb1]⟩ 1 none) (by simp [excAtoms, throwableAtoms]) (by simp))
  cases o2.symm.trans o5
  obtain ⟨kO, oB, oC⟩ := Vm.findClass_spec (findClass_of_methodNamed o1)
  have oD := name_of_methodNamed o1 o2
  obtain ⟨p1, q1, cf, x1, y1, z1, v1⟩ := lnk 1 o1 (by simp [excAtoms, throwableAtoms])
  obtain ⟨p2, q2, cf2, x2, y2, z2, v2⟩ := lnk 27 f1 (by simp [excAtoms, throwableAtoms])
  obtain ⟨p3, q3, cf3, x3, y3, z3, v3⟩ := lnk 202 n1 (by simp [excAtoms, throwableAtoms])
  cases z1.symm.trans z2
  cases z1.symm.trans z3
  -- its fields, by the subclass's words
  have inst := fun {n d : String} {t : FieldType} (ix : Nat) (ht : parseFieldDescriptor d = some t) (h1 : Cond.fieldLink tN ix tN n d ∈ excAtoms rxN) (h2 : Cond.lays rxN tN n d ∈ excAtoms rxN) (hn : Cond.lays rxN tN n d ≠ spA) => Cond.ownField fc fk ht (w _ h1 (by simp)) (w _ h2 hn) pl hpl
  have stat := fun {n d : String} {t : FieldType} (ix : Nat) (ht : parseFieldDescriptor d = some t) (h1 : Cond.fieldLink tN ix tN n d ∈ excAtoms rxN) (h2 : Cond.laysStatic tN n d ∈ excAtoms rxN) => Cond.ownStatic fc fk ht (w _ h1 (by simp)) (w _ h2 (by simp)) pl hpl
  obtain ⟨a1, a2, fCa, a3, a4, a5, a6, a7, a8, a9, aA⟩ := inst (t := .object tN) 7 (by decide +kernel : parseFieldDescriptor thD = _) (n := "cause") (by simp [excAtoms, throwableAtoms]) (by simp [excAtoms]) (by simp [tN, rxN])
  obtain ⟨b1, b2, fSt, b3, b4, b5, b6, b7, b8, b9, bA⟩ := inst (t := .array (.object "java/lang/StackTraceElement")) 17 (by decide +kernel : parseFieldDescriptor steD = _) (n := "stackTrace") (by simp [excAtoms, throwableAtoms]) (by simp [excAtoms]) (by simp [tN, rxN])
  obtain ⟨c1, c2, fSu, c3, c4, c5, c6, c7, c8, c9, cA⟩ := inst (t := .object "java/util/List") 24 (by decide +kernel : parseFieldDescriptor listD = _) (n := "suppressedExceptions") (by simp [excAtoms, throwableAtoms]) (by simp [excAtoms]) (by simp [tN, rxN])
  obtain ⟨d1, d2, fUn, aS, cS, d3, d4, d5, d6, -, -, d7, d8, d9, -, -, dA⟩ := stat (t := .array (.object "java/lang/StackTraceElement")) 13 (by decide +kernel : parseFieldDescriptor steD = _) (n := "UNASSIGNED_STACK") (by simp [excAtoms, throwableAtoms]) (by simp [excAtoms, throwableAtoms])
  obtain ⟨e1, e2, fSe, -, -, e3, e4, e5, e6, -, -, -, -, -, -, -, eA⟩ := stat (t := .object "java/util/List") 20 (by decide +kernel : parseFieldDescriptor listD = _) (n := "SUPPRESSED_SENTINEL") (by simp [excAtoms, throwableAtoms]) (by simp [excAtoms, throwableAtoms])
  have wM := w (.lays rxN tN "detailMessage" msgD) (by simp [excAtoms]) (by simp [tN, rxN])
  obtain ⟨-, -, cM, kM, jM, fMs, -, -, r1, r2, r3, -⟩ := Cond.lays_spec wM
  cases fc.symm.trans (Cond.lays_declared wM r1)
  cases fk.symm.trans (State.fieldFound?_spec r1).1
  have ne : fSt.slot ≠ fSu.slot := by
    obtain ⟨cR, kR, -, -, -, -, hR1, hR2, -⟩ := Cond.lays_spec wM
    obtain ⟨-, dS, s1, s2⟩ := Cond.laysAt (f := fSt) hR1 hR2 bA (w (.lays rxN tN "stackTrace" steD) (by simp [excAtoms]) (by simp [tN, rxN]))
    obtain ⟨-, dP, t1, t2⟩ := Cond.laysAt (f := fSu) hR1 hR2 cA (w (.lays rxN tN "suppressedExceptions" listD) (by simp [excAtoms]) (by simp [tN, rxN]))
    exact Cond.laysApart s1 t1 s2 t2 (by rw [b8, c8]; decide)
  have par : ∀ {x : MethodName} {sg : MethodDescriptor} {ps : List FieldType}, parseMethodDescriptor x.desc = some sg → (parseMethodDescriptor x.desc).map (·.parameters) = some ps → sg.parameters = ps := fun h1 h2 => by rw [h1] at h2; simpa using h2
  exact ⟨{ cT := cT, kT := kT, cO := cT, aS := aS, fillIdx := jF, fill0Idx := jN, initSIdx := jI, obj := oO, kObj := kO, methFill := mF, methFill0 := mN, methInitS := mI, methObj := mO, codeFill := cF, codeInitS := cI, codeObj := cO, fBack := fCa, fDepth := fCa, fStack := fSt, fCause := fCa, fSupp := fSu, fMsg := fMs, fUnassigned := fUn, fSentinel := fSe, cfT := cf, ci1 := p1, n1 := q1, ci27 := p2, n27 := q2, ci202 := p3, n202 := q3, ci7 := a1, i7 := a2, ci13 := d1, i13 := d2, ci17 := b1, i17 := b2, ci20 := e1, i20 := e2, ci24 := c1, i24 := c2 }, { idx := jI, meth := mI, code := cI },
    { owns := howns, noFinalization := hfin, cls := fk, name := fn, boot := Vm.findClass_boot fc fk, notInterface := g3, initialized := fi, statics := d7, file := z1,
      fillAt := f3, fillCode := f7, fillBytes := f8, fillLocals := f9, fillLocks := fB, fillStatic := f4, fillAbstract := f5, fillReturns := fA, fillParams := par (x := tFill) fC (by decide +kernel),
      fill0At := m3, fill0Name := m6, fill0Desc := m7, fill0Params := par (x := tFill0) n6 (by decide +kernel), fill0Static := m4, fill0Native := n3, fill0Code := n4, fill0Locks := n5, fill0Abstract := m5,
      objClass := oB, objClassName := oC, objMethod := o2, objName := oD.1, objStatic := o3, objAbstract := o4, objFound := by rw [oD.2]; exact lookupSpecial_of_named o1 o2 o3, objParams := by rw [par (x := oInit) (ps := []) oA (by decide +kernel)]; rfl, objCode := o6, objBytes := o7, objLocks := o9,
      stackInstance := b6, stackNotFinal := b7, unassignedStatic := d6, causeInstance := a6, causeNotFinal := a7, sentinelStatic := e6, suppInstance := c6, suppNotFinal := c7, msgInstance := r2, msgNotFinal := r3, stackApartSupp := ne,
      mlink1 := x1, mright1 := y1, pool1 := v1, mlink27 := x2, mright27 := y2, pool27 := v2, mlink202 := x3, mright202 := y3, pool202 := v3,
      link7 := a3, right7 := a4, at7 := a5, link13 := d3, right13 := d4, at13 := d5, link17 := b3, right17 := b4, at17 := b5, link20 := e3, right20 := e4, at20 := e5, link24 := c3, right24 := c4, at24 := c5 },
    { found := fc, fill := f1, fill0 := n1, init0 := i1, objLocals := o8, ordinary := g2, cause := aA, stack := bA, supp := cA, unassigned := dA, sentinel := eA, msg := ⟨jM, r1⟩, msgType := (State.fieldFound?_type r1 (t := .object "java/lang/String") (by decide +kernel)).2, causeName := a8, stackName := b8, suppName := c8, causeType := a9, stackType := b9, suppType := c9, statics := ⟨cS, d8, d9⟩ }⟩
section OwnFill
variable {p : Program} {l : Launch} {e : Env} {R : Room} {s : State} {m : MethodId} {args : Array Value} {below : List Frame} {meth : Method} {c : Code} {T : State} {locs : List Loc} {cells slots : Nat} {Z : State} {h h' : Heap} {a b : Addr} {a0 : Array Value}
theorem own_ths {n0 : Nat} (O : Old Z n0 h) : ThS Z h := fun st _ _ cell _ _ _ q _ => O.2.2 st cell q
theorem own_wr {cell : Cell} {sl : Nat} {v : Value} (q : h[a]? = some cell) (hv : cell.vm.isStatics = false) (hl : sl < cell.slots.size) : Wr h (h.setIfInBounds a (cell.setSlot sl v)) a sl v := ⟨cell, q, hv, hl, rfl⟩
theorem own_fill (X : Stand p l e R s m args below meth c T locs cells slots) (hx : p.tables.exec = Jvm.exec) (hl : l.stackTraces = true) (hZ : Z.Warmed39 s.vm) (hown : s.vm.findClass tN = some m.cls) {kI : Nat} (wi : (Cond.instantiable rxN kI).before a0 Z = true) (hw : ∀ d ∈ excAtoms rxN, d = spA ∨ d.before a0 Z = true)
    (hT0 : ThS Z s.heap) (hTK : s.vm.MethodsKnown) (hBelow : s.vm.FramesKnown below) (eT : T.heap = h) (E : Exa Z h a rxN) (N : Unt h a) (B : Fld Z h a tN "backtrace" obD .null) {u : Addr} (FS : Fld Z h a tN "stackTrace" steD (.ref u)) (SU : Sta Z h tN "UNASSIGNED_STACK" steD (.ref u))
    {n0 : Nat} (N0 : Fr n0 locs) (ge : n0 ≤ a) {g : JFrame} (hg : g.method = m) (hsize : g.locals.size = c.maxLocals) {rest : List Value} (hs : g.stack = .ref a :: rest) (hd : decode c.code g.pc = .ok (.invokevirtual 27, 3))
    (hf : 2 < R.frames) {W : Nat} (hW : 2 * g.monitorRoom + (rest.map fun v => v.category).sum ≤ W) (hlo : W + 42 ≤ R.locals) (hc : cells + 1 ≤ R.cells) (hsl : slots + 2752 ≤ R.slots) :
    ∃ (T' : State) (h1 h2 h3 h' : Heap) (L : List Loc) (nb : Addr) (nd : Int32), Stand p l e R s m args below meth c T' L (cells + 1) (slots + 2752) ∧ T'.heap = h' ∧ Fr n0 L ∧ Ext h h1 ∧ Wr h1 h2 a (slotOf Z tN "backtrace" obD) (.ref nb) ∧ Wr h2 h3 a (slotOf Z tN "depth" "I") (.int nd) ∧ Wr h3 h' a (slotOf Z tN "stackTrace" steD) (.ref u) ∧
      ∀ target, Steps p.tables e below (T'.setTop { g with pc := g.pc + 3, stack := .ref a :: rest }) target → Steps p.tables e below (T.setTop g) target := by
  have htr : e.platform.stackTraces = true := by rw [X.admits.platform]; exact hl
  have howns : e.platform.frameOwnsMonitors = true := by rw [X.admits.platform]
  have hfin : e.platform.finalization = false := by rw [X.admits.platform]
  have hpl : e.platform.magicAccessors = ({} : Platform).magicAccessors := by rw [X.admits.platform]
  have hws : ∀ d ∈ excAtoms rxN, d = spA ∨ d.before args s = true := fun d hd => (hw d hd).imp id fun q => mvX hT0 hZ (List.all_eq_true.mp exc_ok d hd) q
  have W' : ∀ d ∈ excAtoms rxN, d ≠ spA → d.before args s = true := fun d hd hn => (hws d hd).resolve_left hn
  obtain ⟨T6, Z6, L, Y⟩ := own_ties (args := args) (s := s) howns hfin hpl hws
  obtain ⟨cell, kZ, e1, e2, e3, e4, e5⟩ := E
  obtain ⟨c2, u1, u2, u3⟩ := N
  cases e1.symm.trans u1
  have hfound : s.vm.findClass rxN = some cell.cls := by rw [hZ.alike.findClass]; exact e2
  obtain ⟨kX, hk, ek⟩ := hZ.alike.2.2 _ _ e3
  obtain ⟨cI, kI', i1, i2, i3, -⟩ := Cond.instantiable_spec wi
  cases e2.symm.trans i1
  cases e3.symm.trans i2
  have hord : kX.kind = .ordinary := by rw [ek]; exact i3
  have hsz : cell.slots.size = kX.instanceTypes.size := by rw [ek]; exact e5 i3
  have hsel0 : selectMethod e.platform s.vm cell.cls T6.fill0 = .method T6.fill0 := by
    obtain ⟨c2, r2, m2, q1, q2, q3, q4, -⟩ := Cond.selects_spec (W' (.selects rxN tFill0 tFill0) (by simp [excAtoms]) (by simp))
    cases Option.some.inj (q1.symm.trans hfound)
    cases Option.some.inj (q2.symm.trans (State.methodFound?_of_named Y.fill0 (by decide)))
    cases Option.some.inj (q3.symm.trans Y.fill0)
    rw [Launch.admits_selectMethod X.admits]; exact q4
  obtain ⟨cu, iu, ku, fu, st, cellS, s1, s2, s3, s4, s5, s6, s7⟩ := SU
  obtain ⟨ku', s1', eku⟩ := State.fieldFound?_setVm hZ.alike s1
  have s1'' : s.fieldFound? tN "UNASSIGNED_STACK" steD = some (cu, ku', iu, fu) := s1'
  cases s1''.symm.trans Y.unassigned
  have est : T6.aS = st := Option.some.inj (L.statics.symm.trans (by rw [eku]; exact s4))
  subst est
  have hneS : T6.aS ≠ a := fun z => by
    rw [z] at s5
    cases e1.symm.trans s5
    rw [s6] at e4; cases e4
  have hknS : cellS.vm ≠ .unknown := fun z => by rw [z] at s6; cases s6
  obtain ⟨c3, cf3, k3, i3', f3, t1, t2, -, -, -, -, t7⟩ := FS
  cases e1.symm.trans t1
  obtain ⟨k3', t2', -⟩ := State.fieldFound?_setVm hZ.alike t2
  have t2'' : s.fieldFound? tN "stackTrace" steD = some (cf3, k3', i3', f3) := t2'
  cases t2''.symm.trans Y.stack
  obtain ⟨ci198, i198, fB, hk198, hg198, ha198, hsB, -, hnB, htB, hffB⟩ := Cond.ownField (t := .object "java/lang/Object") Y.found L.cls (by decide +kernel) (W' (.fieldLink tN 198 tN "backtrace" obD) (by simp [excAtoms]) (by simp)) (W' (.lays rxN tN "backtrace" obD) (by simp [excAtoms]) (by simp [tN, rxN])) e.platform hpl
  obtain ⟨c4, cf4, k4, i4, f4, v1, v2, -, -, -, -, v7⟩ := B
  cases e1.symm.trans v1
  obtain ⟨k4', v2', -⟩ := State.fieldFound?_setVm hZ.alike v2
  have v2'' : s.fieldFound? tN "backtrace" obD = some (cf4, k4', i4, f4) := v2'
  cases v2''.symm.trans hffB
  have wD := W' (.lays rxN tN "depth" "I") (by simp [excAtoms]) (by simp [tN, rxN])
  have wDZ := (hw (.lays rxN tN "depth" "I") (by simp [excAtoms])).resolve_left (by simp [tN, rxN])
  obtain ⟨cD1, kD1, cD, kD, iD, fD, -, -, hffD, hstD, -, -, -, -⟩ := Cond.lays_spec wD
  obtain ⟨cE1, kE1, cE, kE, iE, fE, -, -, hffE, -, -, -, -, -⟩ := Cond.lays_spec wDZ
  obtain ⟨kE', hffE', -⟩ := State.fieldFound?_setVm hZ.alike hffE
  have hffE'' : s.fieldFound? tN "depth" "I" = some (cE, kE', iE, fE) := hffE'
  cases hffE''.symm.trans hffD
  cases Option.some.inj ((Cond.lays_declared wD hffD).symm.trans Y.found)
  obtain ⟨hkD, hatD⟩ := State.fieldFound?_spec hffD
  cases Option.some.inj (hkD.symm.trans L.cls)
  obtain ⟨hnD, htD⟩ := State.fieldFound?_type hffD (t := .int) (by decide +kernel)
  have hfb := Cond.soleField_find Y.found L.cls (W' (.soleField tN "backtrace") (by simp [excAtoms]) (by simp)) ha198 hnB hsB
  have hfd := Cond.soleField_find Y.found L.cls (W' (.soleField tN "depth") (by simp [excAtoms]) (by simp)) hatD hnD hstD
  obtain ⟨comp, cO, kO, -, -, hkO, hkindO, hO⟩ := Cond.arrayOver_spec (W' (.arrayOver (.object "java/lang/Object")) (by simp [excAtoms]) (by simp))
  obtain ⟨tyS, dS, hdS, hdnS⟩ := Cond.laysAt hfound hk Y.stack (W' (.lays rxN tN "stackTrace" steD) (by simp [excAtoms]) (by simp [tN, rxN]))
  obtain ⟨tyB, dB, hdB, hdnB⟩ := Cond.laysAt hfound hk hffB (W' (.lays rxN tN "backtrace" obD) (by simp [excAtoms]) (by simp [tN, rxN]))
  obtain ⟨tyD, dD, hdD, hdnD⟩ := Cond.laysAt hfound hk hffD wD
  have tk : ∀ {f : Field} {v : Value}, kX.instanceTypes[f.slot]? = some f.type → fits f.type v = true → Jvm.Takes s cell f v := fun {f v} h1 h2 => by
    obtain ⟨q1, q2⟩ := Takes.of_laid (v := v) hk hord h1 h2
    exact ⟨by rw [hsz]; simpa using q1, by rw [u2]; exact q2⟩
  have fS' : fits T6.fStack.type (.ref u) = true := by rw [Y.stackType]; rfl
  have hSE := W' (.selects rxN tFill tFill) (by simp [excAtoms]) (by simp [tFill, tFill0])
  obtain ⟨v6, vm6, ⟨T7, L7, c7, n7⟩, hW6, X6, ⟨hv6, vm', lines, hlen, -, hU, hL6, hc6, hn6⟩, come⟩ := X.virtualBack hx (own := tN) (C := rxN) (index := 27) (y := tFill) (z := tFill) hown (W' (.methodLink tN 27 tFill) (by simp [excAtoms, throwableAtoms]) (by simp)) (W' (.declares tFill) (by simp [excAtoms]) (by simp)) (notFace_of_selects hSE) hSE (W' (.instanceMethod tFill) (by simp [excAtoms, throwableAtoms]) (by simp)) (by decide)
    (fillPays (l := l) (W := W) hx htr T6 L Y.fill (u0 := ⟨.ref u, rfl⟩) (by simp) (self := a) (cell := cell) (cellS := cellS) (fun _ => by rw [u2]; simp) (by rw [u2]; simp) (by rw [u3]) (by rw [u3]) t7 hsel0 hneS hknS s7 (tk tyS fS')
      ⟨{ ci198 := ci198, i198 := i198, fBack := fB }, ⟨hk198, hg198, ha198, hsB⟩, v7⟩ hTK hBelow Y.found hO hkO hkindO hfb hfd
      (fun x => tk tyB (by rw [htB]; rfl)) (fun x => tk tyD (by rw [htD]; rfl)) hf hlo)
    (b := a) (cB := cell.cls) hfound ⟨cell, by rw [eT]; exact e1, rfl, e4⟩ (g := g) hg hsize (Steps.refl _) (argsL := []) (rest := rest)
    (fun sig h => by rw [show parseMethodDescriptor tFill.desc = some ⟨[], some (.object tN)⟩ from by decide +kernel] at h; rw [← Option.some.inj h]; rfl) hs hW hd
    (fun vmx hWx => ⟨rfl, hc, hsl, by show T.heap[a]? = _; rw [eT]; exact e1, by show T.heap[T6.aS]? = _; rw [eT]; exact s5⟩)
  dsimp only [Pt.U, Pt.locs, Pt.cells, Pt.slots] at X6 hU hL6 hc6 hn6 come
  subst hv6 hL6 hc6 hn6
  have lt : a < h.size := (Array.getElem?_eq_some_iff.mp e1).1
  have eB : slotOf Z tN "backtrace" obD = fB.slot := by simp [slotOf, v2]
  have eD : slotOf Z tN "depth" "I" = fD.slot := by simp [slotOf, hffE]
  have eS : slotOf Z tN "stackTrace" steD = T6.fStack.slot := by simp [slotOf, t2]
  have lB : fB.slot < cell.slots.size := (tk (v := .null) tyB (by rw [htB]; rfl)).1
  have lD : fD.slot < cell.slots.size := (tk (v := .int 0) tyD (by rw [htD]; rfl)).1
  have lS : T6.fStack.slot < cell.slots.size := (tk tyS fS').1
  have lt1 : a < (h.push (traceHolder cO lines)).size := by rw [Array.size_push]; exact Nat.lt_succ_of_lt lt
  have q1 : (h.push (traceHolder cO lines))[a]? = some cell := by rw [Array.getElem?_push_lt lt]; exact (Array.getElem?_eq_getElem lt).symm.trans e1
  refine ⟨T7, h.push (traceHolder cO lines), (h.push (traceHolder cO lines)).setIfInBounds a (cell.setSlot fB.slot (.ref h.size)), ((h.push (traceHolder cO lines)).setIfInBounds a (cell.setSlot fB.slot (.ref h.size))).setIfInBounds a ((cell.setSlot fB.slot (.ref h.size)).setSlot fD.slot (.int lines.length.toInt32)), _, _, h.size, lines.length.toInt32,
    X6.more (Nat.le_refl _) (Nat.add_le_add_left (traceHolder_size_le cO hlen) _), rfl, N0.app fun y hy => ?_, ext_of fun x q => (Array.getElem?_push_lt q).trans (Array.getElem?_eq_getElem q).symm, ?_, ?_, ?_, fun target q => come.trans q⟩
  · simp only [List.mem_cons, List.not_mem_nil, or_false] at hy
    rcases hy with rfl | rfl | rfl <;> exact ge
  · rw [eB]; exact own_wr q1 e4 lB
  · rw [eD]; exact own_wr (by rw [Array.getElem?_setIfInBounds_self_of_lt lt1]) e4 (by simpa [Cell.setSlot] using lD)
  · rw [eS, hU]
    have eh : T.heap = h := eT
    refine ⟨(cell.setSlot fB.slot (.ref h.size)).setSlot fD.slot (.int lines.length.toInt32), ?_, e4, by simpa [Cell.setSlot] using lS, ?_⟩
    · rw [Array.getElem?_setIfInBounds_self_of_lt (by simpa using lt1)]
    · show (T.heap.push (traceHolder cO lines)).setIfInBounds a _ = _
      rw [eh]
      simp only [Array.setIfInBounds_setIfInBounds]
      show _ = (h.push (traceHolder cO lines)).setIfInBounds a _
      rw [show (T.setVm vm6).heap.size = h.size from by rw [← eT]; rfl]
end OwnFill
end Jvm.RoadKit
namespace Jvm.RoadKit
open Sem ClassFile Op Lib Jvm.Stand Jvm.Free Jvm.LawKit Bundle Jvm.Free.Exc
section OwnSync
variable {p : Program} {l : Launch} {e : Env} {R : Room} {s : State} {m : MethodId} {args : Array Value} {below : List Frame} {meth : Method} {c : Code} {T : State} {locs : List Loc} {cells slots : Nat} {Z : State} {h h' : Heap} {a b : Addr} {a0 : Array Value}
theorem own_leaveSW {cell : Cell} {vm1 : Vm} (X : Stand p l e R ((s.setCell a (cell.withEntry s.cur)).setVm vm1) m args below meth c T locs cells slots) {n : Nat} (hS : (s.setCell a (cell.withEntry s.cur)).Since vm1 n) (hn : n ≤ T.heap.size) (hc : s.heap[a]? = some cell) (ho : cell.enterable s.cur) (hl : meth.locks = true)
    {v : Option Value} (hv : meth.sig.returnType = none → v = none) : ∃ (V : State) (cT : Cell), T.heap[a]? = some cT ∧ (∀ (f : JFrame) (acts : List Action), f.method = m → f.locked = some a → f.entered = [] → (doReturn e (T.setTop f) acts v).1 = V) ∧ V.status = .running ∧ Ended V below (.returned v) ∧ V.heap = T.heap.setIfInBounds a cT.left ∧ ReturnedEndW s (.returned v) V locs cells slots := by
  have X' : Stand p l e R ((s.setVm vm1).setCell a (cell.withEntry (s.setVm vm1).cur)) m args below meth c T locs cells slots := X
  obtain ⟨fs, cT, hcT, hr, hrun, hend, h1, h2⟩ := X'.leaveSync (s := s.setVm vm1) hc ho hl hv
  have sz : (s.setCell a (cell.withEntry s.cur)).heap.size = s.heap.size := by show (s.heap.setIfInBounds a _).size = _; simp
  have hS' : s.Since vm1 n := ⟨hS.1, fun j q h1 h2 => by have := hS.2 j q h1 h2; rw [sz] at this; exact this⟩
  obtain ⟨q1, q2, q3⟩ := hS'.ended (U := (T.setCell a cT.left).setFrames fs) h1 (by show n ≤ (T.heap.setIfInBounds a _).size; simpa using hn) h2
  exact ⟨_, cT, hcT, hr, hrun, hend, rfl, ⟨v, rfl⟩, q1, q2, q3⟩
theorem own_keepMon {cl : Cell} (q : h[a]? = some cl) (mo : Monitor) : Keep h (h.setIfInBounds a { cl with monitor := mo }) [a] := by
  have lt := (Array.getElem?_eq_some_iff.mp q).1
  refine ⟨by simp, fun x cx hx hn => ?_, fun x cx hx => ?_⟩
  · have : a ≠ x := fun z => hn (by simp [z])
    rw [Array.getElem?_setIfInBounds_ne this]; exact hx
  · by_cases z : a = x
    · subst z; cases q.symm.trans hx
      exact ⟨{ cl with monitor := mo }, by rw [Array.getElem?_setIfInBounds_self_of_lt lt], rfl, rfl, rfl⟩
    · exact ⟨cx, by rw [Array.getElem?_setIfInBounds_ne z]; exact hx, rfl, rfl, rfl⟩
theorem own_left {cT : Cell} : ∃ mo, cT.left = { cT with monitor := mo } := by
  unfold Cell.left
  split <;> exact ⟨_, rfl⟩
abbrev MFS (l : Launch) (Z : State) (y : MethodName) (code : ByteArray) (maxL : Nat) (rm : Room) (as' : Array Value) (h0 : Heap) (Q : Option Value → Heap → List Loc → Prop) : Prop :=
  MetFree l y (head1 [Cond.codeSync y code maxL none, Cond.instanceMethod y] rm) (fun as U => as = as' ∧ Z.Warmed39 U.vm ∧ U.heap = h0) (fun _ _ _ _ _ => True) (fun _ U o U' => ∃ v L, o = .returned v ∧ Q v U'.heap L ∧ ReturnedEndW U o U' L rm.cells rm.slots)
theorem own_bodySW {y : MethodName} {code : ByteArray} {maxL : Nat} {rm : Room} {as' : Array Value} {h0 : Heap} {Q : Option Value → Heap → List Loc → Prop} {cls : String} (hp : plainFor y = true) (hc : y.cls = cls) (ha : as'[0]? = some (.ref a)) (N : Unt h0 a)
    (body : ∀ (p : Program) (e : Env) (s : State) (m : MethodId) (below : List Frame) (meth : Method) (c : Code) (s₁ : State), p.tables.exec = Jvm.exec → c.code = code → c.maxLocals = maxL → s.vm.findClass cls = some m.cls → meth.name = y.name → meth.sig.returnType = none → Z.Warmed39 s.vm → Stand p l e rm (s.setVm s.vm) m as' below meth c s₁ [] 0 0 → Mon h0 s₁.heap → Keep h0 s₁.heap [a] →
      ∃ (T : State) (L : List Loc) (k n : Nat) (vm1 : Vm) (n1 : Nat), Stand p l e rm (s.setVm vm1) m as' below meth c T L k n ∧ s.Since vm1 n1 ∧ n1 ≤ T.heap.size ∧ k ≤ rm.cells ∧ n ≤ rm.slots ∧ (∀ h', Mon T.heap h' → Keep T.heap h' [a] → Unt h' a → Q none h' L) ∧
        ∀ V, (∀ (f : JFrame) (acts : List Action), f.method = m → f.locked = some a → f.entered = [] → (doReturn e (T.setTop f) acts none).1 = V) → Steps p.tables e below (s₁.setTop (entryFrameSync m as' maxL a)) V) : MFS l Z y code maxL rm as' h0 Q := by
  refine MetFree.of_bodySync hp (hisS (List.mem_cons_self ..)) (fun _ s _ ⟨h1, _, h2⟩ => by
    obtain ⟨cl, u1, -, u3⟩ := N
    exact ⟨a, cl, by rw [h1]; exact ha, by rw [h2]; exact u1, by rw [Cell.enterable, u3]; simp⟩) ?_
  intro p e s0 m args below meth c a' cell s₁ Bd hml0 hP _
  obtain ⟨rfl, hZ0, hh0⟩ := hP
  cases Option.some.inj (Bd.receiver.symm.trans ha)
  subst hh0
  have M0 : Mon s0.heap s₁.heap := by rw [Bd.state]; exact mon_set Bd.object _
  have K0 : Keep s0.heap s₁.heap [a] := by rw [Bd.state]; exact own_keepMon Bd.object _
  obtain ⟨T, L, k, n, vm1, n1, X, hS, hn1, hk, hn, hQ, hs⟩ := body p e (s0.setCell a (cell.withEntry s0.cur)) m below meth c s₁ Bd.exec Bd.bytes hml0 (hc ▸ findClass_of_methodNamed Bd.named) (name_of_methodNamed Bd.named Bd.method).1 Bd.returns hZ0 (Stand.of_bodySync Bd) M0 K0
  obtain ⟨V, cT, hcT, hr, hrun, hend, hV, hE⟩ := own_leaveSW X hS hn1 Bd.object Bd.enterable Bd.synchronized (v := none) (fun _ => rfl)
  obtain ⟨mo, hmo⟩ := own_left (cT := cT)
  have M1 : Mon T.heap V.heap := by rw [hV, hmo]; exact mon_set hcT mo
  have K1 : Keep T.heap V.heap [a] := by rw [hV, hmo]; exact own_keepMon hcT mo
  have U1 : Unt V.heap a := by
    obtain ⟨cl, u1, u2, u3⟩ := N
    cases Bd.object.symm.trans u1
    obtain ⟨c2, q1, q2, -⟩ := hE.2.2.2.2.2.2.2.2 a cell Bd.object
    exact ⟨c2, q1, by rw [q2]; exact u2, by rw [q2]; exact u3⟩
  exact ⟨V, _, hs V hr, hrun, hend, none, L, rfl, hQ V.heap M1 K1 U1, hE.1, hE.2.1, hE.2.2.1, hE.2.2.2.mono hk hn⟩
theorem own_land {s₂ : State} {v : Option Value} {g : JFrame} {mk : MethodId} {as : Array Value} {ig : Instr} {len k n : Nat} {L : List Loc} (X : Stand p l e R s m args below meth c T locs cells slots) (hg : g.method = m) (hdg : decode c.code g.pc = .ok (ig, len))
    (hend : Ended s₂ (T.setTop g).frames (.returned v)) (hE : ReturnedEndW (T.calling g mk as) (.returned v) s₂ L k n) :
    ∃ V : State, V.heap = s₂.heap ∧ s₂ = V.setTop { g with pc := g.pc + len, stack := v.toList ++ g.stack } ∧ Stand p l e R (s.setVm V.vm) m args below meth c V (locs ++ L) (cells + k) (slots + n) ∧ s.Since V.vm V.heap.size ∧ T.heap.size ≤ V.heap.size := by
  subst hg
  have hw : T.Warmed39 s₂.vm := hE.2.1
  have hb : T.Booked s₂.vm s₂.heap.size := hE.2.2.1
  obtain ⟨same0, grow⟩ := hE.2.2.2
  obtain ⟨g₀, hg0⟩ := Option.isSome_iff_exists.mp X.here.top
  obtain ⟨r, hr⟩ := State.topJava?_eq_some.mp hg0
  have tl : T.frames.tail = r := by rw [hr]; rfl
  rw [State.frames_setTop' g X.here.top, tl] at hend
  obtain ⟨c₂, i₂, len₂, d1, d2, d3⟩ := hend
  have d4 : s₂.code? g.method = T.code? g.method := by rw [State.code?_eq, State.code?_eq, hw.alike.method?]
  cases Option.some.inj (d1.symm.trans (d4.trans X.here.code))
  cases hdg.symm.trans d2
  have same : T.sameButNew ({ T with heap := s₂.heap, slotsUsed := s₂.slotsUsed } : State) L k n := by
    obtain ⟨t, ht, -⟩ := State.frames_cons hr
    have f : T.setFrames T.frames = T := State.setFrames_self ht
    refine ⟨?_, grow⟩
    show ({ T with heap := s₂.heap, slotsUsed := s₂.slotsUsed } : State) = { T.setFrames T.frames with heap := s₂.heap, slotsUsed := s₂.slotsUsed }
    rw [f]
  obtain ⟨Y, hS⟩ := X.movedW (T₂ := ({ T with heap := s₂.heap, slotsUsed := s₂.slotsUsed } : State).setVm s₂.vm) ((X.here.setHeapUsed s₂.heap s₂.slotsUsed).setVm hw.alike) X.tail rfl rfl hw hb same
  refine ⟨({ T with heap := s₂.heap, slotsUsed := s₂.slotsUsed } : State).setVm s₂.vm, rfl, ?_, Y, hS, same.2.1⟩
  have hr' : (({ T with heap := s₂.heap, slotsUsed := s₂.slotsUsed } : State).setVm s₂.vm).frames = .java g₀ :: r := hr
  rw [State.setTop_of_frames _ hr']
  have back1 := congrArg (fun z : State => z.setVm s₂.vm) same0
  have back : s₂ = ({ (T.calling g mk as).setFrames s₂.frames with heap := s₂.heap, slotsUsed := s₂.slotsUsed } : State).setVm s₂.vm := back1
  refine back.trans ?_
  rw [d3, State.calling_eq X.here.top, State.setFrames_setFrames]
  rfl
theorem own_backSW {y : MethodName} {bytes : ByteArray} {maxL : Nat} {rm : Room} {len W : Nat} {as' : Array Value} {Q : Option Value → Heap → List Loc → Prop}
    (hM : MFS l Z y bytes maxL rm as' h Q) (hZ : Z.Warmed39 s.vm) (wc : (Cond.codeSync y bytes maxL none).before a0 Z = true) (wi : (Cond.instanceMethod y).before a0 Z = true) (wz : (Cond.initialized y.cls).before a0 Z = true) (hf : rm.frames + 1 ≤ R.frames) (hl : W + (maxL + 11) + rm.locals ≤ R.locals) :
    BackS l R p e below s args y len W (fun A a => a = as' ∧ A.U.heap = h ∧ A.cells + rm.cells ≤ R.cells ∧ A.slots + rm.slots ≤ R.slots)
      (fun A _ v B => ∃ L, Q v B.U.heap L ∧ B.locs = A.locs ++ L ∧ B.cells = A.cells + rm.cells ∧ B.slots = A.slots + rm.slots) := by
  rintro m meth c ⟨U, Ls, nc, ns⟩ g ig mk as X hg hsize hdg hW hn ⟨rfl, p2, p3, p4⟩
  dsimp only [Pt.U, Pt.locs, Pt.cells, Pt.slots] at p2 p3 p4 X hn ⊢
  have hU : Z.Warmed39 U.vm := wtrans hZ X.warmed
  have wcU : (Cond.codeSync y bytes maxL none).before as U = true := mv hU wc
  obtain ⟨my, cy, y1, y2, -, y3, -⟩ := Cond.codeSync_spec hn wcU
  obtain ⟨ky, y4, -⟩ := className_of_methodNamed hn
  have at' : At U g.method c below := hg.symm ▸ X.here
  have app : (head1 [Cond.codeSync y bytes maxL none, Cond.instanceMethod y] rm).appliesLoose y e.platform (U.calling g mk as) = true :=
    Spec.appliesLoose_calling at' hdg hn y4 (Cond.initialized_spec (findClass_of_methodNamed hn) y4 (mv (args := as) hU wz)) (X.room_calling (R' := rm) hsize y1 y2 hf (by rw [y3]; omega) p3 p4) (by
      show (Cond.and _ (Cond.and _ .tt)).before as U = true
      rw [Cond.before_and, Cond.before_and, wcU, mv hU wi]; rfl)
  obtain ⟨mid, hmid⟩ := at'.above
  obtain ⟨o, s₂, run, -, hend, v, L, rfl, hQ, hE⟩ := Steps.callFree hM p X.admits X.cas X.clock (acts := []) (mid := .java g :: mid) (below := below) (by rw [State.frames_setTop' g at'.top, hmid]; rfl) app ⟨rfl, hU, p2⟩ trivial
  obtain ⟨V, e1, e2, Y, hS, hle⟩ := own_land X hg hdg hend hE
  exact ⟨v, ⟨V, Ls ++ L, nc + rm.cells, ns + rm.slots⟩, Y, hS, hle, ⟨L, by show Q v V.heap L; rw [e1]; exact hQ, rfl, rfl, rfl⟩, e2 ▸ run⟩
end OwnSync
end Jvm.RoadKit
namespace Jvm.Pilot.@@N@@
open Jvm Jvm.ClassFile Sem Op Lib Jvm.Free Jvm.Stand Jvm.LawKit Jvm.RoadKit Bundle Jvm.Pilot.@@N@@.Jvm.D
set_option maxRecDepth 65536
set_option maxHeartbeats 40000000
abbrev HW (Z : State) (a0 : Array Value) : Prop := ∀ d ∈ tables_1, d.before a0 Z = true
abbrev oR (f c s l : Nat) : Room := { frames := f, cells := c, slots := s, locals := l }
abbrev MF (l : Launch) (Z : State) (y : MethodName) (code : ByteArray) (maxL : Nat) (ret : Option FieldType) (ws : List Jvm.Cond) (rm : Room) (as' : Array Value) (h0 : Heap) (Q : Option Value → Heap → List Loc → Prop) : Prop :=
  MetFree l y (head1 (Jvm.Cond.code y code maxL ret :: ws) rm) (fun a U => a = as' ∧ Z.Warmed39 U.vm ∧ U.heap = h0) (fun _ _ _ _ _ => True) (fun _ U o U' => ∃ v L, o = .returned v ∧ Q v U'.heap L ∧ FrameEnd U o U' L rm.cells rm.slots)
theorem own_body {l : Launch} {Z : State} {y : MethodName} {code : ByteArray} {maxL : Nat} {ret : Option FieldType} {ws : List Jvm.Cond} {rm : Room} {as' : Array Value} {h0 : Heap} {Q : Option Value → Heap → List Loc → Prop} {cls : String} (hp : plainFor y = true) (hc : y.cls = cls)
    (body : ∀ (p : Program) (e : Env) (s : State) (m : MethodId) (below : List Frame) (meth : Method) (c : Code) (s₁ : State), p.tables.exec = Jvm.exec → c.code = code → c.maxLocals = maxL → s.vm.findClass cls = some m.cls → meth.name = y.name → meth.sig.returnType = ret → Z.Warmed39 s.vm → Stand p l e rm s m as' below meth c s₁ [] 0 0 → s₁.heap = h0 →
      ∃ (T : State) (L : List Loc) (k n : Nat) (v : Option Value), Stand p l e rm s m as' below meth c T L k n ∧ k ≤ rm.cells ∧ n ≤ rm.slots ∧ (ret = none → v = none) ∧ Q v T.heap L ∧ ∀ fs, (∀ (f : JFrame) (acts : List Action), f.method = m → f.locked = none → f.entered = [] → (doReturn e (T.setTop f) acts v).1 = T.setFrames fs) → Steps p.tables e below (s₁.setTop (entryFrame m as' maxL)) (T.setFrames fs)) : MF l Z y code maxL ret ws rm as' h0 Q := by
  refine MetFree.of_bodySF hp hisR ?_
  intro p e s m args below meth c s₁ Bd hml0 hP hK
  obtain ⟨rfl, hZ, hh⟩ := hP
  obtain ⟨T, L, k, n, v, X, hk, hn, hv, hQ, hs⟩ := body p e s m below meth c s₁ Bd.exec Bd.bytes hml0 (hc ▸ findClass_of_methodNamed Bd.named) (name_of_methodNamed Bd.named Bd.method).1 Bd.returns hZ (Stand.of_body Bd) (by rw [← hh, Bd.state]; rfl)
  obtain ⟨fs, hr, hrun, hended, hW, hsame⟩ := X.leave (v := v) (fun h => hv (by rw [← Bd.returns]; exact h))
  exact ⟨_, _, hs fs hr, hrun, hended, v, L, rfl, hQ, ⟨_, rfl⟩, hW, hsame.mono hk hn⟩
abbrev MFK (l : Launch) (Z : State) (y : MethodName) (code : ByteArray) (maxL : Nat) (ret : Option FieldType) (ws : List Jvm.Cond) (rm : Room) (as' : Array Value) (h0 : Heap) (Q : Option Value → Heap → List Loc → Prop) : Prop :=
  MetFree l y (head1 (Jvm.Cond.code y code maxL ret :: ws) rm) (fun a U => a = as' ∧ Z.Warmed39 U.vm ∧ U.heap = h0) (fun _ _ bl s _ => s.vm.MethodsKnown ∧ s.vm.FramesKnown bl) (fun _ U o U' => ∃ v L, o = .returned v ∧ Q v U'.heap L ∧ FrameEnd U o U' L rm.cells rm.slots)
theorem own_bodyK {l : Launch} {Z : State} {y : MethodName} {code : ByteArray} {maxL : Nat} {ret : Option FieldType} {ws : List Jvm.Cond} {rm : Room} {as' : Array Value} {h0 : Heap} {Q : Option Value → Heap → List Loc → Prop} {cls : String} (hp : plainFor y = true) (hc : y.cls = cls)
    (body : ∀ (p : Program) (e : Env) (s : State) (m : MethodId) (below : List Frame) (meth : Method) (c : Code) (s₁ : State), p.tables.exec = Jvm.exec → c.code = code → c.maxLocals = maxL → s.vm.findClass cls = some m.cls → meth.name = y.name → meth.sig.returnType = ret → Z.Warmed39 s.vm → Stand p l e rm s m as' below meth c s₁ [] 0 0 → s₁.heap = h0 → s.heap = h0 → s.vm.MethodsKnown → s.vm.FramesKnown below →
      ∃ (T : State) (L : List Loc) (k n : Nat) (v : Option Value), Stand p l e rm s m as' below meth c T L k n ∧ k ≤ rm.cells ∧ n ≤ rm.slots ∧ (ret = none → v = none) ∧ Q v T.heap L ∧ ∀ fs, (∀ (f : JFrame) (acts : List Action), f.method = m → f.locked = none → f.entered = [] → (doReturn e (T.setTop f) acts v).1 = T.setFrames fs) → Steps p.tables e below (s₁.setTop (entryFrame m as' maxL)) (T.setFrames fs)) : MFK l Z y code maxL ret ws rm as' h0 Q := by
  refine MetFree.of_bodySF hp hisR ?_
  intro p e s m args below meth c s₁ Bd hml0 hP hK
  obtain ⟨rfl, hZ, hh⟩ := hP
  obtain ⟨T, L, k, n, v, X, hk, hn, hv, hQ, hs⟩ := body p e s m below meth c s₁ Bd.exec Bd.bytes hml0 (hc ▸ findClass_of_methodNamed Bd.named) (name_of_methodNamed Bd.named Bd.method).1 Bd.returns hZ (Stand.of_body Bd) (by rw [← hh, Bd.state]; rfl) hh hK.1 hK.2
  obtain ⟨fs, hr, hrun, hended, hW, hsame⟩ := X.leave (v := v) (fun h => hv (by rw [← Bd.returns]; exact h))
  exact ⟨_, _, hs fs hr, hrun, hended, v, L, rfl, hQ, ⟨_, rfl⟩, hW, hsame.mono hk hn⟩
theorem own_l {a b : Nat} (h : a < b) : a < b := h
theorem own_ne {a b : Nat} (h : a < b ∨ b < a) : a ≠ b := by omega
abbrev vI (x : Int32) : Slot := .val (.int x)
abbrev vA (a : Addr) : Slot := .val (.ref a)
theorem own_cat {v : Value} (h : v.isRef = true) : v.category = 1 := by rcases ref_cases h with rfl | ⟨_, rfl⟩ <;> rfl
theorem own_narrow_ref {t : FieldType} {v : Value} (h : v.isRef = true) : narrow t v = v := by rcases ref_cases h with rfl | ⟨_, rfl⟩ <;> (cases t <;> rfl)
theorem own_fits_ref {t : FieldType} {v : Value} (h : v.isRef = true) (ht : t.isReference = true) : fits t v = true := by rcases ref_cases h with rfl | ⟨_, rfl⟩ <;> (cases t <;> first | rfl | (cases ht; done))
theorem w_90 {Z : State} {a0 : Array Value} (hw : HW Z a0) : (Jvm.Cond.initialized "java/lang/String").before a0 Z = true := hw _ (List.mem_of_getElem? (i := 90) rfl)
theorem w_91 {Z : State} {a0 : Array Value} (hw : HW Z a0) : (Jvm.Cond.instantiable "java/lang/String" (4 : Nat)).before a0 Z = true := hw _ (List.mem_of_getElem? (i := 91) rfl)
theorem w_92 {Z : State} {a0 : Array Value} (hw : HW Z a0) : (Jvm.Cond.arrayClass FieldType.byte).before a0 Z = true := hw _ (List.mem_of_getElem? (i := 92) rfl)
theorem w_93 {Z : State} {a0 : Array Value} (hw : HW Z a0) : (Jvm.Cond.laysFinal "java/lang/String" "java/lang/String" "value" "[B").before a0 Z = true := hw _ (List.mem_of_getElem? (i := 93) rfl)
theorem w_94 {Z : State} {a0 : Array Value} (hw : HW Z a0) : (Jvm.Cond.laysFinal "java/lang/String" "java/lang/String" "coder" "B").before a0 Z = true := hw _ (List.mem_of_getElem? (i := 94) rfl)
theorem w_95 {Z : State} {a0 : Array Value} (hw : HW Z a0) : (Jvm.Cond.soleField "java/lang/String" "value").before a0 Z = true := hw _ (List.mem_of_getElem? (i := 95) rfl)
theorem w_96 {Z : State} {a0 : Array Value} (hw : HW Z a0) : (Jvm.Cond.soleField "java/lang/String" "coder").before a0 Z = true := hw _ (List.mem_of_getElem? (i := 96) rfl)
theorem w_89 {Z : State} {a0 : Array Value} (hw : HW Z a0) : (Jvm.Cond.stringLink "java/lang/Throwable" (258 : Nat) "Cannot suppress a null exception.").before a0 Z = true := hw _ (List.mem_of_getElem? (i := 89) rfl)
theorem own_wS {Z : State} {a0 : Array Value} (hw : HW Z a0) : ∀ a ∈ Bundle.stringAtoms, a.before a0 Z = true := fun d hd => by
  simp only [Bundle.stringAtoms, Bundle.sN, List.mem_cons, List.not_mem_nil, or_false] at hd
  rcases hd with rfl | rfl | rfl | rfl | rfl | rfl | rfl
  · exact (w_90 hw)
  · exact (w_91 hw)
  · exact (w_92 hw)
  · exact (w_93 hw)
  · exact (w_94 hw)
  · exact (w_95 hw)
  · exact (w_96 hw)
def own_EL : List (String × Nat) := []
theorem own_EW {Z : State} {a0 : Array Value} (hw : HW Z a0) : EW Z a0 own_EL := EW.nil
abbrev fld0 (Z : State) (h : Heap) (a : Addr) (v : Value) : Prop := Fld Z h a "java/util/ArrayList" "size" "I" v
abbrev fld1 (Z : State) (h : Heap) (a : Addr) (v : Value) : Prop := Fld Z h a "java/util/ArrayList" "elementData" "[Ljava/lang/Object;" v
abbrev fld2 (Z : State) (h : Heap) (a : Addr) (v : Value) : Prop := Fld Z h a "java/util/AbstractList" "modCount" "I" v
abbrev fld3 (Z : State) (h : Heap) (a : Addr) (v : Value) : Prop := Fld Z h a "java/lang/Throwable" "suppressedExceptions" "Ljava/util/List;" v
abbrev fld4 (Z : State) (h : Heap) (a : Addr) (v : Value) : Prop := Fld Z h a "java/lang/Throwable" "cause" "Ljava/lang/Throwable;" v
abbrev fld5 (Z : State) (h : Heap) (a : Addr) (v : Value) : Prop := Fld Z h a "java/lang/Throwable" "stackTrace" "[Ljava/lang/StackTraceElement;" v
abbrev fld6 (Z : State) (h : Heap) (a : Addr) (v : Value) : Prop := Fld Z h a "java/lang/Throwable" "detailMessage" "Ljava/lang/String;" v
abbrev fld7 (Z : State) (h : Heap) (a : Addr) (v : Value) : Prop := Fld Z h a "java/lang/Throwable" "backtrace" "Ljava/lang/Object;" v
abbrev fld8 (Z : State) (h : Heap) (a : Addr) (v : Value) : Prop := Fld Z h a "java/lang/Throwable" "depth" "I" v
abbrev fld9 (Z : State) (h : Heap) (a : Addr) (v : Value) : Prop := Fld Z h a "com/example/maat/maat/Failures" "first" "Ljava/lang/Throwable;" v
abbrev sta0 (Z : State) (v : Value) : Prop := Sta Z Z.heap "java/lang/Throwable" "UNASSIGNED_STACK" "[Ljava/lang/StackTraceElement;" v
abbrev sta1 (Z : State) (v : Value) : Prop := Sta Z Z.heap "java/lang/Throwable" "SUPPRESSED_SENTINEL" "Ljava/util/List;" v
theorem w_25 {Z : State} {a0 : Array Value} (hw : HW Z a0) : (Jvm.Cond.initialized "java/lang/Throwable").before a0 Z = true := hw _ (List.mem_of_getElem? (i := 25) rfl)
theorem w_43 {Z : State} {a0 : Array Value} (hw : HW Z a0) : (Jvm.Cond.superclass "java/lang/Throwable" "java/lang/Object").before a0 Z = true := hw _ (List.mem_of_getElem? (i := 43) rfl)
abbrev m_0 : MethodName := (⟨"java/lang/Throwable", "fillInStackTrace", "()Ljava/lang/Throwable;"⟩ : MethodName)
theorem w_38 {Z : State} {a0 : Array Value} (hw : HW Z a0) : (Jvm.Cond.instanceMethod m_0).before a0 Z = true := hw _ (List.mem_of_getElem? (i := 38) rfl)
theorem w_44 {Z : State} {a0 : Array Value} (hw : HW Z a0) : (Jvm.Cond.codeSync m_0 jdk_78_method_18_code (1 : Nat) (Option.some (FieldType.object "java/lang/Throwable"))).before a0 Z = true := hw _ (List.mem_of_getElem? (i := 44) rfl)
abbrev m_1 : MethodName := (⟨"java/lang/Throwable", "fillInStackTrace", "(I)Ljava/lang/Throwable;"⟩ : MethodName)
theorem w_45 {Z : State} {a0 : Array Value} (hw : HW Z a0) : (Jvm.Cond.instanceMethod m_1).before a0 Z = true := hw _ (List.mem_of_getElem? (i := 45) rfl)
theorem w_46 {Z : State} {a0 : Array Value} (hw : HW Z a0) : (Jvm.Cond.native m_1).before a0 Z = true := hw _ (List.mem_of_getElem? (i := 46) rfl)
abbrev m_2 : MethodName := (⟨"java/lang/Throwable", "<init>", "()V"⟩ : MethodName)
theorem w_22 {Z : State} {a0 : Array Value} (hw : HW Z a0) : (Jvm.Cond.instanceMethod m_2).before a0 Z = true := hw _ (List.mem_of_getElem? (i := 22) rfl)
theorem w_26 {Z : State} {a0 : Array Value} (hw : HW Z a0) : (Jvm.Cond.code m_2 jdk_78_method_1_code (1 : Nat) (Option.none : Option Jvm.ClassFile.FieldType)).before a0 Z = true := hw _ (List.mem_of_getElem? (i := 26) rfl)
abbrev m_3 : MethodName := (⟨"java/lang/Object", "<init>", "()V"⟩ : MethodName)
theorem w_7 {Z : State} {a0 : Array Value} (hw : HW Z a0) : (Jvm.Cond.instanceMethod m_3).before a0 Z = true := hw _ (List.mem_of_getElem? (i := 7) rfl)
theorem w_8 {Z : State} {a0 : Array Value} (hw : HW Z a0) : (Jvm.Cond.code m_3 object_method_1_code (1 : Nat) (Option.none : Option Jvm.ClassFile.FieldType)).before a0 Z = true := hw _ (List.mem_of_getElem? (i := 8) rfl)
theorem w_27 {Z : State} {a0 : Array Value} (hw : HW Z a0) : (Jvm.Cond.methodLink "java/lang/Throwable" (1 : Nat) m_3).before a0 Z = true := hw _ (List.mem_of_getElem? (i := 27) rfl)
theorem w_36 {Z : State} {a0 : Array Value} (hw : HW Z a0) : (Jvm.Cond.methodLink "java/lang/Throwable" (27 : Nat) m_0).before a0 Z = true := hw _ (List.mem_of_getElem? (i := 36) rfl)
theorem w_47 {Z : State} {a0 : Array Value} (hw : HW Z a0) : (Jvm.Cond.methodLink "java/lang/Throwable" (202 : Nat) m_1).before a0 Z = true := hw _ (List.mem_of_getElem? (i := 47) rfl)
theorem w_28 {Z : State} {a0 : Array Value} (hw : HW Z a0) : (Jvm.Cond.fieldLink "java/lang/Throwable" (7 : Nat) "java/lang/Throwable" "cause" "Ljava/lang/Throwable;").before a0 Z = true := hw _ (List.mem_of_getElem? (i := 28) rfl)
theorem w_48 {Z : State} {a0 : Array Value} (hw : HW Z a0) : (Jvm.Cond.lays "java/lang/Throwable" "java/lang/Throwable" "cause" "Ljava/lang/Throwable;").before a0 Z = true := hw _ (List.mem_of_getElem? (i := 48) rfl)
theorem w_31 {Z : State} {a0 : Array Value} (hw : HW Z a0) : (Jvm.Cond.fieldLink "java/lang/Throwable" (17 : Nat) "java/lang/Throwable" "stackTrace" "[Ljava/lang/StackTraceElement;").before a0 Z = true := hw _ (List.mem_of_getElem? (i := 31) rfl)
theorem w_49 {Z : State} {a0 : Array Value} (hw : HW Z a0) : (Jvm.Cond.lays "java/lang/Throwable" "java/lang/Throwable" "stackTrace" "[Ljava/lang/StackTraceElement;").before a0 Z = true := hw _ (List.mem_of_getElem? (i := 49) rfl)
theorem w_34 {Z : State} {a0 : Array Value} (hw : HW Z a0) : (Jvm.Cond.fieldLink "java/lang/Throwable" (24 : Nat) "java/lang/Throwable" "suppressedExceptions" "Ljava/util/List;").before a0 Z = true := hw _ (List.mem_of_getElem? (i := 34) rfl)
theorem w_30 {Z : State} {a0 : Array Value} (hw : HW Z a0) : (Jvm.Cond.fieldLink "java/lang/Throwable" (13 : Nat) "java/lang/Throwable" "UNASSIGNED_STACK" "[Ljava/lang/StackTraceElement;").before a0 Z = true := hw _ (List.mem_of_getElem? (i := 30) rfl)
theorem w_53 {Z : State} {a0 : Array Value} (hw : HW Z a0) : (Jvm.Cond.laysStatic "java/lang/Throwable" "UNASSIGNED_STACK" "[Ljava/lang/StackTraceElement;").before a0 Z = true := hw _ (List.mem_of_getElem? (i := 53) rfl)
theorem w_33 {Z : State} {a0 : Array Value} (hw : HW Z a0) : (Jvm.Cond.fieldLink "java/lang/Throwable" (20 : Nat) "java/lang/Throwable" "SUPPRESSED_SENTINEL" "Ljava/util/List;").before a0 Z = true := hw _ (List.mem_of_getElem? (i := 33) rfl)
theorem w_54 {Z : State} {a0 : Array Value} (hw : HW Z a0) : (Jvm.Cond.laysStatic "java/lang/Throwable" "SUPPRESSED_SENTINEL" "Ljava/util/List;").before a0 Z = true := hw _ (List.mem_of_getElem? (i := 54) rfl)
theorem w_50 {Z : State} {a0 : Array Value} (hw : HW Z a0) : (Jvm.Cond.lays "java/lang/Throwable" "java/lang/Throwable" "detailMessage" "Ljava/lang/String;").before a0 Z = true := hw _ (List.mem_of_getElem? (i := 50) rfl)
theorem w_37 {Z : State} {a0 : Array Value} (hw : HW Z a0) : (Jvm.Cond.declares m_0).before a0 Z = true := hw _ (List.mem_of_getElem? (i := 37) rfl)
theorem w_55 {Z : State} {a0 : Array Value} (hw : HW Z a0) : (Jvm.Cond.selects "java/lang/RuntimeException" m_1 m_1).before a0 Z = true := hw _ (List.mem_of_getElem? (i := 55) rfl)
theorem w_39 {Z : State} {a0 : Array Value} (hw : HW Z a0) : (Jvm.Cond.selects "java/lang/RuntimeException" m_0 m_0).before a0 Z = true := hw _ (List.mem_of_getElem? (i := 39) rfl)
theorem w_29 {Z : State} {a0 : Array Value} (hw : HW Z a0) : (Jvm.Cond.lays "java/lang/RuntimeException" "java/lang/Throwable" "cause" "Ljava/lang/Throwable;").before a0 Z = true := hw _ (List.mem_of_getElem? (i := 29) rfl)
theorem w_32 {Z : State} {a0 : Array Value} (hw : HW Z a0) : (Jvm.Cond.lays "java/lang/RuntimeException" "java/lang/Throwable" "stackTrace" "[Ljava/lang/StackTraceElement;").before a0 Z = true := hw _ (List.mem_of_getElem? (i := 32) rfl)
theorem w_35 {Z : State} {a0 : Array Value} (hw : HW Z a0) : (Jvm.Cond.lays "java/lang/RuntimeException" "java/lang/Throwable" "suppressedExceptions" "Ljava/util/List;").before a0 Z = true := hw _ (List.mem_of_getElem? (i := 35) rfl)
theorem w_56 {Z : State} {a0 : Array Value} (hw : HW Z a0) : (Jvm.Cond.lays "java/lang/RuntimeException" "java/lang/Throwable" "detailMessage" "Ljava/lang/String;").before a0 Z = true := hw _ (List.mem_of_getElem? (i := 56) rfl)
theorem w_51 {Z : State} {a0 : Array Value} (hw : HW Z a0) : (Jvm.Cond.fieldLink "java/lang/Throwable" (198 : Nat) "java/lang/Throwable" "backtrace" "Ljava/lang/Object;").before a0 Z = true := hw _ (List.mem_of_getElem? (i := 51) rfl)
theorem w_52 {Z : State} {a0 : Array Value} (hw : HW Z a0) : (Jvm.Cond.lays "java/lang/Throwable" "java/lang/Throwable" "backtrace" "Ljava/lang/Object;").before a0 Z = true := hw _ (List.mem_of_getElem? (i := 52) rfl)
theorem w_57 {Z : State} {a0 : Array Value} (hw : HW Z a0) : (Jvm.Cond.lays "java/lang/RuntimeException" "java/lang/Throwable" "backtrace" "Ljava/lang/Object;").before a0 Z = true := hw _ (List.mem_of_getElem? (i := 57) rfl)
theorem w_40 {Z : State} {a0 : Array Value} (hw : HW Z a0) : (Jvm.Cond.arrayOver (FieldType.object "java/lang/Object")).before a0 Z = true := hw _ (List.mem_of_getElem? (i := 40) rfl)
theorem w_41 {Z : State} {a0 : Array Value} (hw : HW Z a0) : (Jvm.Cond.soleField "java/lang/Throwable" "backtrace").before a0 Z = true := hw _ (List.mem_of_getElem? (i := 41) rfl)
theorem w_42 {Z : State} {a0 : Array Value} (hw : HW Z a0) : (Jvm.Cond.soleField "java/lang/Throwable" "depth").before a0 Z = true := hw _ (List.mem_of_getElem? (i := 42) rfl)
theorem w_58 {Z : State} {a0 : Array Value} (hw : HW Z a0) : (Jvm.Cond.lays "java/lang/RuntimeException" "java/lang/Throwable" "depth" "I").before a0 Z = true := hw _ (List.mem_of_getElem? (i := 58) rfl)
theorem own_exc {Z : State} {a0 : Array Value} (hw : HW Z a0) : ∀ d ∈ Jvm.Free.Exc.excAtoms rxN, d = spA ∨ d.before a0 Z = true := fun d hd => by
  simp only [Jvm.Free.Exc.excAtoms, Bundle.throwableAtoms, List.mem_append, List.mem_cons, List.not_mem_nil, or_false] at hd
  rcases hd with (rfl | rfl | rfl | rfl | rfl | rfl | rfl | rfl | rfl | rfl | rfl | rfl | rfl | rfl | rfl | rfl | rfl | rfl | rfl | rfl | rfl | rfl | rfl | rfl) | (rfl | rfl | rfl | rfl | rfl | rfl | rfl | rfl | rfl | rfl | rfl | rfl | rfl | rfl)
  · exact Or.inr (w_25 hw)
  · exact Or.inr (w_43 hw)
  · exact Or.inr (w_38 hw)
  · exact Or.inr (w_44 hw)
  · exact Or.inr (w_45 hw)
  · exact Or.inr (w_46 hw)
  · exact Or.inr (w_22 hw)
  · exact Or.inr (w_26 hw)
  · exact Or.inr (w_7 hw)
  · exact Or.inr (w_8 hw)
  · exact Or.inr (w_27 hw)
  · exact Or.inr (w_36 hw)
  · exact Or.inr (w_47 hw)
  · exact Or.inr (w_28 hw)
  · exact Or.inr (w_48 hw)
  · exact Or.inr (w_31 hw)
  · exact Or.inr (w_49 hw)
  · exact Or.inr (w_34 hw)
  · exact Or.inl rfl
  · exact Or.inr (w_30 hw)
  · exact Or.inr (w_53 hw)
  · exact Or.inr (w_33 hw)
  · exact Or.inr (w_54 hw)
  · exact Or.inr (w_50 hw)
  · exact Or.inr (w_37 hw)
  · exact Or.inr (w_55 hw)
  · exact Or.inr (w_39 hw)
  · exact Or.inr (w_29 hw)
  · exact Or.inr (w_32 hw)
  · exact Or.inr (w_35 hw)
  · exact Or.inr (w_56 hw)
  · exact Or.inr (w_51 hw)
  · exact Or.inr (w_52 hw)
  · exact Or.inr (w_57 hw)
  · exact Or.inr (w_40 hw)
  · exact Or.inr (w_41 hw)
  · exact Or.inr (w_42 hw)
  · exact Or.inr (w_58 hw)
theorem d0 : decode jdk_78_method_1_code 0 = .ok (.aload_n 0, 1) := by decide +kernel
theorem d1 : decode jdk_78_method_1_code 1 = .ok (.invokespecial 1, 3) := by decide +kernel
theorem d2 : decode jdk_78_method_1_code 4 = .ok (.aload_n 0, 1) := by decide +kernel
theorem d3 : decode jdk_78_method_1_code 5 = .ok (.aload_n 0, 1) := by decide +kernel
theorem w_10 {Z : State} {a0 : Array Value} (hw : HW Z a0) : (Jvm.Cond.instantiable "java/lang/RuntimeException" (6 : Nat)).before a0 Z = true := hw _ (List.mem_of_getElem? (i := 10) rfl)
theorem d4 : decode jdk_78_method_1_code 6 = .ok (.putfield 7, 3) := by decide +kernel
theorem d5 : decode jdk_78_method_1_code 9 = .ok (.aload_n 0, 1) := by decide +kernel
theorem d6 : decode jdk_78_method_1_code 10 = .ok (.getstatic 13, 3) := by decide +kernel
theorem d7 : decode jdk_78_method_1_code 13 = .ok (.putfield 17, 3) := by decide +kernel
theorem d8 : decode jdk_78_method_1_code 16 = .ok (.aload_n 0, 1) := by decide +kernel
theorem d9 : decode jdk_78_method_1_code 17 = .ok (.getstatic 20, 3) := by decide +kernel
theorem d10 : decode jdk_78_method_1_code 20 = .ok (.putfield 24, 3) := by decide +kernel
theorem d11 : decode jdk_78_method_1_code 23 = .ok (.aload_n 0, 1) := by decide +kernel
theorem d12 : decode jdk_78_method_1_code 24 = .ok (.invokevirtual 27, 3) := by decide +kernel
theorem d13 : decode jdk_78_method_1_code 27 = .ok (.pop, 1) := by decide +kernel
theorem d14 : decode jdk_78_method_1_code 28 = .ok (.return_, 1) := by decide +kernel
theorem pn_0 : plainName "java/lang/Throwable" = true := by first | (simp [plainName, overriddenIn]; done) | decide +kernel
theorem ef_0 (m : MethodId) (x0 : Addr) : entryFrame m #[(.ref x0)] 1 = mkF m 0 #[vA x0] [] := by first | (simp [entryFrame, mkF, argsToLocals, Value.category, maxLocals]; done) | rfl
def Q_thi (Z : State) (a_ : Addr) (su : Addr) (sn : Addr) (h0 : Heap) (n0 : Nat) (v : Option Value) (h : Heap) (L : List Loc) : Prop := (v = none) ∧ (Fr n0 L) ∧ (Keep h0 h [a_]) ∧ (Exa Z h a_ "java/lang/RuntimeException") ∧ (Unt h a_) ∧ (fld3 Z h a_ (.ref sn))
theorem rm_thi (l : Launch) (Z : State) (a0 : Array Value) (hw : HW Z a0) (ws : List Jvm.Cond) (a_ : Addr) (su : Addr) (sn : Addr) (h0 : Heap) (n0 : Nat) (Z0 : n0 ≤ h0.size) (P0 : Old Z n0 h0) (P1 : sta0 Z (.ref su)) (P2 : sta1 Z (.ref sn)) (P3 : Exa Z h0 a_ "java/lang/RuntimeException") (P4 : Unt h0 a_) (P5 : fld4 Z h0 a_ .null) (P6 : fld5 Z h0 a_ .null) (P7 : fld3 Z h0 a_ .null) (P8 : fld7 Z h0 a_ .null) (P9 : fld8 Z h0 a_ (.int 0)) (P10 : n0 ≤ a_) (hst : l.stackTraces = true) :
    MFK l Z m_2 jdk_78_method_1_code 1 none ws (oR 3 1 2752 42) #[(.ref a_)] h0 (Q_thi Z a_ su sn h0 n0) := by
  refine own_bodyK (cls := "java/lang/Throwable") (plainFor_of_name pn_0) rfl (fun p e s m below meth c s₁ hx hby hml hown hnm hret hZ X0 e0 hs0 hTK hBl => ?_)
  have N0 := Fr.nil n0
  have K0 := Keep.refl h0 [a_]
  have lt1 := own_l P3.lt
  have lt2 := own_l P5.lt
  have lt3 := own_l P6.lt
  have lt4 := own_l P7.lt
  have lt5 := own_l P8.lt
  have lt6 := own_l P9.lt
  obtain ⟨T7, X7, e7, st7⟩ := initO X0 hx hZ hown (w_27 hw) (w_7 hw) (w_8 hw) e0 (g := (mkF m 1 #[vA a_] [(.ref a_)])) rfl (by rw [hml]; rfl) rfl (hb hby d1) (by decide) (W := 0) (Nat.le_of_eq rfl) (by decide)
  obtain ⟨T8, h8, X8, e8, W8, st8⟩ := putF X7 hx hZ hown (host := "") (Or.inl (w_28 hw)) Via.refl e7 P5 P3 (Or.inl (w_29 hw)) (w_10 hw) (ty := (.object "java/lang/Throwable")) (by decide) rfl rfl (g := (mkF m 6 #[vA a_] [(.ref a_), (.ref a_)])) rfl rfl (hb hby d4)
  have F8 := P5.same W8
  have z8 := W8.size
  have K8 := K0.wr W8 (Or.inl (List.mem_of_getElem? (i := 0) rfl))
  have N8 := Fr.snoc X8 N0 (by omega)
  have f10 := P0.wr W8 (by omega)
  obtain ⟨T9, X9, e9, st9⟩ := getS2 X8 hx hZ hown (host := "") (Or.inl (w_30 hw)) Via.refl e8 (P1.ext f10.2) (g := (mkF m 10 #[vA a_] [(.ref a_)])) rfl (hb hby d6)
  have f12 := P6.other W8 (Or.inr (slot_ne (a0 := a0) (t := (.array (.object "java/lang/StackTraceElement"))) (t' := (.object "java/lang/Throwable")) (Or.inl (w_32 hw)) (Or.inl (w_29 hw)) (by decide) (by decide) (by decide)))
  have f13 := P3.wr W8
  obtain ⟨T11, h11, X11, e11, W11, st11⟩ := putF X9 hx hZ hown (host := "") (Or.inl (w_31 hw)) Via.refl e9 f12 f13 (Or.inl (w_32 hw)) (w_10 hw) (ty := (.array (.object "java/lang/StackTraceElement"))) (by decide) rfl rfl (g := (mkF m 13 #[vA a_] [(.ref su), (.ref a_)])) rfl rfl (hb hby d7)
  have F11 := f12.same W11
  have z11 := W11.size
  have K11 := K8.wr W11 (Or.inl (List.mem_of_getElem? (i := 0) rfl))
  have N11 := Fr.snoc X11 N8 (by omega)
  have f15 := f10.wr W11 (by omega)
  obtain ⟨T14, X14, e14, st14⟩ := getS2 X11 hx hZ hown (host := "") (Or.inl (w_33 hw)) Via.refl e11 (P2.ext f15.2) (g := (mkF m 17 #[vA a_] [(.ref a_)])) rfl (hb hby d9)
  have f17 := P7.other W8 (Or.inr (slot_ne (a0 := a0) (t := (.object "java/util/List")) (t' := (.object "java/lang/Throwable")) (Or.inl (w_35 hw)) (Or.inl (w_29 hw)) (by decide) (by decide) (by decide)))
  have f18 := f17.other W11 (Or.inr (slot_ne (a0 := a0) (t := (.object "java/util/List")) (t' := (.array (.object "java/lang/StackTraceElement"))) (Or.inl (w_35 hw)) (Or.inl (w_32 hw)) (by decide) (by decide) (by decide)))
  have f19 := f13.wr W11
  obtain ⟨T16, h16, X16, e16, W16, st16⟩ := putF X14 hx hZ hown (host := "") (Or.inl (w_34 hw)) Via.refl e14 f18 f19 (Or.inl (w_35 hw)) (w_10 hw) (ty := (.object "java/util/List")) (by decide) rfl rfl (g := (mkF m 20 #[vA a_] [(.ref sn), (.ref a_)])) rfl rfl (hb hby d10)
  have F16 := f18.same W16
  have z16 := W16.size
  have K16 := K11.wr W16 (Or.inl (List.mem_of_getElem? (i := 0) rfl))
  have N16 := Fr.snoc X16 N11 (by omega)
  have f24 := f19.wr W16
  have f25 := P4.wr W8
  have f26 := f25.wr W11
  have f27 := f26.wr W16
  have f28 := P8.other W8 (Or.inr (slot_ne (a0 := a0) (t := (.object "java/lang/Object")) (t' := (.object "java/lang/Throwable")) (Or.inl (w_57 hw)) (Or.inl (w_29 hw)) (by decide) (by decide) (by decide)))
  have f29 := f28.other W11 (Or.inr (slot_ne (a0 := a0) (t := (.object "java/lang/Object")) (t' := (.array (.object "java/lang/StackTraceElement"))) (Or.inl (w_57 hw)) (Or.inl (w_32 hw)) (by decide) (by decide) (by decide)))
  have f30 := f29.other W16 (Or.inr (slot_ne (a0 := a0) (t := (.object "java/lang/Object")) (t' := (.object "java/util/List")) (Or.inl (w_57 hw)) (Or.inl (w_35 hw)) (by decide) (by decide) (by decide)))
  have f31 := F11.other W16 (Or.inr (slot_ne (a0 := a0) (t := (.array (.object "java/lang/StackTraceElement"))) (t' := (.object "java/util/List")) (Or.inl (w_32 hw)) (Or.inl (w_35 hw)) (by decide) (by decide) (by decide)))
  have f32 := f15.wr W16 (by omega)
  obtain ⟨T23, h20, h21, h22, h23, L23, nb23, nd23, X23, e23, N23, E20, W21, W22, W23, st23⟩ := own_fill X16 hx hst hZ hown (w_10 hw) (own_exc hw) (own_ths (by rw [hs0]; exact P0)) hTK hBl e16 f24 f27 f30 f31 (P1.ext f32.2) N16 (by omega) (g := (mkF m 24 #[vA a_] [(.ref a_)])) rfl (by rw [hml]; rfl) rfl (hb hby d12) (by decide) (W := 0) (Nat.le_of_eq rfl) (by decide) (by decide) (by decide)
  have z20 := E20.1
  have K20 := K16.ext E20
  have z21 := W21.size
  have K21 := K20.wr W21 (Or.inl (List.mem_of_getElem? (i := 0) rfl))
  have z22 := W22.size
  have K22 := K21.wr W22 (Or.inl (List.mem_of_getElem? (i := 0) rfl))
  have z23 := W23.size
  have K23 := K22.wr W23 (Or.inl (List.mem_of_getElem? (i := 0) rfl))
  have f33 := f24.ext E20
  have f34 := f33.wr W21
  have f35 := f34.wr W22
  have f36 := f35.wr W23
  have f37 := f27.ext E20
  have f38 := f37.wr W21
  have f39 := f38.wr W22
  have f40 := f39.wr W23
  have f41 := F16.ext E20
  have f42 := f41.other W21 (Or.inr (slot_ne (a0 := a0) (t := (.object "java/util/List")) (t' := (.object "java/lang/Object")) (Or.inl (w_35 hw)) (Or.inl (w_57 hw)) (by decide) (by decide) (by decide)))
  have f43 := f42.other W22 (Or.inr (slot_ne (a0 := a0) (t := (.object "java/util/List")) (t' := .int) (Or.inl (w_35 hw)) (Or.inl (w_58 hw)) (by decide) (by decide) (by decide)))
  have f44 := f43.other W23 (Or.inr (slot_ne (a0 := a0) (t := (.object "java/util/List")) (t' := (.array (.object "java/lang/StackTraceElement"))) (Or.inl (w_35 hw)) (Or.inl (w_32 hw)) (by decide) (by decide) (by decide)))
  refine ⟨_, _, _, _, none, X23, by decide, by decide, fun _ => rfl, ?_, fun fs hr => castTop (ef_0 m a_) ?_⟩
  · show Q_thi Z a_ su sn h0 n0 _ T23.heap _
    rw [(e23 : T23.heap = h23)]
    exact ⟨rfl, N23, K23, f36, f40, f44⟩
  · show Steps _ _ _ (s₁.setTop (mkF m 0 #[vA a_] [])) _
    refine XS.aloadN X0.here hx rfl (hb hby d0) rfl rfl ?_
    refine st7 _ ?_
    show Steps _ _ _ (T7.setTop (mkF m 4 #[vA a_] [])) _
    refine XS.aloadN X7.here hx rfl (hb hby d2) rfl rfl ?_
    refine XS.aloadN X7.here hx rfl (hb hby d3) rfl rfl ?_
    refine st8 _ ?_
    show Steps _ _ _ (T8.setTop (mkF m 9 #[vA a_] [])) _
    refine XS.aloadN X8.here hx rfl (hb hby d5) rfl rfl ?_
    refine st9 _ ?_
    show Steps _ _ _ (T9.setTop (mkF m 13 #[vA a_] [(.ref su), (.ref a_)])) _
    refine st11 _ ?_
    show Steps _ _ _ (T11.setTop (mkF m 16 #[vA a_] [])) _
    refine XS.aloadN X11.here hx rfl (hb hby d8) rfl rfl ?_
    refine st14 _ ?_
    show Steps _ _ _ (T14.setTop (mkF m 20 #[vA a_] [(.ref sn), (.ref a_)])) _
    refine st16 _ ?_
    show Steps _ _ _ (T16.setTop (mkF m 23 #[vA a_] [])) _
    refine XS.aloadN X16.here hx rfl (hb hby d11) rfl rfl ?_
    refine st23 _ ?_
    show Steps _ _ _ (T23.setTop (mkF m 27 #[vA a_] [(.ref a_)])) _
    refine XS.pop X23.here hx rfl (hb hby d13) rfl rfl ?_
    exact X23.returnOut hx hret (hb hby d14) hr
theorem d15 : decode jdk_59_method_1_code 0 = .ok (.aload_n 0, 1) := by decide +kernel
theorem w_21 {Z : State} {a0 : Array Value} (hw : HW Z a0) : (Jvm.Cond.methodLink "java/lang/Exception" (1 : Nat) m_2).before a0 Z = true := hw _ (List.mem_of_getElem? (i := 21) rfl)
theorem pd_0 : parseMethodDescriptor "()V" = some ⟨[], none⟩ := by decide +kernel
theorem d16 : decode jdk_59_method_1_code 1 = .ok (.invokespecial 1, 3) := by decide +kernel
theorem d17 : decode jdk_59_method_1_code 4 = .ok (.return_, 1) := by decide +kernel
theorem pn_1 : plainName "java/lang/Exception" = true := by first | (simp [plainName, overriddenIn]; done) | decide +kernel
abbrev m_4 : MethodName := (⟨"java/lang/Exception", "<init>", "()V"⟩ : MethodName)
def Q_exi (Z : State) (a_ : Addr) (su : Addr) (sn : Addr) (h0 : Heap) (n0 : Nat) (v : Option Value) (h : Heap) (L : List Loc) : Prop := (v = none) ∧ (Fr n0 L) ∧ (Keep h0 h [a_]) ∧ (Exa Z h a_ "java/lang/RuntimeException") ∧ (Unt h a_) ∧ (fld3 Z h a_ (.ref sn))
theorem rm_exi (l : Launch) (Z : State) (a0 : Array Value) (hw : HW Z a0) (ws : List Jvm.Cond) (a_ : Addr) (su : Addr) (sn : Addr) (h0 : Heap) (n0 : Nat) (Z0 : n0 ≤ h0.size) (P0 : Old Z n0 h0) (P1 : sta0 Z (.ref su)) (P2 : sta1 Z (.ref sn)) (P3 : Exa Z h0 a_ "java/lang/RuntimeException") (P4 : Unt h0 a_) (P5 : fld4 Z h0 a_ .null) (P6 : fld5 Z h0 a_ .null) (P7 : fld3 Z h0 a_ .null) (P8 : fld7 Z h0 a_ .null) (P9 : fld8 Z h0 a_ (.int 0)) (P10 : n0 ≤ a_) (hst : l.stackTraces = true) :
    MFK l Z m_4 jdk_59_method_1_code 1 none ws (oR 4 1 2752 54) #[(.ref a_)] h0 (Q_exi Z a_ su sn h0 n0) := by
  refine own_bodyK (cls := "java/lang/Exception") (plainFor_of_name pn_1) rfl (fun p e s m below meth c s₁ hx hby hml hown hnm hret hZ X0 e0 hs0 hTK hBl => ?_)
  have N0 := Fr.nil n0
  have K0 := Keep.refl h0 [a_]
  have lt1 := own_l P3.lt
  have lt2 := own_l P5.lt
  have lt3 := own_l P6.lt
  have lt4 := own_l P7.lt
  have lt5 := own_l P8.lt
  have lt6 := own_l P9.lt
  obtain ⟨_, _, ⟨T7, L7, k7, n7⟩, -, X7, ⟨Lc7, hQ7, l7, y7, z7⟩, st7⟩ := X0.specialBack hx (y := m_2) rfl hown (mvT hZ (w_21 hw)) (mvT hZ (w_22 hw)) (mvT hZ (w_26 hw)) (by decide) (backOfKL (W := 0) (rm_thi l Z a0 hw [] a_ su sn h0 n0 (by omega) P0 P1 P2 P3 P4 P5 P6 P7 P8 P9 (by omega) hst) hZ (w_26 hw) (w_25 hw) (by decide) (by decide) hTK hBl) (g := (mkF m 1 #[vA a_] [(.ref a_)])) rfl (by rw [hml]; rfl) (Steps.refl _) (a := a_) (argsL := []) (rest := []) (lenOf pd_0 rfl) rfl (Nat.le_of_eq rfl) (hb hby d16) (fun _ _ => ⟨rfl, e0, (by decide : 0 + 1 ≤ _), (by decide : 0 + 2752 ≤ _)⟩)
  dsimp only [Pt.U, Pt.locs, Pt.cells, Pt.slots] at X7 l7 y7 z7 st7 hQ7
  rw [l7, y7, z7] at X7
  obtain ⟨rfl, Nq7, Kq7, r7_0, r7_1, r7_2⟩ := hQ7
  have N7 := Fr.app N0 Nq7
  have z7' := Kq7.1
  have K7 := K0.trans Kq7 (allS (Or.inl (List.mem_of_getElem? (i := 0) rfl)) all0)
  have lt8 := own_l r7_0.lt
  have lt9 := own_l r7_2.lt
  refine ⟨_, _, _, _, none, X7, by decide, by decide, fun _ => rfl, ?_, fun fs hr => castTop (ef_0 m a_) ?_⟩
  · show Q_exi Z a_ su sn h0 n0 _ T7.heap _
    exact ⟨rfl, N7, K7, r7_0, r7_1, r7_2⟩
  · show Steps _ _ _ (s₁.setTop (mkF m 0 #[vA a_] [])) _
    refine XS.aloadN X0.here hx rfl (hb hby d15) rfl rfl ?_
    refine st7.trans ?_
    show Steps _ _ _ (T7.setTop (mkF m 4 #[vA a_] [])) _
    exact X7.returnOut hx hret (hb hby d17) hr
theorem d18 : decode jdk_58_method_1_code 0 = .ok (.aload_n 0, 1) := by decide +kernel
theorem w_15 {Z : State} {a0 : Array Value} (hw : HW Z a0) : (Jvm.Cond.methodLink "java/lang/RuntimeException" (1 : Nat) m_4).before a0 Z = true := hw _ (List.mem_of_getElem? (i := 15) rfl)
theorem w_20 {Z : State} {a0 : Array Value} (hw : HW Z a0) : (Jvm.Cond.code m_4 jdk_59_method_1_code (1 : Nat) (Option.none : Option Jvm.ClassFile.FieldType)).before a0 Z = true := hw _ (List.mem_of_getElem? (i := 20) rfl)
theorem w_19 {Z : State} {a0 : Array Value} (hw : HW Z a0) : (Jvm.Cond.initialized "java/lang/Exception").before a0 Z = true := hw _ (List.mem_of_getElem? (i := 19) rfl)
theorem d19 : decode jdk_58_method_1_code 1 = .ok (.invokespecial 1, 3) := by decide +kernel
theorem w_16 {Z : State} {a0 : Array Value} (hw : HW Z a0) : (Jvm.Cond.instanceMethod m_4).before a0 Z = true := hw _ (List.mem_of_getElem? (i := 16) rfl)
theorem d20 : decode jdk_58_method_1_code 4 = .ok (.return_, 1) := by decide +kernel
theorem pn_2 : plainName "java/lang/RuntimeException" = true := by first | (simp [plainName, overriddenIn]; done) | decide +kernel
abbrev m_5 : MethodName := (⟨"java/lang/RuntimeException", "<init>", "()V"⟩ : MethodName)
def Q_rti (Z : State) (a_ : Addr) (su : Addr) (sn : Addr) (h0 : Heap) (n0 : Nat) (v : Option Value) (h : Heap) (L : List Loc) : Prop := (v = none) ∧ (Fr n0 L) ∧ (Keep h0 h [a_]) ∧ (Exa Z h a_ "java/lang/RuntimeException") ∧ (Unt h a_) ∧ (fld3 Z h a_ (.ref sn))
theorem rm_rti (l : Launch) (Z : State) (a0 : Array Value) (hw : HW Z a0) (ws : List Jvm.Cond) (a_ : Addr) (su : Addr) (sn : Addr) (h0 : Heap) (n0 : Nat) (Z0 : n0 ≤ h0.size) (P0 : Old Z n0 h0) (P1 : sta0 Z (.ref su)) (P2 : sta1 Z (.ref sn)) (P3 : Exa Z h0 a_ "java/lang/RuntimeException") (P4 : Unt h0 a_) (P5 : fld4 Z h0 a_ .null) (P6 : fld5 Z h0 a_ .null) (P7 : fld3 Z h0 a_ .null) (P8 : fld7 Z h0 a_ .null) (P9 : fld8 Z h0 a_ (.int 0)) (P10 : n0 ≤ a_) (hst : l.stackTraces = true) :
    MFK l Z m_5 jdk_58_method_1_code 1 none ws (oR 5 1 2752 66) #[(.ref a_)] h0 (Q_rti Z a_ su sn h0 n0) := by
  refine own_bodyK (cls := "java/lang/RuntimeException") (plainFor_of_name pn_2) rfl (fun p e s m below meth c s₁ hx hby hml hown hnm hret hZ X0 e0 hs0 hTK hBl => ?_)
  have N0 := Fr.nil n0
  have K0 := Keep.refl h0 [a_]
  have lt1 := own_l P3.lt
  have lt2 := own_l P5.lt
  have lt3 := own_l P6.lt
  have lt4 := own_l P7.lt
  have lt5 := own_l P8.lt
  have lt6 := own_l P9.lt
  obtain ⟨_, _, ⟨T7, L7, k7, n7⟩, -, X7, ⟨Lc7, hQ7, l7, y7, z7⟩, st7⟩ := X0.specialBack hx (y := m_4) rfl hown (mvT hZ (w_15 hw)) (mvT hZ (w_16 hw)) (mvT hZ (w_20 hw)) (by decide) (backOfKL (W := 0) (rm_exi l Z a0 hw [] a_ su sn h0 n0 (by omega) P0 P1 P2 P3 P4 P5 P6 P7 P8 P9 (by omega) hst) hZ (w_20 hw) (w_19 hw) (by decide) (by decide) hTK hBl) (g := (mkF m 1 #[vA a_] [(.ref a_)])) rfl (by rw [hml]; rfl) (Steps.refl _) (a := a_) (argsL := []) (rest := []) (lenOf pd_0 rfl) rfl (Nat.le_of_eq rfl) (hb hby d19) (fun _ _ => ⟨rfl, e0, (by decide : 0 + 1 ≤ _), (by decide : 0 + 2752 ≤ _)⟩)
  dsimp only [Pt.U, Pt.locs, Pt.cells, Pt.slots] at X7 l7 y7 z7 st7 hQ7
  rw [l7, y7, z7] at X7
  obtain ⟨rfl, Nq7, Kq7, r7_0, r7_1, r7_2⟩ := hQ7
  have N7 := Fr.app N0 Nq7
  have z7' := Kq7.1
  have K7 := K0.trans Kq7 (allS (Or.inl (List.mem_of_getElem? (i := 0) rfl)) all0)
  have lt8 := own_l r7_0.lt
  have lt9 := own_l r7_2.lt
  refine ⟨_, _, _, _, none, X7, by decide, by decide, fun _ => rfl, ?_, fun fs hr => castTop (ef_0 m a_) ?_⟩
  · show Q_rti Z a_ su sn h0 n0 _ T7.heap _
    exact ⟨rfl, N7, K7, r7_0, r7_1, r7_2⟩
  · show Steps _ _ _ (s₁.setTop (mkF m 0 #[vA a_] [])) _
    refine XS.aloadN X0.here hx rfl (hb hby d18) rfl rfl ?_
    refine st7.trans ?_
    show Steps _ _ _ (T7.setTop (mkF m 4 #[vA a_] [])) _
    exact X7.returnOut hx hret (hb hby d20) hr
theorem d21 : decode jdk_22_method_1_code 0 = .ok (.aload_n 0, 1) := by decide +kernel
theorem w_120 {Z : State} {a0 : Array Value} (hw : HW Z a0) : (Jvm.Cond.methodLink "java/util/AbstractCollection" (1 : Nat) m_3).before a0 Z = true := hw _ (List.mem_of_getElem? (i := 120) rfl)
theorem d22 : decode jdk_22_method_1_code 1 = .ok (.invokespecial 1, 3) := by decide +kernel
theorem d23 : decode jdk_22_method_1_code 4 = .ok (.return_, 1) := by decide +kernel
theorem pn_3 : plainName "java/util/AbstractCollection" = true := by first | (simp [plainName, overriddenIn]; done) | decide +kernel
abbrev m_6 : MethodName := (⟨"java/util/AbstractCollection", "<init>", "()V"⟩ : MethodName)
def Q_aci (Z : State) (a_ : Addr) (h0 : Heap) (n0 : Nat) (v : Option Value) (h : Heap) (L : List Loc) : Prop := (v = none) ∧ (Fr n0 L) ∧ (h = h0)
theorem rm_aci (l : Launch) (Z : State) (a0 : Array Value) (hw : HW Z a0) (ws : List Jvm.Cond) (a_ : Addr) (h0 : Heap) (n0 : Nat) (Z0 : n0 ≤ h0.size) :
    MF l Z m_6 jdk_22_method_1_code 1 none ws (oR 1 0 0 12) #[(.ref a_)] h0 (Q_aci Z a_ h0 n0) := by
  refine own_body (cls := "java/util/AbstractCollection") (plainFor_of_name pn_3) rfl (fun p e s m below meth c s₁ hx hby hml hown hnm hret hZ X0 e0 => ?_)
  have N0 := Fr.nil n0
  obtain ⟨T1, X1, e1, st1⟩ := initO X0 hx hZ hown (w_120 hw) (w_7 hw) (w_8 hw) e0 (g := (mkF m 1 #[vA a_] [(.ref a_)])) rfl (by rw [hml]; rfl) rfl (hb hby d22) (by decide) (W := 0) (Nat.le_of_eq rfl) (by decide)
  refine ⟨_, _, _, _, none, X1, by decide, by decide, fun _ => rfl, ?_, fun fs hr => castTop (ef_0 m a_) ?_⟩
  · show Q_aci Z a_ h0 n0 _ T1.heap _
    rw [(e1 : T1.heap = h0)]
    exact ⟨rfl, N0, rfl⟩
  · show Steps _ _ _ (s₁.setTop (mkF m 0 #[vA a_] [])) _
    refine XS.aloadN X0.here hx rfl (hb hby d21) rfl rfl ?_
    refine st1 _ ?_
    show Steps _ _ _ (T1.setTop (mkF m 4 #[vA a_] [])) _
    exact X1.returnOut hx hret (hb hby d23) hr
theorem d24 : decode jdk_39_method_1_code 0 = .ok (.aload_n 0, 1) := by decide +kernel
theorem w_114 {Z : State} {a0 : Array Value} (hw : HW Z a0) : (Jvm.Cond.methodLink "java/util/AbstractList" (1 : Nat) m_6).before a0 Z = true := hw _ (List.mem_of_getElem? (i := 114) rfl)
theorem w_119 {Z : State} {a0 : Array Value} (hw : HW Z a0) : (Jvm.Cond.code m_6 jdk_22_method_1_code (1 : Nat) (Option.none : Option Jvm.ClassFile.FieldType)).before a0 Z = true := hw _ (List.mem_of_getElem? (i := 119) rfl)
theorem w_118 {Z : State} {a0 : Array Value} (hw : HW Z a0) : (Jvm.Cond.initialized "java/util/AbstractCollection").before a0 Z = true := hw _ (List.mem_of_getElem? (i := 118) rfl)
theorem d25 : decode jdk_39_method_1_code 1 = .ok (.invokespecial 1, 3) := by decide +kernel
theorem w_115 {Z : State} {a0 : Array Value} (hw : HW Z a0) : (Jvm.Cond.instanceMethod m_6).before a0 Z = true := hw _ (List.mem_of_getElem? (i := 115) rfl)
theorem d26 : decode jdk_39_method_1_code 4 = .ok (.aload_n 0, 1) := by decide +kernel
theorem d27 : decode jdk_39_method_1_code 5 = .ok (.iconst 0, 1) := by decide +kernel
theorem w_121 {Z : State} {a0 : Array Value} (hw : HW Z a0) : (Jvm.Cond.fieldLink "java/util/AbstractList" (7 : Nat) "java/util/AbstractList" "modCount" "I").before a0 Z = true := hw _ (List.mem_of_getElem? (i := 121) rfl)
theorem w_122 {Z : State} {a0 : Array Value} (hw : HW Z a0) : (Jvm.Cond.lays "java/util/ArrayList" "java/util/AbstractList" "modCount" "I").before a0 Z = true := hw _ (List.mem_of_getElem? (i := 122) rfl)
theorem w_102 {Z : State} {a0 : Array Value} (hw : HW Z a0) : (Jvm.Cond.instantiable "java/util/ArrayList" (3 : Nat)).before a0 Z = true := hw _ (List.mem_of_getElem? (i := 102) rfl)
theorem d28 : decode jdk_39_method_1_code 6 = .ok (.putfield 7, 3) := by decide +kernel
theorem d29 : decode jdk_39_method_1_code 9 = .ok (.return_, 1) := by decide +kernel
theorem w_138 {Z : State} {a0 : Array Value} (hw : HW Z a0) : (Jvm.Cond.lays "java/util/ArrayList" "java/util/ArrayList" "size" "I").before a0 Z = true := hw _ (List.mem_of_getElem? (i := 138) rfl)
theorem w_125 {Z : State} {a0 : Array Value} (hw : HW Z a0) : (Jvm.Cond.lays "java/util/ArrayList" "java/util/ArrayList" "elementData" "[Ljava/lang/Object;").before a0 Z = true := hw _ (List.mem_of_getElem? (i := 125) rfl)
theorem pn_4 : plainName "java/util/AbstractList" = true := by first | (simp [plainName, overriddenIn]; done) | decide +kernel
abbrev m_7 : MethodName := (⟨"java/util/AbstractList", "<init>", "()V"⟩ : MethodName)
def Q_abl (Z : State) (a_ : Addr) (h0 : Heap) (n0 : Nat) (v : Option Value) (h : Heap) (L : List Loc) : Prop := (v = none) ∧ (Fr n0 L) ∧ (Keep h0 h [a_]) ∧ (Exa Z h a_ "java/util/ArrayList") ∧ (fld2 Z h a_ (.int 0)) ∧ (fld0 Z h a_ (.int 0)) ∧ (fld1 Z h a_ .null)
theorem rm_abl (l : Launch) (Z : State) (a0 : Array Value) (hw : HW Z a0) (ws : List Jvm.Cond) (a_ : Addr) (h0 : Heap) (n0 : Nat) (Z0 : n0 ≤ h0.size) (P0 : Exa Z h0 a_ "java/util/ArrayList") (P1 : fld2 Z h0 a_ (.int 0)) (P2 : fld0 Z h0 a_ (.int 0)) (P3 : fld1 Z h0 a_ .null) (P4 : n0 ≤ a_) :
    MF l Z m_7 jdk_39_method_1_code 1 none ws (oR 2 0 0 24) #[(.ref a_)] h0 (Q_abl Z a_ h0 n0) := by
  refine own_body (cls := "java/util/AbstractList") (plainFor_of_name pn_4) rfl (fun p e s m below meth c s₁ hx hby hml hown hnm hret hZ X0 e0 => ?_)
  have N0 := Fr.nil n0
  have K0 := Keep.refl h0 [a_]
  have lt1 := own_l P0.lt
  have lt2 := own_l P1.lt
  have lt3 := own_l P2.lt
  have lt4 := own_l P3.lt
  obtain ⟨_, _, ⟨T5, L5, k5, n5⟩, -, X5, ⟨Lc5, hQ5, l5, y5, z5⟩, st5⟩ := X0.specialBack hx (y := m_6) rfl hown (mvT hZ (w_114 hw)) (mvT hZ (w_115 hw)) (mvT hZ (w_119 hw)) (by decide) (backOf (W := 0) (rm_aci l Z a0 hw [] a_ h0 n0 (by omega) ) hZ (w_119 hw) (w_118 hw) (by decide) (by decide)) (g := (mkF m 1 #[vA a_] [(.ref a_)])) rfl (by rw [hml]; rfl) (Steps.refl _) (a := a_) (argsL := []) (rest := []) (lenOf pd_0 rfl) rfl (Nat.le_of_eq rfl) (hb hby d25) (fun _ _ => ⟨rfl, e0, (by decide : 0 + 0 ≤ _), (by decide : 0 + 0 ≤ _)⟩)
  dsimp only [Pt.U, Pt.locs, Pt.cells, Pt.slots] at X5 l5 y5 z5 st5 hQ5
  rw [l5, y5, z5] at X5
  obtain ⟨rfl, Nq5, Kq5⟩ := hQ5
  have N5 := Fr.app N0 Nq5
  obtain ⟨T6, h6, X6, e6, W6, st6⟩ := putF X5 hx hZ hown (host := "") (Or.inl (w_121 hw)) Via.refl Kq5 P1 P0 (Or.inl (w_122 hw)) (w_102 hw) (ty := .int) (by decide) rfl rfl (g := (mkF m 6 #[vA a_] [(.int 0), (.ref a_)])) rfl rfl (hb hby d28)
  have F6 := P1.same W6
  have z6 := W6.size
  have K6 := K0.wr W6 (Or.inl (List.mem_of_getElem? (i := 0) rfl))
  have N6 := Fr.snoc X6 N5 (by omega)
  have f7 := P0.wr W6
  have f8 := P2.other W6 (Or.inr (slot_ne (a0 := a0) (t := .int) (t' := .int) (Or.inl (w_138 hw)) (Or.inl (w_122 hw)) (by decide) (by decide) (by decide)))
  have f9 := P3.other W6 (Or.inr (slot_ne (a0 := a0) (t := (.array (.object "java/lang/Object"))) (t' := .int) (Or.inl (w_125 hw)) (Or.inl (w_122 hw)) (by decide) (by decide) (by decide)))
  refine ⟨_, _, _, _, none, X6, by decide, by decide, fun _ => rfl, ?_, fun fs hr => castTop (ef_0 m a_) ?_⟩
  · show Q_abl Z a_ h0 n0 _ T6.heap _
    rw [(e6 : T6.heap = h6)]
    exact ⟨rfl, N6, K6, f7, F6, f8, f9⟩
  · show Steps _ _ _ (s₁.setTop (mkF m 0 #[vA a_] [])) _
    refine XS.aloadN X0.here hx rfl (hb hby d24) rfl rfl ?_
    refine st5.trans ?_
    show Steps _ _ _ (T5.setTop (mkF m 4 #[vA a_] [])) _
    refine XS.aloadN X5.here hx rfl (hb hby d26) rfl rfl ?_
    refine XS.iconst X5.here hx rfl (hb hby d27) ?_
    refine st6 _ ?_
    show Steps _ _ _ (T6.setTop (mkF m 9 #[vA a_] [])) _
    exact X6.returnOut hx hret (hb hby d29) hr
theorem d30 : decode jdk_38_method_1_code 0 = .ok (.aload_n 0, 1) := by decide +kernel
theorem w_108 {Z : State} {a0 : Array Value} (hw : HW Z a0) : (Jvm.Cond.methodLink "java/util/ArrayList" (1 : Nat) m_7).before a0 Z = true := hw _ (List.mem_of_getElem? (i := 108) rfl)
theorem w_113 {Z : State} {a0 : Array Value} (hw : HW Z a0) : (Jvm.Cond.code m_7 jdk_39_method_1_code (1 : Nat) (Option.none : Option Jvm.ClassFile.FieldType)).before a0 Z = true := hw _ (List.mem_of_getElem? (i := 113) rfl)
theorem w_112 {Z : State} {a0 : Array Value} (hw : HW Z a0) : (Jvm.Cond.initialized "java/util/AbstractList").before a0 Z = true := hw _ (List.mem_of_getElem? (i := 112) rfl)
theorem d31 : decode jdk_38_method_1_code 1 = .ok (.invokespecial 1, 3) := by decide +kernel
theorem w_109 {Z : State} {a0 : Array Value} (hw : HW Z a0) : (Jvm.Cond.instanceMethod m_7).before a0 Z = true := hw _ (List.mem_of_getElem? (i := 109) rfl)
theorem d32 : decode jdk_38_method_1_code 4 = .ok (.iload_n 1, 1) := by decide +kernel
theorem d33 : decode jdk_38_method_1_code 5 = .ok (.ifCond .le 14, 3) := by decide +kernel
theorem d34 : decode jdk_38_method_1_code 8 = .ok (.aload_n 0, 1) := by decide +kernel
theorem d35 : decode jdk_38_method_1_code 9 = .ok (.iload_n 1, 1) := by decide +kernel
theorem w_123 {Z : State} {a0 : Array Value} (hw : HW Z a0) : (Jvm.Cond.classLink "java/util/ArrayList" (7 : Nat) "java/lang/Object").before a0 Z = true := hw _ (List.mem_of_getElem? (i := 123) rfl)
theorem d36 : decode jdk_38_method_1_code 10 = .ok (.anewarray 7, 3) := by decide +kernel
theorem w_124 {Z : State} {a0 : Array Value} (hw : HW Z a0) : (Jvm.Cond.fieldLink "java/util/ArrayList" (9 : Nat) "java/util/ArrayList" "elementData" "[Ljava/lang/Object;").before a0 Z = true := hw _ (List.mem_of_getElem? (i := 124) rfl)
theorem d37 : decode jdk_38_method_1_code 13 = .ok (.putfield 9, 3) := by decide +kernel
theorem d38 : decode jdk_38_method_1_code 16 = .ok (.goto 44, 3) := by decide +kernel
theorem d39 : decode jdk_38_method_1_code 60 = .ok (.return_, 1) := by decide +kernel
theorem pn_5 : plainName "java/util/ArrayList" = true := by first | (simp [plainName, overriddenIn]; done) | decide +kernel
theorem ef_1 (m : MethodId) (x0 : Addr) (x1 : Int32) : entryFrame m #[(.ref x0), (.int x1)] 2 = mkF m 0 #[vA x0, vI x1] [] := by first | (simp [entryFrame, mkF, argsToLocals, Value.category, maxLocals]; done) | rfl
abbrev m_8 : MethodName := (⟨"java/util/ArrayList", "<init>", "(I)V"⟩ : MethodName)
def Q_ali (Z : State) (a_ : Addr) (h0 : Heap) (n0 : Nat) (v : Option Value) (h : Heap) (L : List Loc) : Prop := ∃ (b : Addr) (k : ClassId), (v = none) ∧ (Fr n0 L) ∧ (Keep h0 h [a_]) ∧ (Exa Z h a_ "java/util/ArrayList") ∧ (fld2 Z h a_ (.int 0)) ∧ (fld0 Z h a_ (.int 0)) ∧ (fld1 Z h a_ (.ref b)) ∧ (h0.size ≤ b) ∧ (Exa Z h b "[Ljava/lang/Object;") ∧ (Arv Z h b k (.object "java/lang/Object") (1 : Int32) [.null] .null) ∧ (Ovr Z k "java/lang/Object")
theorem rm_ali (l : Launch) (Z : State) (a0 : Array Value) (hw : HW Z a0) (ws : List Jvm.Cond) (a_ : Addr) (h0 : Heap) (n0 : Nat) (Z0 : n0 ≤ h0.size) (P0 : Exa Z h0 a_ "java/util/ArrayList") (P1 : fld2 Z h0 a_ (.int 0)) (P2 : fld0 Z h0 a_ (.int 0)) (P3 : fld1 Z h0 a_ .null) (P4 : n0 ≤ a_) :
    MF l Z m_8 jdk_38_method_1_code 2 none ws (oR 3 1 1 36) #[(.ref a_), (.int 1)] h0 (Q_ali Z a_ h0 n0) := by
  refine own_body (cls := "java/util/ArrayList") (plainFor_of_name pn_5) rfl (fun p e s m below meth c s₁ hx hby hml hown hnm hret hZ X0 e0 => ?_)
  have N0 := Fr.nil n0
  have K0 := Keep.refl h0 [a_]
  have lt1 := own_l P0.lt
  have lt2 := own_l P1.lt
  have lt3 := own_l P2.lt
  have lt4 := own_l P3.lt
  obtain ⟨_, _, ⟨T5, L5, k5, n5⟩, -, X5, ⟨Lc5, hQ5, l5, y5, z5⟩, st5⟩ := X0.specialBack hx (y := m_7) rfl hown (mvT hZ (w_108 hw)) (mvT hZ (w_109 hw)) (mvT hZ (w_113 hw)) (by decide) (backOf (W := 0) (rm_abl l Z a0 hw [] a_ h0 n0 (by omega) P0 P1 P2 P3 (by omega)) hZ (w_113 hw) (w_112 hw) (by decide) (by decide)) (g := (mkF m 1 #[vA a_, vI 1] [(.ref a_)])) rfl (by rw [hml]; rfl) (Steps.refl _) (a := a_) (argsL := []) (rest := []) (lenOf pd_0 rfl) rfl (Nat.le_of_eq rfl) (hb hby d31) (fun _ _ => ⟨rfl, e0, (by decide : 0 + 0 ≤ _), (by decide : 0 + 0 ≤ _)⟩)
  dsimp only [Pt.U, Pt.locs, Pt.cells, Pt.slots] at X5 l5 y5 z5 st5 hQ5
  rw [l5, y5, z5] at X5
  obtain ⟨rfl, Nq5, Kq5, r5_0, r5_1, r5_2, r5_3⟩ := hQ5
  have N5 := Fr.app N0 Nq5
  have z5' := Kq5.1
  have K5 := K0.trans Kq5 (allS (Or.inl (List.mem_of_getElem? (i := 0) rfl)) all0)
  have lt6 := own_l r5_0.lt
  have lt7 := own_l r5_1.lt
  have lt8 := own_l r5_2.lt
  have lt9 := own_l r5_3.lt
  obtain ⟨T10, h10, k10, X10, e10, E10, A10, AE10, O10, st10⟩ := newRE X5 hx hZ hown (w_123 hw) (w_40 hw) rfl (g := (mkF m 10 #[vA a_, vI 1] [(.int 1), (.ref a_)])) rfl (hb hby d36) rfl (by decide) (cap := 1) (by decide) (by decide) (by decide) (by decide) (ad := "[Ljava/lang/Object;") (by decide)
  obtain ⟨b10, g10⟩ : ∃ z, z = T5.heap.size := ⟨_, rfl⟩
  rw [← g10] at A10 AE10 st10
  have z10 := E10.1
  have K10 := K5.ext E10
  have V10 : Arv Z h10 b10 k10 (.object "java/lang/Object") (1 : Int32) [.null] .null := (Arv.new A10 (by decide)).pad (pad_rep [] .null 1)
  have lt11 := own_l V10.lt
  have f13 := r5_3.ext E10
  have f14 := r5_0.ext E10
  obtain ⟨T12, h12, X12, e12, W12, st12⟩ := putF X10 hx hZ hown (host := "") (Or.inl (w_124 hw)) Via.refl e10 f13 f14 (Or.inl (w_125 hw)) (w_102 hw) (ty := (.array (.object "java/lang/Object"))) (by decide) rfl rfl (g := (mkF m 13 #[vA a_, vI 1] [(.ref b10), (.ref a_)])) rfl rfl (hb hby d37)
  have F12 := f13.same W12
  have z12 := W12.size
  have K12 := K10.wr W12 (Or.inl (List.mem_of_getElem? (i := 0) rfl))
  have N12 := Fr.snoc X12 N5 (by omega)
  have f15 := f14.wr W12
  have f16 := r5_1.ext E10
  have f17 := f16.other W12 (Or.inr (slot_ne (a0 := a0) (t := .int) (t' := (.array (.object "java/lang/Object"))) (Or.inl (w_122 hw)) (Or.inl (w_125 hw)) (by decide) (by decide) (by decide)))
  have f18 := r5_2.ext E10
  have f19 := f18.other W12 (Or.inr (slot_ne (a0 := a0) (t := .int) (t' := (.array (.object "java/lang/Object"))) (Or.inl (w_138 hw)) (Or.inl (w_125 hw)) (by decide) (by decide) (by decide)))
  have f20 := AE10.wr W12
  have f21 := V10.other W12 (own_ne (by omega))
  refine ⟨_, _, _, _, none, X12, by decide, by decide, fun _ => rfl, ?_, fun fs hr => castTop (ef_1 m a_ (1 : Int32)) ?_⟩
  · show Q_ali Z a_ h0 n0 _ T12.heap _
    rw [(e12 : T12.heap = h12)]
    exact ⟨b10, k10, rfl, N12, K12, f15, f17, f19, F12, (by omega), f20, f21, O10⟩
  · show Steps _ _ _ (s₁.setTop (mkF m 0 #[vA a_, vI 1] [])) _
    refine XS.aloadN X0.here hx rfl (hb hby d30) rfl rfl ?_
    refine st5.trans ?_
    show Steps _ _ _ (T5.setTop (mkF m 4 #[vA a_, vI 1] [])) _
    refine XS.iloadN X5.here hx rfl (hb hby d32) rfl ?_
    refine XS.ifNo X5.here hx rfl (hb hby d33) rfl ((if0 _ _).trans (tlt ((by decide) : (0 : Int32) < (1 : Int32))).2.2.2) ?_
    refine XS.aloadN X5.here hx rfl (hb hby d34) rfl rfl ?_
    refine XS.iloadN X5.here hx rfl (hb hby d35) rfl ?_
    refine st10 _ ?_
    show Steps _ _ _ (T10.setTop (mkF m 13 #[vA a_, vI 1] [(.ref b10), (.ref a_)])) _
    refine st12 _ ?_
    show Steps _ _ _ (T12.setTop (mkF m 16 #[vA a_, vI 1] [])) _
    refine XS.goto X12.here hx rfl (pc0 := 16) (pc' := 60) rfl (hb hby d38) (by decide) (by decide) ?_
    exact X12.returnOut hx hret (hb hby d39) hr
theorem d40 : decode jdk_38_method_24_code 0 = .ok (.iload_n 3, 1) := by decide +kernel
theorem d41 : decode jdk_38_method_24_code 1 = .ok (.aload_n 2, 1) := by decide +kernel
theorem d42 : decode jdk_38_method_24_code 2 = .ok (.arraylength, 1) := by decide +kernel
theorem d43 : decode jdk_38_method_24_code 3 = .ok (.if_icmp .ne 8, 3) := by decide +kernel
theorem d44 : decode jdk_38_method_24_code 11 = .ok (.aload_n 2, 1) := by decide +kernel
theorem d45 : decode jdk_38_method_24_code 12 = .ok (.iload_n 3, 1) := by decide +kernel
theorem d46 : decode jdk_38_method_24_code 13 = .ok (.aload_n 1, 1) := by decide +kernel
theorem w_144 {Z : State} {a0 : Array Value} (hw : HW Z a0) : (Jvm.Cond.castable "java/lang/RuntimeException" "java/lang/Object").before a0 Z = true := hw _ (List.mem_of_getElem? (i := 144) rfl)
theorem d47 : decode jdk_38_method_24_code 14 = .ok (.aastore, 1) := by decide +kernel
theorem d48 : decode jdk_38_method_24_code 15 = .ok (.aload_n 0, 1) := by decide +kernel
theorem d49 : decode jdk_38_method_24_code 16 = .ok (.iload_n 3, 1) := by decide +kernel
theorem d50 : decode jdk_38_method_24_code 17 = .ok (.iconst 1, 1) := by decide +kernel
theorem d51 : decode jdk_38_method_24_code 18 = .ok (.iadd, 1) := by decide +kernel
theorem w_137 {Z : State} {a0 : Array Value} (hw : HW Z a0) : (Jvm.Cond.fieldLink "java/util/ArrayList" (48 : Nat) "java/util/ArrayList" "size" "I").before a0 Z = true := hw _ (List.mem_of_getElem? (i := 137) rfl)
theorem d52 : decode jdk_38_method_24_code 19 = .ok (.putfield 48, 3) := by decide +kernel
theorem d53 : decode jdk_38_method_24_code 22 = .ok (.return_, 1) := by decide +kernel
theorem ef_2 (m : MethodId) (x0 : Addr) (x1 : Addr) (x2 : Addr) (x3 : Int32) : entryFrame m #[(.ref x0), (.ref x1), (.ref x2), (.int x3)] 4 = mkF m 0 #[vA x0, vA x1, vA x2, vI x3] [] := by first | (simp [entryFrame, mkF, argsToLocals, Value.category, maxLocals]; done) | rfl
abbrev m_9 : MethodName := (⟨"java/util/ArrayList", "add", "(Ljava/lang/Object;[Ljava/lang/Object;I)V"⟩ : MethodName)
def Q_addp0 (Z : State) (a_ : Addr) (it : Addr) (mc : Int32) (v_ : Addr) (kv : ClassId) (h0 : Heap) (n0 : Nat) (v : Option Value) (h : Heap) (L : List Loc) : Prop := (v = none) ∧ (Fr n0 L) ∧ (Keep h0 h [a_, v_]) ∧ (Exa Z h a_ "java/util/ArrayList") ∧ (fld2 Z h a_ (.int mc)) ∧ (fld0 Z h a_ (.int 1)) ∧ (fld1 Z h a_ (.ref v_)) ∧ (Exa Z h v_ "[Ljava/lang/Object;") ∧ (Arv Z h v_ kv (.object "java/lang/Object") (1 : Int32) [(.ref it)] .null)
theorem rm_addp0 (l : Launch) (Z : State) (a0 : Array Value) (hw : HW Z a0) (ws : List Jvm.Cond) (a_ : Addr) (it : Addr) (mc : Int32) (v_ : Addr) (kv : ClassId) (h0 : Heap) (n0 : Nat) (Z0 : n0 ≤ h0.size) (P0 : Exa Z h0 a_ "java/util/ArrayList") (P1 : fld2 Z h0 a_ (.int mc)) (P2 : fld0 Z h0 a_ (.int 0)) (P3 : fld1 Z h0 a_ (.ref v_)) (P4 : Exa Z h0 v_ "[Ljava/lang/Object;") (P5 : Arv Z h0 v_ kv (.object "java/lang/Object") (1 : Int32) [.null] .null) (P6 : Ovr Z kv "java/lang/Object") (P7 : Exa Z h0 it "java/lang/RuntimeException") (P8 : n0 ≤ a_) (P9 : n0 ≤ v_) (P10 : a_ ≠ v_) :
    MF l Z m_9 jdk_38_method_24_code 4 none ws (oR 0 0 0 0) #[(.ref a_), (.ref it), (.ref v_), (.int 0)] h0 (Q_addp0 Z a_ it mc v_ kv h0 n0) := by
  refine own_body (cls := "java/util/ArrayList") (plainFor_of_name pn_5) rfl (fun p e s m below meth c s₁ hx hby hml hown hnm hret hZ X0 e0 => ?_)
  have N0 := Fr.nil n0
  have K0 := Keep.refl h0 [a_, v_]
  have lt1 := own_l P0.lt
  have lt2 := own_l P1.lt
  have lt3 := own_l P2.lt
  have lt4 := own_l P3.lt
  have lt5 := own_l P4.lt
  have lt6 := own_l P5.lt
  have lt7 := own_l P7.lt
  obtain ⟨cl8, Ar8, q8, S8, M8, H8, G8⟩ := id P5
  obtain ⟨cl9, Ar9, q9, S9, M9, H9, G9⟩ := id P5
  have hin9 : ¬ ((0 : Int32) < 0 ∨ cl9.slots.size ≤ ((0 : Int32)).toNatClampNeg) := inb_of S9 ⟨by decide, by decide⟩
  obtain ⟨T9, h9, X9, e9, W9, st9⟩ := stR X0 hx hZ e0 Ar9 (j := (0 : Int32)) hin9 rfl (Sto.ofV Ar9 q9 P6 (Ins.of_exa P7 (w_144 hw))) (g := (mkF m 14 #[vA a_, vA it, vA v_, vI 0] [(.ref it), (.int 0), (.ref v_)])) rfl rfl (hb hby d47)
  have V9 : Arv Z h9 v_ kv (.object "java/lang/Object") (1 : Int32) [(.ref it)] .null := Arv.set Ar9 q9 S9 M9 H9 G9 rfl W9 0 rfl (Nat.le_of_ble_eq_true rfl)
  have z9 := W9.size
  have K9 := K0.wr W9 (Or.inl (List.mem_of_getElem? (i := 1) rfl))
  have N9 := Fr.snoc X9 N0 (by omega)
  have f11 := P2.other W9 (Or.inl (fun q => P10 q))
  have f12 := P0.wr W9
  obtain ⟨T10, h10, X10, e10, W10, st10⟩ := putF X9 hx hZ hown (host := "") (Or.inl (w_137 hw)) Via.refl e9 f11 f12 (Or.inl (w_138 hw)) (w_102 hw) (ty := .int) (by decide) rfl rfl (g := (mkF m 19 #[vA a_, vA it, vA v_, vI 0] [(.int 1), (.ref a_)])) rfl rfl (hb hby d52)
  have F10 := f11.same W10
  have z10 := W10.size
  have K10 := K9.wr W10 (Or.inl (List.mem_of_getElem? (i := 0) rfl))
  have N10 := Fr.snoc X10 N9 (by omega)
  have f13 := f12.wr W10
  have f14 := P1.other W9 (Or.inl (fun q => P10 q))
  have f15 := f14.other W10 (Or.inr (slot_ne (a0 := a0) (t := .int) (t' := .int) (Or.inl (w_122 hw)) (Or.inl (w_138 hw)) (by decide) (by decide) (by decide)))
  have f16 := P3.other W9 (Or.inl (fun q => P10 q))
  have f17 := f16.other W10 (Or.inr (slot_ne (a0 := a0) (t := (.array (.object "java/lang/Object"))) (t' := .int) (Or.inl (w_125 hw)) (Or.inl (w_138 hw)) (by decide) (by decide) (by decide)))
  have f18 := P4.wr W9
  have f19 := f18.wr W10
  have f20 := V9.other W10 (fun q => P10 q.symm)
  refine ⟨_, _, _, _, none, X10, by decide, by decide, fun _ => rfl, ?_, fun fs hr => castTop (ef_2 m a_ it v_ (0 : Int32)) ?_⟩
  · show Q_addp0 Z a_ it mc v_ kv h0 n0 _ T10.heap _
    rw [(e10 : T10.heap = h10)]
    exact ⟨rfl, N10, K10, f13, f15, F10, f17, f19, f20⟩
  · show Steps _ _ _ (s₁.setTop (mkF m 0 #[vA a_, vA it, vA v_, vI 0] [])) _
    refine XS.iloadN X0.here hx rfl (hb hby d40) rfl ?_
    refine XS.aloadN X0.here hx rfl (hb hby d41) rfl rfl ?_
    refine X0.arraylength hx (by rw [e0]; exact Ar8.1) (State.isArrayOf_alike hZ.alike Ar8.2.1) (g := (mkF m 2 #[vA a_, vA it, vA v_, vI 0] [(.ref v_), (.int 0)])) rfl rfl (hb hby d42) _ ?_
    rw [len_of S8 M8]
    show Steps _ _ _ (s₁.setTop (mkF m 3 #[vA a_, vA it, vA v_, vI 0] [(.int 1), (.int 0)])) _
    refine XS.icmpYes X0.here hx rfl (pc0 := 3) (pc' := 11) rfl (hb hby d43) rfl (feq ((by decide) : ¬ ((0 : Int32) = (1 : Int32)))).2 (by decide) (by decide) ?_
    refine XS.aloadN X0.here hx rfl (hb hby d44) rfl rfl ?_
    refine XS.iloadN X0.here hx rfl (hb hby d45) rfl ?_
    refine XS.aloadN X0.here hx rfl (hb hby d46) rfl rfl ?_
    refine st9 _ ?_
    show Steps _ _ _ (T9.setTop (mkF m 15 #[vA a_, vA it, vA v_, vI 0] [])) _
    refine XS.aloadN X9.here hx rfl (hb hby d48) rfl rfl ?_
    refine XS.iloadN X9.here hx rfl (hb hby d49) rfl ?_
    refine XS.iconst X9.here hx rfl (hb hby d50) ?_
    refine XS.iadd X9.here hx rfl (hb hby d51) rfl ?_
    refine st10 _ ?_
    show Steps _ _ _ (T10.setTop (mkF m 22 #[vA a_, vA it, vA v_, vI 0] [])) _
    exact X10.returnOut hx hret (hb hby d53) hr
theorem d54 : decode jdk_38_method_25_code 0 = .ok (.aload_n 0, 1) := by decide +kernel
theorem d55 : decode jdk_38_method_25_code 1 = .ok (.dup, 1) := by decide +kernel
theorem w_135 {Z : State} {a0 : Array Value} (hw : HW Z a0) : (Jvm.Cond.fieldLink "java/util/ArrayList" (63 : Nat) "java/util/ArrayList" "modCount" "I").before a0 Z = true := hw _ (List.mem_of_getElem? (i := 135) rfl)
theorem w_136 {Z : State} {a0 : Array Value} (hw : HW Z a0) : (Jvm.Cond.sameField "java/util/ArrayList" "java/util/AbstractList" "modCount" "I").before a0 Z = true := hw _ (List.mem_of_getElem? (i := 136) rfl)
theorem d56 : decode jdk_38_method_25_code 2 = .ok (.getfield 63, 3) := by decide +kernel
theorem d57 : decode jdk_38_method_25_code 5 = .ok (.iconst 1, 1) := by decide +kernel
theorem d58 : decode jdk_38_method_25_code 6 = .ok (.iadd, 1) := by decide +kernel
theorem d59 : decode jdk_38_method_25_code 7 = .ok (.putfield 63, 3) := by decide +kernel
theorem d60 : decode jdk_38_method_25_code 10 = .ok (.aload_n 0, 1) := by decide +kernel
theorem d61 : decode jdk_38_method_25_code 11 = .ok (.aload_n 1, 1) := by decide +kernel
theorem d62 : decode jdk_38_method_25_code 12 = .ok (.aload_n 0, 1) := by decide +kernel
theorem d63 : decode jdk_38_method_25_code 13 = .ok (.getfield 9, 3) := by decide +kernel
theorem d64 : decode jdk_38_method_25_code 16 = .ok (.aload_n 0, 1) := by decide +kernel
theorem d65 : decode jdk_38_method_25_code 17 = .ok (.getfield 48, 3) := by decide +kernel
theorem w_139 {Z : State} {a0 : Array Value} (hw : HW Z a0) : (Jvm.Cond.methodLink "java/util/ArrayList" (131 : Nat) m_9).before a0 Z = true := hw _ (List.mem_of_getElem? (i := 139) rfl)
theorem w_143 {Z : State} {a0 : Array Value} (hw : HW Z a0) : (Jvm.Cond.code m_9 jdk_38_method_24_code (4 : Nat) (Option.none : Option Jvm.ClassFile.FieldType)).before a0 Z = true := hw _ (List.mem_of_getElem? (i := 143) rfl)
theorem w_103 {Z : State} {a0 : Array Value} (hw : HW Z a0) : (Jvm.Cond.initialized "java/util/ArrayList").before a0 Z = true := hw _ (List.mem_of_getElem? (i := 103) rfl)
theorem pd_1 : parseMethodDescriptor "(Ljava/lang/Object;[Ljava/lang/Object;I)V" = some ⟨[(.object "java/lang/Object"), (.array (.object "java/lang/Object")), .int], none⟩ := by decide +kernel
theorem d66 : decode jdk_38_method_25_code 20 = .ok (.invokevirtual 131, 3) := by decide +kernel
theorem w_140 {Z : State} {a0 : Array Value} (hw : HW Z a0) : (Jvm.Cond.instanceMethod m_9).before a0 Z = true := hw _ (List.mem_of_getElem? (i := 140) rfl)
theorem w_142 {Z : State} {a0 : Array Value} (hw : HW Z a0) : (Jvm.Cond.selects "java/util/ArrayList" m_9 m_9).before a0 Z = true := hw _ (List.mem_of_getElem? (i := 142) rfl)
theorem w_141 {Z : State} {a0 : Array Value} (hw : HW Z a0) : (Jvm.Cond.privateMethod m_9).before a0 Z = true := hw _ (List.mem_of_getElem? (i := 141) rfl)
theorem d67 : decode jdk_38_method_25_code 23 = .ok (.iconst 1, 1) := by decide +kernel
theorem d68 : decode jdk_38_method_25_code 24 = .ok (.ireturn, 1) := by decide +kernel
theorem ef_3 (m : MethodId) (x0 : Addr) (x1 : Addr) : entryFrame m #[(.ref x0), (.ref x1)] 2 = mkF m 0 #[vA x0, vA x1] [] := by first | (simp [entryFrame, mkF, argsToLocals, Value.category, maxLocals]; done) | rfl
abbrev m_10 : MethodName := (⟨"java/util/ArrayList", "add", "(Ljava/lang/Object;)Z"⟩ : MethodName)
def Q_add0 (Z : State) (a_ : Addr) (it : Addr) (mc : Int32) (v_ : Addr) (kv : ClassId) (h0 : Heap) (n0 : Nat) (v : Option Value) (h : Heap) (L : List Loc) : Prop := (v = some (.int 1)) ∧ (Fr n0 L) ∧ (Keep h0 h [a_, v_]) ∧ (Exa Z h a_ "java/util/ArrayList") ∧ (fld2 Z h a_ (.int (mc + (1 : Int32)))) ∧ (fld0 Z h a_ (.int 1)) ∧ (fld1 Z h a_ (.ref v_)) ∧ (Exa Z h v_ "[Ljava/lang/Object;") ∧ (Arv Z h v_ kv (.object "java/lang/Object") (1 : Int32) [(.ref it)] .null)
theorem rm_add0 (l : Launch) (Z : State) (a0 : Array Value) (hw : HW Z a0) (ws : List Jvm.Cond) (a_ : Addr) (it : Addr) (mc : Int32) (v_ : Addr) (kv : ClassId) (h0 : Heap) (n0 : Nat) (Z0 : n0 ≤ h0.size) (P0 : Exa Z h0 a_ "java/util/ArrayList") (P1 : fld2 Z h0 a_ (.int mc)) (P2 : fld0 Z h0 a_ (.int 0)) (P3 : fld1 Z h0 a_ (.ref v_)) (P4 : Exa Z h0 v_ "[Ljava/lang/Object;") (P5 : Arv Z h0 v_ kv (.object "java/lang/Object") (1 : Int32) [.null] .null) (P6 : Ovr Z kv "java/lang/Object") (P7 : Exa Z h0 it "java/lang/RuntimeException") (P8 : n0 ≤ a_) (P9 : n0 ≤ v_) (P10 : a_ ≠ v_) :
    MF l Z m_10 jdk_38_method_25_code 2 (some .boolean) ws (oR 1 0 0 15) #[(.ref a_), (.ref it)] h0 (Q_add0 Z a_ it mc v_ kv h0 n0) := by
  refine own_body (cls := "java/util/ArrayList") (plainFor_of_name pn_5) rfl (fun p e s m below meth c s₁ hx hby hml hown hnm hret hZ X0 e0 => ?_)
  have N0 := Fr.nil n0
  have K0 := Keep.refl h0 [a_, v_]
  have lt1 := own_l P0.lt
  have lt2 := own_l P1.lt
  have lt3 := own_l P2.lt
  have lt4 := own_l P3.lt
  have lt5 := own_l P4.lt
  have lt6 := own_l P5.lt
  have lt7 := own_l P7.lt
  obtain ⟨T8, X8, e8, st8⟩ := getF X0 hx hZ hown (host := "") (Or.inl (w_135 hw)) (Via.of (w_136 hw)) e0 P1 (g := (mkF m 2 #[vA a_, vA it] [(.ref a_), (.ref a_)])) rfl rfl (hb hby d56)
  obtain ⟨T9, h9, X9, e9, W9, st9⟩ := putF X8 hx hZ hown (host := "") (Or.inl (w_135 hw)) (Via.of (w_136 hw)) e8 P1 P0 (Or.inl (w_122 hw)) (w_102 hw) (ty := .int) (by decide) rfl rfl (g := (mkF m 7 #[vA a_, vA it] [(.int (mc + (1 : Int32))), (.ref a_)])) rfl rfl (hb hby d59)
  have F9 := P1.same W9
  have z9 := W9.size
  have K9 := K0.wr W9 (Or.inl (List.mem_of_getElem? (i := 0) rfl))
  have N9 := Fr.snoc X9 N0 (by omega)
  have f11 := P3.other W9 (Or.inr (slot_ne (a0 := a0) (t := (.array (.object "java/lang/Object"))) (t' := .int) (Or.inl (w_125 hw)) (Or.inl (w_122 hw)) (by decide) (by decide) (by decide)))
  obtain ⟨T10, X10, e10, st10⟩ := getF X9 hx hZ hown (host := "") (Or.inl (w_124 hw)) Via.refl e9 f11 (g := (mkF m 13 #[vA a_, vA it] [(.ref a_), (.ref it), (.ref a_)])) rfl rfl (hb hby d63)
  have f13 := P2.other W9 (Or.inr (slot_ne (a0 := a0) (t := .int) (t' := .int) (Or.inl (w_138 hw)) (Or.inl (w_122 hw)) (by decide) (by decide) (by decide)))
  obtain ⟨T12, X12, e12, st12⟩ := getF X10 hx hZ hown (host := "") (Or.inl (w_137 hw)) Via.refl e10 f13 (g := (mkF m 17 #[vA a_, vA it] [(.ref a_), (.ref v_), (.ref it), (.ref a_)])) rfl rfl (hb hby d65)
  have f15 := P0.wr W9
  have f16 := P4.wr W9
  have f17 := P5.other W9 (fun q => P10 q.symm)
  have f18 := P7.wr W9
  obtain ⟨cq14, kq14, qa14, qb14, qc14⟩ := isOf hZ e12 f15
  obtain ⟨cc14, ca14, cb14⟩ := f15.cell
  obtain ⟨_, _, ⟨T14, L14, k14, n14⟩, -, X14, ⟨Lc14, hQ14, l14, y14, z14⟩, st14⟩ := X12.privateBack hx (y := m_9) hown (mvT hZ (w_139 hw)) (mvT hZ (w_140 hw)) (mvT hZ (w_142 hw)) (Cond.privateMethod_at (mvP hZ (w_141 hw) (args := #[]))) (mvT hZ (w_143 hw)) (by decide) (backOf (W := 0) (rm_addp0 l Z a0 hw [] a_ it ((mc + (1 : Int32))) v_ kv h9 n0 (by omega) f15 F9 f13 f11 f16 f17 P6 f18 (by omega) (by omega) (fun q => P10 q)) hZ (w_143 hw) (w_103 hw) (by decide) (by decide)) (g := (mkF m 20 #[vA a_, vA it] [(.int 0), (.ref v_), (.ref it), (.ref a_)])) rfl (by rw [hml]; rfl) (Steps.refl _) (a := a_) (cell := cc14) (by rw [e12]; exact ca14) cb14 (argsL := [(.ref it), (.ref v_), (.int 0)]) (rest := []) (lenOf pd_1 rfl) rfl (Nat.le_of_eq rfl) (hb hby d66) (fun _ _ => ⟨rfl, e12, (by decide : 0 + 0 ≤ _), (by decide : 0 + 0 ≤ _)⟩)
  dsimp only [Pt.U, Pt.locs, Pt.cells, Pt.slots] at X14 l14 y14 z14 st14 hQ14
  rw [l14, y14, z14] at X14
  obtain ⟨rfl, Nq14, Kq14, r14_0, r14_1, r14_2, r14_3, r14_4, r14_5⟩ := hQ14
  have N14 := Fr.app N9 Nq14
  have z14' := Kq14.1
  have K14 := K9.trans Kq14 (allS (Or.inl (List.mem_of_getElem? (i := 0) rfl)) (allS (Or.inl (List.mem_of_getElem? (i := 1) rfl)) all0))
  have lt19 := own_l r14_0.lt
  have lt20 := own_l r14_1.lt
  have lt21 := own_l r14_2.lt
  have lt22 := own_l r14_3.lt
  have lt23 := own_l r14_4.lt
  have lt24 := own_l r14_5.lt
  refine ⟨_, _, _, _, some (.int 1), X14, by decide, by decide, nofun, ?_, fun fs hr => castTop (ef_3 m a_ it) ?_⟩
  · show Q_add0 Z a_ it mc v_ kv h0 n0 _ T14.heap _
    exact ⟨rfl, N14, K14, r14_0, r14_1, r14_2, r14_3, r14_4, r14_5⟩
  · show Steps _ _ _ (s₁.setTop (mkF m 0 #[vA a_, vA it] [])) _
    refine XS.aloadN X0.here hx rfl (hb hby d54) rfl rfl ?_
    refine XS.dup X0.here hx rfl (hb hby d55) rfl rfl ?_
    refine st8 _ ?_
    show Steps _ _ _ (T8.setTop (mkF m 5 #[vA a_, vA it] [(.int mc), (.ref a_)])) _
    refine XS.iconst X8.here hx rfl (hb hby d57) ?_
    refine XS.iadd X8.here hx rfl (hb hby d58) rfl ?_
    refine st9 _ ?_
    show Steps _ _ _ (T9.setTop (mkF m 10 #[vA a_, vA it] [])) _
    refine XS.aloadN X9.here hx rfl (hb hby d60) rfl rfl ?_
    refine XS.aloadN X9.here hx rfl (hb hby d61) rfl rfl ?_
    refine XS.aloadN X9.here hx rfl (hb hby d62) rfl rfl ?_
    refine st10 _ ?_
    show Steps _ _ _ (T10.setTop (mkF m 16 #[vA a_, vA it] [(.ref v_), (.ref it), (.ref a_)])) _
    refine XS.aloadN X10.here hx rfl (hb hby d64) rfl rfl ?_
    refine st12 _ ?_
    show Steps _ _ _ (T12.setTop (mkF m 20 #[vA a_, vA it] [(.int 0), (.ref v_), (.ref it), (.ref a_)])) _
    refine st14.trans ?_
    show Steps _ _ _ (T14.setTop (mkF m 23 #[vA a_, vA it] [])) _
    refine XS.iconst X14.here hx rfl (hb hby d67) ?_
    exact retN X14 hx (t := .boolean) hret (by simp) (hb hby d68) hr
theorem d69 : decode jdk_29_method_65_code 0 = .ok (.iload_n 0, 1) := by decide +kernel
theorem d70 : decode jdk_29_method_65_code 1 = .ok (.iload_n 1, 1) := by decide +kernel
theorem d71 : decode jdk_29_method_65_code 2 = .ok (.if_icmp .lt 7, 3) := by decide +kernel
theorem d72 : decode jdk_29_method_65_code 5 = .ok (.iload_n 0, 1) := by decide +kernel
theorem d73 : decode jdk_29_method_65_code 6 = .ok (.goto 4, 3) := by decide +kernel
theorem d74 : decode jdk_29_method_65_code 10 = .ok (.ireturn, 1) := by decide +kernel
theorem pn_6 : plainFor (⟨"java/lang/Math", "max", "(II)I"⟩ : MethodName) = true := by first | (simp [plainFor, overriddenIn]; done) | decide +kernel
theorem ef_4 (m : MethodId) (x0 : Int32) (x1 : Int32) : entryFrame m #[(.int x0), (.int x1)] 2 = mkF m 0 #[vI x0, vI x1] [] := by first | (simp [entryFrame, mkF, argsToLocals, Value.category, maxLocals]; done) | rfl
abbrev m_11 : MethodName := (⟨"java/lang/Math", "max", "(II)I"⟩ : MethodName)
def Q_max10 (Z : State) (h0 : Heap) (n0 : Nat) (v : Option Value) (h : Heap) (L : List Loc) : Prop := (v = some (.int 1)) ∧ (Fr n0 L) ∧ (h = h0)
theorem rm_max10 (l : Launch) (Z : State) (a0 : Array Value) (hw : HW Z a0) (ws : List Jvm.Cond) (h0 : Heap) (n0 : Nat) (Z0 : n0 ≤ h0.size) :
    MF l Z m_11 jdk_29_method_65_code 2 (some .int) ws (oR 0 0 0 0) #[(.int 1), (.int 0)] h0 (Q_max10 Z  h0 n0) := by
  refine own_body (cls := "java/lang/Math") pn_6 rfl (fun p e s m below meth c s₁ hx hby hml hown hnm hret hZ X0 e0 => ?_)
  have N0 := Fr.nil n0
  refine ⟨_, _, _, _, some (.int 1), X0, by decide, by decide, nofun, ?_, fun fs hr => castTop (ef_4 m (1 : Int32) (0 : Int32)) ?_⟩
  · show Q_max10 Z  h0 n0 _ s₁.heap _
    rw [(e0 : s₁.heap = h0)]
    exact ⟨rfl, N0, rfl⟩
  · show Steps _ _ _ (s₁.setTop (mkF m 0 #[vI 1, vI 0] [])) _
    refine XS.iloadN X0.here hx rfl (hb hby d69) rfl ?_
    refine XS.iloadN X0.here hx rfl (hb hby d70) rfl ?_
    refine XS.icmpNo X0.here hx rfl (hb hby d71) rfl (flt ((by decide) : ¬ ((1 : Int32) < (0 : Int32)))).1 ?_
    refine XS.iloadN X0.here hx rfl (hb hby d72) rfl ?_
    refine XS.goto X0.here hx rfl (pc0 := 6) (pc' := 10) rfl (hb hby d73) (by decide) (by decide) ?_
    exact retI X0 hx hret (hb hby d74) hr
theorem d75 : decode jdk_48_method_27_code 0 = .ok (.iload_n 0, 1) := by decide +kernel
theorem d76 : decode jdk_48_method_27_code 1 = .ok (.iload_n 1, 1) := by decide +kernel
theorem d77 : decode jdk_48_method_27_code 2 = .ok (.iload_n 2, 1) := by decide +kernel
theorem w_159 {Z : State} {a0 : Array Value} (hw : HW Z a0) : (Jvm.Cond.methodLink "jdk/internal/util/ArraysSupport" (194 : Nat) m_11).before a0 Z = true := hw _ (List.mem_of_getElem? (i := 159) rfl)
theorem w_162 {Z : State} {a0 : Array Value} (hw : HW Z a0) : (Jvm.Cond.code m_11 jdk_29_method_65_code (2 : Nat) (Option.some FieldType.int)).before a0 Z = true := hw _ (List.mem_of_getElem? (i := 162) rfl)
theorem w_161 {Z : State} {a0 : Array Value} (hw : HW Z a0) : (Jvm.Cond.initialized "java/lang/Math").before a0 Z = true := hw _ (List.mem_of_getElem? (i := 161) rfl)
theorem pd_2 : parseMethodDescriptor "(II)I" = some ⟨[.int, .int], some .int⟩ := by decide +kernel
theorem d78 : decode jdk_48_method_27_code 3 = .ok (.invokestatic 194, 3) := by decide +kernel
theorem w_160 {Z : State} {a0 : Array Value} (hw : HW Z a0) : (Jvm.Cond.static m_11).before a0 Z = true := hw _ (List.mem_of_getElem? (i := 160) rfl)
theorem d79 : decode jdk_48_method_27_code 6 = .ok (.iadd, 1) := by decide +kernel
theorem d80 : decode jdk_48_method_27_code 7 = .ok (.istore_n 3, 1) := by decide +kernel
theorem d81 : decode jdk_48_method_27_code 8 = .ok (.iconst 0, 1) := by decide +kernel
theorem d82 : decode jdk_48_method_27_code 9 = .ok (.iload_n 3, 1) := by decide +kernel
theorem d83 : decode jdk_48_method_27_code 10 = .ok (.if_icmp .ge 11, 3) := by decide +kernel
theorem d84 : decode jdk_48_method_27_code 13 = .ok (.iload_n 3, 1) := by decide +kernel
theorem w_163 {Z : State} {a0 : Array Value} (hw : HW Z a0) : (Jvm.Cond.constant "jdk/internal/util/ArraysSupport" (200 : Nat) (2147483639 : Int32)).before a0 Z = true := hw _ (List.mem_of_getElem? (i := 163) rfl)
theorem d85 : decode jdk_48_method_27_code 14 = .ok (.ldc 200, 2) := by decide +kernel
theorem d86 : decode jdk_48_method_27_code 16 = .ok (.if_icmp .gt 5, 3) := by decide +kernel
theorem d87 : decode jdk_48_method_27_code 19 = .ok (.iload_n 3, 1) := by decide +kernel
theorem d88 : decode jdk_48_method_27_code 20 = .ok (.ireturn, 1) := by decide +kernel
theorem pn_7 : plainName "jdk/internal/util/ArraysSupport" = true := by first | (simp [plainName, overriddenIn]; done) | decide +kernel
theorem ef_5 (m : MethodId) (x0 : Int32) (x1 : Int32) (x2 : Int32) : entryFrame m #[(.int x0), (.int x1), (.int x2)] 4 = mkF m 0 #[vI x0, vI x1, vI x2, .unset] [] := by first | (simp [entryFrame, mkF, argsToLocals, Value.category, maxLocals]; done) | rfl
abbrev m_12 : MethodName := (⟨"jdk/internal/util/ArraysSupport", "newLength", "(III)I"⟩ : MethodName)
def Q_newLen (Z : State) (h0 : Heap) (n0 : Nat) (v : Option Value) (h : Heap) (L : List Loc) : Prop := (v = some (.int 2)) ∧ (Fr n0 L) ∧ (h = h0)
theorem rm_newLen (l : Launch) (Z : State) (a0 : Array Value) (hw : HW Z a0) (ws : List Jvm.Cond) (h0 : Heap) (n0 : Nat) (Z0 : n0 ≤ h0.size) :
    MF l Z m_12 jdk_48_method_27_code 4 (some .int) ws (oR 1 0 0 14) #[(.int 1), (.int 1), (.int 0)] h0 (Q_newLen Z  h0 n0) := by
  refine own_body (cls := "jdk/internal/util/ArraysSupport") (plainFor_of_name pn_7) rfl (fun p e s m below meth c s₁ hx hby hml hown hnm hret hZ X0 e0 => ?_)
  have N0 := Fr.nil n0
  obtain ⟨_, _, ⟨T1, L1, k1, n1⟩, -, X1, ⟨Lc1, hQ1, l1, y1, z1⟩, st1⟩ := Jvm.LawKit.callS X0 hx (y := m_11) hown (mvT hZ (w_159 hw)) (mvT hZ (w_160 hw)) (mvT hZ (w_161 hw)) (mvT hZ (w_162 hw)) (by decide) (backOf (W := 1) (rm_max10 l Z a0 hw []  h0 n0 (by omega) ) hZ (w_162 hw) (w_161 hw) (by decide) (by decide)) (g := (mkF m 3 #[vI 1, vI 1, vI 0, .unset] [(.int 0), (.int 1), (.int 1)])) rfl (by rw [hml]; rfl) (argsL := [(.int 1), (.int 0)]) (rest := [(.int 1)]) (lenOf pd_2 rfl) rfl (Nat.le_of_eq rfl) (hb hby d78) (fun _ _ => ⟨rfl, e0, (by decide : 0 + 0 ≤ _), (by decide : 0 + 0 ≤ _)⟩)
  dsimp only [Pt.U, Pt.locs, Pt.cells, Pt.slots] at X1 l1 y1 z1 st1 hQ1
  rw [l1, y1, z1] at X1
  obtain ⟨rfl, Nq1, Kq1⟩ := hQ1
  have N1 := Fr.app N0 Nq1
  refine ⟨_, _, _, _, some (.int 2), X1, by decide, by decide, nofun, ?_, fun fs hr => castTop (ef_5 m (1 : Int32) (1 : Int32) (0 : Int32)) ?_⟩
  · show Q_newLen Z  h0 n0 _ T1.heap _
    rw [(Kq1 : T1.heap = h0)]
    exact ⟨rfl, N1, rfl⟩
  · show Steps _ _ _ (s₁.setTop (mkF m 0 #[vI 1, vI 1, vI 0, .unset] [])) _
    refine XS.iloadN X0.here hx rfl (hb hby d75) rfl ?_
    refine XS.iloadN X0.here hx rfl (hb hby d76) rfl ?_
    refine XS.iloadN X0.here hx rfl (hb hby d77) rfl ?_
    refine st1 _ ?_
    show Steps _ _ _ (T1.setTop (mkF m 6 #[vI 1, vI 1, vI 0, .unset] [(.int 1), (.int 1)])) _
    refine XS.iadd X1.here hx rfl (hb hby d79) rfl ?_
    refine XS.istoreN X1.here hx rfl (hb hby d80) rfl (l' := #[vI 1, vI 1, vI 0, vI 2]) rfl ?_
    refine XS.iconst X1.here hx rfl (hb hby d81) ?_
    refine XS.iloadN X1.here hx rfl (hb hby d82) rfl ?_
    refine XS.icmpNo X1.here hx rfl (hb hby d83) rfl (tlt ((by decide) : (0 : Int32) < (2 : Int32))).2.1 ?_
    refine XS.iloadN X1.here hx rfl (hb hby d84) rfl ?_
    refine X1.ldcInt hx hown (mvT hZ (w_163 hw)) (g := (mkF m 14 #[vI 1, vI 1, vI 0, vI 2] [(.int 2)])) rfl (hb hby d85) _ ?_
    show Steps _ _ _ (T1.setTop (mkF m 16 #[vI 1, vI 1, vI 0, vI 2] [(.int 2147483639), (.int 2)])) _
    refine XS.icmpNo X1.here hx rfl (hb hby d86) rfl (flt ((by decide) : ¬ ((2147483639 : Int32) < (2 : Int32)))).2.2.1 ?_
    refine XS.iloadN X1.here hx rfl (hb hby d87) rfl ?_
    exact retI X1 hx hret (hb hby d88) hr
theorem d89 : decode jdk_29_method_69_code 0 = .ok (.iload_n 0, 1) := by decide +kernel
theorem d90 : decode jdk_29_method_69_code 1 = .ok (.iload_n 1, 1) := by decide +kernel
theorem d91 : decode jdk_29_method_69_code 2 = .ok (.if_icmp .gt 7, 3) := by decide +kernel
theorem d92 : decode jdk_29_method_69_code 5 = .ok (.iload_n 0, 1) := by decide +kernel
theorem d93 : decode jdk_29_method_69_code 6 = .ok (.goto 4, 3) := by decide +kernel
theorem d94 : decode jdk_29_method_69_code 10 = .ok (.ireturn, 1) := by decide +kernel
theorem pn_8 : plainFor (⟨"java/lang/Math", "min", "(II)I"⟩ : MethodName) = true := by first | (simp [plainFor, overriddenIn]; done) | decide +kernel
abbrev m_13 : MethodName := (⟨"java/lang/Math", "min", "(II)I"⟩ : MethodName)
def Q_min12 (Z : State) (h0 : Heap) (n0 : Nat) (v : Option Value) (h : Heap) (L : List Loc) : Prop := (v = some (.int 1)) ∧ (Fr n0 L) ∧ (h = h0)
theorem rm_min12 (l : Launch) (Z : State) (a0 : Array Value) (hw : HW Z a0) (ws : List Jvm.Cond) (h0 : Heap) (n0 : Nat) (Z0 : n0 ≤ h0.size) :
    MF l Z m_13 jdk_29_method_69_code 2 (some .int) ws (oR 0 0 0 0) #[(.int 1), (.int 2)] h0 (Q_min12 Z  h0 n0) := by
  refine own_body (cls := "java/lang/Math") pn_8 rfl (fun p e s m below meth c s₁ hx hby hml hown hnm hret hZ X0 e0 => ?_)
  have N0 := Fr.nil n0
  refine ⟨_, _, _, _, some (.int 1), X0, by decide, by decide, nofun, ?_, fun fs hr => castTop (ef_4 m (1 : Int32) (2 : Int32)) ?_⟩
  · show Q_min12 Z  h0 n0 _ s₁.heap _
    rw [(e0 : s₁.heap = h0)]
    exact ⟨rfl, N0, rfl⟩
  · show Steps _ _ _ (s₁.setTop (mkF m 0 #[vI 1, vI 2] [])) _
    refine XS.iloadN X0.here hx rfl (hb hby d89) rfl ?_
    refine XS.iloadN X0.here hx rfl (hb hby d90) rfl ?_
    refine XS.icmpNo X0.here hx rfl (hb hby d91) rfl (flt ((by decide) : ¬ ((2 : Int32) < (1 : Int32)))).2.2.1 ?_
    refine XS.iloadN X0.here hx rfl (hb hby d92) rfl ?_
    refine XS.goto X0.here hx rfl (pc0 := 6) (pc' := 10) rfl (hb hby d93) (by decide) (by decide) ?_
    exact retI X0 hx hret (hb hby d94) hr
theorem d95 : decode jdk_65_method_120_code 0 = .ok (.aload_n 2, 1) := by decide +kernel
theorem w_177 {Z : State} {a0 : Array Value} (hw : HW Z a0) : (Jvm.Cond.classLink "java/util/Arrays" (110 : Nat) "[Ljava/lang/Object;").before a0 Z = true := hw _ (List.mem_of_getElem? (i := 177) rfl)
theorem d96 : decode jdk_65_method_120_code 1 = .ok (.ldc 110, 2) := by decide +kernel
theorem d97 : decode jdk_65_method_120_code 3 = .ok (.if_acmp .ne 10, 3) := by decide +kernel
theorem d98 : decode jdk_65_method_120_code 6 = .ok (.iload_n 1, 1) := by decide +kernel
theorem w_178 {Z : State} {a0 : Array Value} (hw : HW Z a0) : (Jvm.Cond.classLink "java/util/Arrays" (2 : Nat) "java/lang/Object").before a0 Z = true := hw _ (List.mem_of_getElem? (i := 178) rfl)
theorem d99 : decode jdk_65_method_120_code 7 = .ok (.anewarray 2, 3) := by decide +kernel
theorem d100 : decode jdk_65_method_120_code 10 = .ok (.goto 14, 3) := by decide +kernel
theorem d101 : decode jdk_65_method_120_code 24 = .ok (.astore_n 3, 1) := by decide +kernel
theorem d102 : decode jdk_65_method_120_code 25 = .ok (.aload_n 0, 1) := by decide +kernel
theorem d103 : decode jdk_65_method_120_code 26 = .ok (.iconst 0, 1) := by decide +kernel
theorem d104 : decode jdk_65_method_120_code 27 = .ok (.aload_n 3, 1) := by decide +kernel
theorem d105 : decode jdk_65_method_120_code 28 = .ok (.iconst 0, 1) := by decide +kernel
theorem d106 : decode jdk_65_method_120_code 29 = .ok (.aload_n 0, 1) := by decide +kernel
theorem d107 : decode jdk_65_method_120_code 30 = .ok (.arraylength, 1) := by decide +kernel
theorem d108 : decode jdk_65_method_120_code 31 = .ok (.iload_n 1, 1) := by decide +kernel
theorem w_179 {Z : State} {a0 : Array Value} (hw : HW Z a0) : (Jvm.Cond.methodLink "java/util/Arrays" (304 : Nat) m_13).before a0 Z = true := hw _ (List.mem_of_getElem? (i := 179) rfl)
theorem w_181 {Z : State} {a0 : Array Value} (hw : HW Z a0) : (Jvm.Cond.code m_13 jdk_29_method_69_code (2 : Nat) (Option.some FieldType.int)).before a0 Z = true := hw _ (List.mem_of_getElem? (i := 181) rfl)
theorem d109 : decode jdk_65_method_120_code 32 = .ok (.invokestatic 304, 3) := by decide +kernel
theorem w_180 {Z : State} {a0 : Array Value} (hw : HW Z a0) : (Jvm.Cond.static m_13).before a0 Z = true := hw _ (List.mem_of_getElem? (i := 180) rfl)
abbrev m_14 : MethodName := (⟨"java/lang/System", "arraycopy", "(Ljava/lang/Object;ILjava/lang/Object;II)V"⟩ : MethodName)
theorem w_182 {Z : State} {a0 : Array Value} (hw : HW Z a0) : (Jvm.Cond.methodLink "java/util/Arrays" (150 : Nat) m_14).before a0 Z = true := hw _ (List.mem_of_getElem? (i := 182) rfl)
theorem w_185 {Z : State} {a0 : Array Value} (hw : HW Z a0) : (Jvm.Cond.native m_14).before a0 Z = true := hw _ (List.mem_of_getElem? (i := 185) rfl)
theorem w_183 {Z : State} {a0 : Array Value} (hw : HW Z a0) : (Jvm.Cond.static m_14).before a0 Z = true := hw _ (List.mem_of_getElem? (i := 183) rfl)
theorem w_184 {Z : State} {a0 : Array Value} (hw : HW Z a0) : (Jvm.Cond.initialized "java/lang/System").before a0 Z = true := hw _ (List.mem_of_getElem? (i := 184) rfl)
theorem d110 : decode jdk_65_method_120_code 35 = .ok (.invokestatic 150, 3) := by decide +kernel
theorem d111 : decode jdk_65_method_120_code 38 = .ok (.aload_n 3, 1) := by decide +kernel
theorem d112 : decode jdk_65_method_120_code 39 = .ok (.areturn, 1) := by decide +kernel
theorem pn_9 : plainName "java/util/Arrays" = true := by first | (simp [plainName, overriddenIn]; done) | decide +kernel
theorem ef_6 (m : MethodId) (x0 : Addr) (x1 : Int32) (x2 : Addr) : entryFrame m #[(.ref x0), (.int x1), (.ref x2)] 4 = mkF m 0 #[vA x0, vI x1, vA x2, .unset] [] := by first | (simp [entryFrame, mkF, argsToLocals, Value.category, maxLocals]; done) | rfl
abbrev m_15 : MethodName := (⟨"java/util/Arrays", "copyOf", "([Ljava/lang/Object;ILjava/lang/Class;)[Ljava/lang/Object;"⟩ : MethodName)
def Q_acp3 (Z : State) (v_ : Addr) (kv : ClassId) (y0 : Addr) (mo : Addr) (h0 : Heap) (n0 : Nat) (v : Option Value) (h : Heap) (L : List Loc) : Prop := ∃ (b : Addr) (k : ClassId), (v = some (.ref b)) ∧ (Fr n0 L) ∧ (Keep h0 h []) ∧ (h0.size ≤ b) ∧ (Exa Z h b "[Ljava/lang/Object;") ∧ (Arv Z h b k (.object "java/lang/Object") (2 : Int32) [(.ref y0), .null] .null) ∧ (Ovr Z k "java/lang/Object")
theorem rm_acp3 (l : Launch) (Z : State) (a0 : Array Value) (hw : HW Z a0) (ws : List Jvm.Cond) (v_ : Addr) (kv : ClassId) (y0 : Addr) (mo : Addr) (h0 : Heap) (n0 : Nat) (Z0 : n0 ≤ h0.size) (P0 : Mi Z "[Ljava/lang/Object;" mo) (P1 : Arv Z h0 v_ kv (.object "java/lang/Object") (1 : Int32) [(.ref y0)] .null) (P2 : Exa Z h0 y0 "java/lang/RuntimeException") :
    MF l Z m_15 jdk_65_method_120_code 4 (some (.array (.object "java/lang/Object"))) ws (oR 1 1 2 18) #[(.ref v_), (.int 2), (.ref mo)] h0 (Q_acp3 Z v_ kv y0 mo h0 n0) := by
  refine own_body (cls := "java/util/Arrays") (plainFor_of_name pn_9) rfl (fun p e s m below meth c s₁ hx hby hml hown hnm hret hZ X0 e0 => ?_)
  have N0 := Fr.nil n0
  have K0 := Keep.refl h0 []
  have lt1 := own_l P1.lt
  have lt2 := own_l P2.lt
  obtain ⟨T3, X3, e3, st3⟩ := own_ldcM X0 hx hZ hown (w_177 hw) e0 P0 (g := (mkF m 1 #[vA v_, vI 2, vA mo, .unset] [(.ref mo)])) rfl (hb hby d96)
  obtain ⟨T4, h4, k4, X4, e4, E4, A4, AE4, O4, st4⟩ := newRE X3 hx hZ hown (w_178 hw) (w_40 hw) e3 (g := (mkF m 7 #[vA v_, vI 2, vA mo, .unset] [(.int 2)])) rfl (hb hby d99) rfl (by decide) (cap := 2) (by decide) (by decide) (by decide) (by decide) (ad := "[Ljava/lang/Object;") (by decide)
  obtain ⟨b4, g4⟩ : ∃ z, z = h0.size := ⟨_, rfl⟩
  rw [← g4] at A4 AE4 st4
  have z4 := E4.1
  have K4 := K0.ext E4
  have V4 : Arv Z h4 b4 k4 (.object "java/lang/Object") (2 : Int32) [.null, .null] .null := (Arv.new A4 (by decide)).pad (pad_rep [] .null 2)
  have lt5 := own_l V4.lt
  have f7 := P1.ext E4
  obtain ⟨cl6, Ar6, q6, S6, M6, H6, G6⟩ := id f7
  obtain ⟨_, _, ⟨T8, L8, k8, n8⟩, -, X8, ⟨Lc8, hQ8, l8, y8, z8⟩, st8⟩ := Jvm.LawKit.callS X4 hx (y := m_13) hown (mvT hZ (w_179 hw)) (mvT hZ (w_180 hw)) (mvT hZ (w_161 hw)) (mvT hZ (w_181 hw)) (by decide) (backOf (W := 4) (rm_min12 l Z a0 hw []  h4 n0 (by omega) ) hZ (w_181 hw) (w_161 hw) (by decide) (by decide)) (g := (mkF m 32 #[vA v_, vI 2, vA mo, vA b4] [(.int 2), (.int 1), (.int 0), (.ref b4), (.int 0), (.ref v_)])) rfl (by rw [hml]; rfl) (argsL := [(.int 1), (.int 2)]) (rest := [(.int 0), (.ref b4), (.int 0), (.ref v_)]) (lenOf pd_2 rfl) rfl (Nat.le_of_eq rfl) (hb hby d109) (fun _ _ => ⟨rfl, e4, (by decide : 1 + 0 ≤ _), (by decide : 2 + 0 ≤ _)⟩)
  dsimp only [Pt.U, Pt.locs, Pt.cells, Pt.slots] at X8 l8 y8 z8 st8 hQ8
  rw [l8, y8, z8] at X8
  obtain ⟨rfl, Nq8, Kq8⟩ := hQ8
  have N8 := Fr.app N0 Nq8
  obtain ⟨cl9, Ar9, q9, S9, M9, H9, G9⟩ := id V4
  have f10 := P2.ext E4
  obtain ⟨T9, h9, L9, X9, e9, N9, Kq9, V9, st9⟩ := cpA X8 hx hZ hown (w_182 hw) (w_185 hw) (w_183 hw) (w_184 hw) Kq8 f7 V4 (Or.inr ⟨rfl, rfl, ⟨(Sto.ofV Ar9 q9 O4 (Ins.of_exa f10 (w_144 hw))), trivial⟩⟩) (us := [(.ref y0)]) (sp := 0) (dp := 0) (nn := (1 : Int32)) (by decide) (by decide) (by decide) (by decide) (by decide) rfl (by decide) N8 (by omega) (g := (mkF m 35 #[vA v_, vI 2, vA mo, vA b4] [(.int 1), (.int 0), (.ref b4), (.int 0), (.ref v_)])) rfl (by rw [hml]; rfl) rfl (hb hby d110) (by decide) (W := 0) (Nat.le_of_eq rfl) (by decide)
  replace V9 : Arv Z h9 b4 k4 (.object "java/lang/Object") (2 : Int32) [(.ref y0), .null] .null := V9
  have z9' := Kq9.1
  have K9 := K4.trans Kq9 (allS (Or.inr (by omega)) all0)
  have f11 := AE4.keep Kq9
  refine ⟨_, _, _, _, some (.ref b4), X9, by decide, by decide, nofun, ?_, fun fs hr => castTop (ef_6 m v_ (2 : Int32) mo) ?_⟩
  · show Q_acp3 Z v_ kv y0 mo h0 n0 _ T9.heap _
    rw [(e9 : T9.heap = h9)]
    exact ⟨b4, k4, rfl, N9, K9, (by omega), f11, V9, O4⟩
  · show Steps _ _ _ (s₁.setTop (mkF m 0 #[vA v_, vI 2, vA mo, .unset] [])) _
    refine XS.aloadN X0.here hx rfl (hb hby d95) rfl rfl ?_
    refine st3 _ ?_
    show Steps _ _ _ (T3.setTop (mkF m 3 #[vA v_, vI 2, vA mo, .unset] [(.ref mo), (.ref mo)])) _
    refine Jvm.RoadKit.acmp (g := (mkF m 3 #[vA v_, vI 2, vA mo, .unset] [(.ref mo), (.ref mo)])) X3 hx rfl rfl rfl (pc0 := 3) (pc' := 6) (same := true) rfl (hb hby d97) rfl (decide_eq_true rfl) (by decide) (by decide) ?_
    show Steps _ _ _ (T3.setTop (mkF m 6 #[vA v_, vI 2, vA mo, .unset] [])) _
    refine XS.iloadN X3.here hx rfl (hb hby d98) rfl ?_
    refine st4 _ ?_
    show Steps _ _ _ (T4.setTop (mkF m 10 #[vA v_, vI 2, vA mo, .unset] [(.ref b4)])) _
    refine XS.goto X4.here hx rfl (pc0 := 10) (pc' := 24) rfl (hb hby d100) (by decide) (by decide) ?_
    refine XS.astoreN X4.here hx rfl (hb hby d101) rfl rfl (l' := #[vA v_, vI 2, vA mo, vA b4]) rfl ?_
    refine XS.aloadN X4.here hx rfl (hb hby d102) rfl rfl ?_
    refine XS.iconst X4.here hx rfl (hb hby d103) ?_
    refine XS.aloadN X4.here hx rfl (hb hby d104) rfl rfl ?_
    refine XS.iconst X4.here hx rfl (hb hby d105) ?_
    refine XS.aloadN X4.here hx rfl (hb hby d106) rfl rfl ?_
    refine X4.arraylength hx (by rw [e4]; exact Ar6.1) (State.isArrayOf_alike hZ.alike Ar6.2.1) (g := (mkF m 30 #[vA v_, vI 2, vA mo, vA b4] [(.ref v_), (.int 0), (.ref b4), (.int 0), (.ref v_)])) rfl rfl (hb hby d107) _ ?_
    rw [len_of S6 M6]
    show Steps _ _ _ (T4.setTop (mkF m 31 #[vA v_, vI 2, vA mo, vA b4] [(.int 1), (.int 0), (.ref b4), (.int 0), (.ref v_)])) _
    refine XS.iloadN X4.here hx rfl (hb hby d108) rfl ?_
    refine st8 _ ?_
    show Steps _ _ _ (T8.setTop (mkF m 35 #[vA v_, vI 2, vA mo, vA b4] [(.int 1), (.int 0), (.ref b4), (.int 0), (.ref v_)])) _
    refine st9 _ ?_
    show Steps _ _ _ (T9.setTop (mkF m 38 #[vA v_, vI 2, vA mo, vA b4] [])) _
    refine XS.aloadN X9.here hx rfl (hb hby d111) rfl rfl ?_
    exact retOut X9 hx hret (own_narrow_ref rfl) (Or.inr (Or.inr (Or.inr (Or.inr ⟨rfl, rfl, rfl⟩)))) (hb hby d112) hr
theorem d113 : decode jdk_65_method_119_code 0 = .ok (.aload_n 0, 1) := by decide +kernel
theorem d114 : decode jdk_65_method_119_code 1 = .ok (.iload_n 1, 1) := by decide +kernel
theorem d115 : decode jdk_65_method_119_code 2 = .ok (.aload_n 0, 1) := by decide +kernel
abbrev m_16 : MethodName := (⟨"java/lang/Object", "getClass", "()Ljava/lang/Class;"⟩ : MethodName)
theorem w_168 {Z : State} {a0 : Array Value} (hw : HW Z a0) : (Jvm.Cond.methodLink "java/util/Arrays" (86 : Nat) m_16).before a0 Z = true := hw _ (List.mem_of_getElem? (i := 168) rfl)
theorem w_169 {Z : State} {a0 : Array Value} (hw : HW Z a0) : (Jvm.Cond.declares m_16).before a0 Z = true := hw _ (List.mem_of_getElem? (i := 169) rfl)
theorem w_171 {Z : State} {a0 : Array Value} (hw : HW Z a0) : (Jvm.Cond.selects "[Ljava/lang/Object;" m_16 m_16).before a0 Z = true := hw _ (List.mem_of_getElem? (i := 171) rfl)
theorem w_170 {Z : State} {a0 : Array Value} (hw : HW Z a0) : (Jvm.Cond.instanceMethod m_16).before a0 Z = true := hw _ (List.mem_of_getElem? (i := 170) rfl)
theorem w_172 {Z : State} {a0 : Array Value} (hw : HW Z a0) : (Jvm.Cond.native m_16).before a0 Z = true := hw _ (List.mem_of_getElem? (i := 172) rfl)
theorem d116 : decode jdk_65_method_119_code 3 = .ok (.invokevirtual 86, 3) := by decide +kernel
theorem w_174 {Z : State} {a0 : Array Value} (hw : HW Z a0) : (Jvm.Cond.methodLink "java/util/Arrays" (300 : Nat) m_15).before a0 Z = true := hw _ (List.mem_of_getElem? (i := 174) rfl)
theorem w_176 {Z : State} {a0 : Array Value} (hw : HW Z a0) : (Jvm.Cond.code m_15 jdk_65_method_120_code (4 : Nat) (Option.some (FieldType.array (FieldType.object "java/lang/Object")))).before a0 Z = true := hw _ (List.mem_of_getElem? (i := 176) rfl)
theorem w_166 {Z : State} {a0 : Array Value} (hw : HW Z a0) : (Jvm.Cond.initialized "java/util/Arrays").before a0 Z = true := hw _ (List.mem_of_getElem? (i := 166) rfl)
theorem pd_3 : parseMethodDescriptor "([Ljava/lang/Object;ILjava/lang/Class;)[Ljava/lang/Object;" = some ⟨[(.array (.object "java/lang/Object")), .int, (.object "java/lang/Class")], some (.array (.object "java/lang/Object"))⟩ := by decide +kernel
theorem d117 : decode jdk_65_method_119_code 6 = .ok (.invokestatic 300, 3) := by decide +kernel
theorem w_175 {Z : State} {a0 : Array Value} (hw : HW Z a0) : (Jvm.Cond.static m_15).before a0 Z = true := hw _ (List.mem_of_getElem? (i := 175) rfl)
theorem d118 : decode jdk_65_method_119_code 9 = .ok (.areturn, 1) := by decide +kernel
abbrev m_17 : MethodName := (⟨"java/util/Arrays", "copyOf", "([Ljava/lang/Object;I)[Ljava/lang/Object;"⟩ : MethodName)
def Q_acp2 (Z : State) (v_ : Addr) (kv : ClassId) (y0 : Addr) (mo : Addr) (h0 : Heap) (n0 : Nat) (v : Option Value) (h : Heap) (L : List Loc) : Prop := ∃ (b : Addr) (k : ClassId), (v = some (.ref b)) ∧ (Fr n0 L) ∧ (Keep h0 h []) ∧ (h0.size ≤ b) ∧ (Exa Z h b "[Ljava/lang/Object;") ∧ (Arv Z h b k (.object "java/lang/Object") (2 : Int32) [(.ref y0), .null] .null) ∧ (Ovr Z k "java/lang/Object")
theorem rm_acp2 (l : Launch) (Z : State) (a0 : Array Value) (hw : HW Z a0) (ws : List Jvm.Cond) (v_ : Addr) (kv : ClassId) (y0 : Addr) (mo : Addr) (h0 : Heap) (n0 : Nat) (Z0 : n0 ≤ h0.size) (P0 : Mi Z "[Ljava/lang/Object;" mo) (P1 : Exa Z h0 v_ "[Ljava/lang/Object;") (P2 : Arv Z h0 v_ kv (.object "java/lang/Object") (1 : Int32) [(.ref y0)] .null) (P3 : Exa Z h0 y0 "java/lang/RuntimeException") :
    MF l Z m_17 jdk_65_method_119_code 2 (some (.array (.object "java/lang/Object"))) ws (oR 2 1 2 33) #[(.ref v_), (.int 2)] h0 (Q_acp2 Z v_ kv y0 mo h0 n0) := by
  refine own_body (cls := "java/util/Arrays") (plainFor_of_name pn_9) rfl (fun p e s m below meth c s₁ hx hby hml hown hnm hret hZ X0 e0 => ?_)
  have N0 := Fr.nil n0
  have K0 := Keep.refl h0 []
  have lt1 := own_l P1.lt
  have lt2 := own_l P2.lt
  have lt3 := own_l P3.lt
  obtain ⟨T4, X4, e4, st4⟩ := own_gcls X0 hx hZ hown (w_168 hw) (w_169 hw) (w_171 hw) (w_170 hw) (w_172 hw) e0 P1 P0 (g := (mkF m 3 #[vA v_, vI 2] [(.ref v_), (.int 2), (.ref v_)])) rfl (by rw [hml]; rfl) rfl (hb hby d116) (by decide) (W := 2) (Nat.le_of_eq rfl) (by decide)
  obtain ⟨_, _, ⟨T5, L5, k5, n5⟩, -, X5, ⟨Lc5, hQ5, l5, y5, z5⟩, st5⟩ := Jvm.LawKit.callS X4 hx (y := m_15) hown (mvT hZ (w_174 hw)) (mvT hZ (w_175 hw)) (mvT hZ (w_166 hw)) (mvT hZ (w_176 hw)) (by decide) (backOf (W := 0) (rm_acp3 l Z a0 hw [] v_ kv y0 mo h0 n0 (by omega) P0 P2 P3) hZ (w_176 hw) (w_166 hw) (by decide) (by decide)) (g := (mkF m 6 #[vA v_, vI 2] [(.ref mo), (.int 2), (.ref v_)])) rfl (by rw [hml]; rfl) (argsL := [(.ref v_), (.int 2), (.ref mo)]) (rest := []) (lenOf pd_3 rfl) rfl (Nat.le_of_eq rfl) (hb hby d117) (fun _ _ => ⟨rfl, e4, (by decide : 0 + 1 ≤ _), (by decide : 0 + 2 ≤ _)⟩)
  dsimp only [Pt.U, Pt.locs, Pt.cells, Pt.slots] at X5 l5 y5 z5 st5 hQ5
  rw [l5, y5, z5] at X5
  obtain ⟨x5_b, x5_k, rfl, Nq5, Kq5, r5_0, r5_1, r5_2, r5_3⟩ := hQ5
  have N5 := Fr.app N0 Nq5
  have z5' := Kq5.1
  have K5 := K0.trans Kq5 all0
  have lt6 := own_l r5_1.lt
  have lt7 := own_l r5_2.lt
  refine ⟨_, _, _, _, some (.ref x5_b), X5, by decide, by decide, nofun, ?_, fun fs hr => castTop (ef_1 m v_ (2 : Int32)) ?_⟩
  · show Q_acp2 Z v_ kv y0 mo h0 n0 _ T5.heap _
    exact ⟨x5_b, x5_k, rfl, N5, K5, (by omega), r5_1, r5_2, r5_3⟩
  · show Steps _ _ _ (s₁.setTop (mkF m 0 #[vA v_, vI 2] [])) _
    refine XS.aloadN X0.here hx rfl (hb hby d113) rfl rfl ?_
    refine XS.iloadN X0.here hx rfl (hb hby d114) rfl ?_
    refine XS.aloadN X0.here hx rfl (hb hby d115) rfl rfl ?_
    refine st4 _ ?_
    show Steps _ _ _ (T4.setTop (mkF m 6 #[vA v_, vI 2] [(.ref mo), (.int 2), (.ref v_)])) _
    refine st5 _ ?_
    show Steps _ _ _ (T5.setTop (mkF m 9 #[vA v_, vI 2] [(.ref x5_b)])) _
    exact retOut X5 hx hret (own_narrow_ref rfl) (Or.inr (Or.inr (Or.inr (Or.inr ⟨rfl, rfl, rfl⟩)))) (hb hby d118) hr
theorem d119 : decode jdk_38_method_6_code 0 = .ok (.aload_n 0, 1) := by decide +kernel
theorem d120 : decode jdk_38_method_6_code 1 = .ok (.getfield 9, 3) := by decide +kernel
theorem d121 : decode jdk_38_method_6_code 4 = .ok (.arraylength, 1) := by decide +kernel
theorem d122 : decode jdk_38_method_6_code 5 = .ok (.istore_n 2, 1) := by decide +kernel
theorem d123 : decode jdk_38_method_6_code 6 = .ok (.iload_n 2, 1) := by decide +kernel
theorem d124 : decode jdk_38_method_6_code 7 = .ok (.ifCond .gt 13, 3) := by decide +kernel
theorem d125 : decode jdk_38_method_6_code 20 = .ok (.iload_n 2, 1) := by decide +kernel
theorem d126 : decode jdk_38_method_6_code 21 = .ok (.iload_n 1, 1) := by decide +kernel
theorem d127 : decode jdk_38_method_6_code 22 = .ok (.iload_n 2, 1) := by decide +kernel
theorem d128 : decode jdk_38_method_6_code 23 = .ok (.isub, 1) := by decide +kernel
theorem d129 : decode jdk_38_method_6_code 24 = .ok (.iload_n 2, 1) := by decide +kernel
theorem d130 : decode jdk_38_method_6_code 25 = .ok (.iconst 1, 1) := by decide +kernel
theorem d131 : decode jdk_38_method_6_code 26 = .ok (.ishr, 1) := by decide +kernel
theorem w_155 {Z : State} {a0 : Array Value} (hw : HW Z a0) : (Jvm.Cond.methodLink "java/util/ArrayList" (73 : Nat) m_12).before a0 Z = true := hw _ (List.mem_of_getElem? (i := 155) rfl)
theorem w_158 {Z : State} {a0 : Array Value} (hw : HW Z a0) : (Jvm.Cond.code m_12 jdk_48_method_27_code (4 : Nat) (Option.some FieldType.int)).before a0 Z = true := hw _ (List.mem_of_getElem? (i := 158) rfl)
theorem w_157 {Z : State} {a0 : Array Value} (hw : HW Z a0) : (Jvm.Cond.initialized "jdk/internal/util/ArraysSupport").before a0 Z = true := hw _ (List.mem_of_getElem? (i := 157) rfl)
theorem pd_4 : parseMethodDescriptor "(III)I" = some ⟨[.int, .int, .int], some .int⟩ := by decide +kernel
theorem d132 : decode jdk_38_method_6_code 27 = .ok (.invokestatic 73, 3) := by decide +kernel
theorem w_156 {Z : State} {a0 : Array Value} (hw : HW Z a0) : (Jvm.Cond.static m_12).before a0 Z = true := hw _ (List.mem_of_getElem? (i := 156) rfl)
theorem d133 : decode jdk_38_method_6_code 30 = .ok (.istore_n 3, 1) := by decide +kernel
theorem d134 : decode jdk_38_method_6_code 31 = .ok (.aload_n 0, 1) := by decide +kernel
theorem d135 : decode jdk_38_method_6_code 32 = .ok (.aload_n 0, 1) := by decide +kernel
theorem d136 : decode jdk_38_method_6_code 33 = .ok (.getfield 9, 3) := by decide +kernel
theorem d137 : decode jdk_38_method_6_code 36 = .ok (.iload_n 3, 1) := by decide +kernel
theorem w_164 {Z : State} {a0 : Array Value} (hw : HW Z a0) : (Jvm.Cond.methodLink "java/util/ArrayList" (66 : Nat) m_17).before a0 Z = true := hw _ (List.mem_of_getElem? (i := 164) rfl)
theorem w_167 {Z : State} {a0 : Array Value} (hw : HW Z a0) : (Jvm.Cond.code m_17 jdk_65_method_119_code (2 : Nat) (Option.some (FieldType.array (FieldType.object "java/lang/Object")))).before a0 Z = true := hw _ (List.mem_of_getElem? (i := 167) rfl)
theorem pd_5 : parseMethodDescriptor "([Ljava/lang/Object;I)[Ljava/lang/Object;" = some ⟨[(.array (.object "java/lang/Object")), .int], some (.array (.object "java/lang/Object"))⟩ := by decide +kernel
theorem d138 : decode jdk_38_method_6_code 37 = .ok (.invokestatic 66, 3) := by decide +kernel
theorem w_165 {Z : State} {a0 : Array Value} (hw : HW Z a0) : (Jvm.Cond.static m_17).before a0 Z = true := hw _ (List.mem_of_getElem? (i := 165) rfl)
theorem d139 : decode jdk_38_method_6_code 40 = .ok (.dup_x1, 1) := by decide +kernel
theorem d140 : decode jdk_38_method_6_code 41 = .ok (.putfield 9, 3) := by decide +kernel
theorem d141 : decode jdk_38_method_6_code 44 = .ok (.areturn, 1) := by decide +kernel
theorem ef_7 (m : MethodId) (x0 : Addr) (x1 : Int32) : entryFrame m #[(.ref x0), (.int x1)] 4 = mkF m 0 #[vA x0, vI x1, .unset, .unset] [] := by first | (simp [entryFrame, mkF, argsToLocals, Value.category, maxLocals]; done) | rfl
abbrev m_18 : MethodName := (⟨"java/util/ArrayList", "grow", "(I)[Ljava/lang/Object;"⟩ : MethodName)
def Q_growI (Z : State) (a_ : Addr) (mc : Int32) (v_ : Addr) (kv : ClassId) (y0 : Addr) (mo : Addr) (h0 : Heap) (n0 : Nat) (v : Option Value) (h : Heap) (L : List Loc) : Prop := ∃ (b : Addr) (k : ClassId), (v = some (.ref b)) ∧ (Fr n0 L) ∧ (Keep h0 h [a_]) ∧ (Exa Z h a_ "java/util/ArrayList") ∧ (fld2 Z h a_ (.int mc)) ∧ (fld0 Z h a_ (.int 1)) ∧ (fld1 Z h a_ (.ref b)) ∧ (h0.size ≤ b) ∧ (Exa Z h b "[Ljava/lang/Object;") ∧ (Arv Z h b k (.object "java/lang/Object") (2 : Int32) [(.ref y0), .null] .null) ∧ (Ovr Z k "java/lang/Object")
theorem rm_growI (l : Launch) (Z : State) (a0 : Array Value) (hw : HW Z a0) (ws : List Jvm.Cond) (a_ : Addr) (mc : Int32) (v_ : Addr) (kv : ClassId) (y0 : Addr) (mo : Addr) (h0 : Heap) (n0 : Nat) (Z0 : n0 ≤ h0.size) (P0 : Mi Z "[Ljava/lang/Object;" mo) (P1 : Exa Z h0 a_ "java/util/ArrayList") (P2 : fld2 Z h0 a_ (.int mc)) (P3 : fld0 Z h0 a_ (.int 1)) (P4 : fld1 Z h0 a_ (.ref v_)) (P5 : Exa Z h0 v_ "[Ljava/lang/Object;") (P6 : Arv Z h0 v_ kv (.object "java/lang/Object") (1 : Int32) [(.ref y0)] .null) (P7 : Exa Z h0 y0 "java/lang/RuntimeException") (P8 : n0 ≤ a_) (P9 : a_ ≠ v_) :
    MF l Z m_18 jdk_38_method_6_code 4 (some (.array (.object "java/lang/Object"))) ws (oR 3 1 2 47) #[(.ref a_), (.int 2)] h0 (Q_growI Z a_ mc v_ kv y0 mo h0 n0) := by
  refine own_body (cls := "java/util/ArrayList") (plainFor_of_name pn_5) rfl (fun p e s m below meth c s₁ hx hby hml hown hnm hret hZ X0 e0 => ?_)
  have N0 := Fr.nil n0
  have K0 := Keep.refl h0 [a_]
  have lt1 := own_l P1.lt
  have lt2 := own_l P2.lt
  have lt3 := own_l P3.lt
  have lt4 := own_l P4.lt
  have lt5 := own_l P5.lt
  have lt6 := own_l P6.lt
  have lt7 := own_l P7.lt
  obtain ⟨T8, X8, e8, st8⟩ := getF X0 hx hZ hown (host := "") (Or.inl (w_124 hw)) Via.refl e0 P4 (g := (mkF m 1 #[vA a_, vI 2, .unset, .unset] [(.ref a_)])) rfl rfl (hb hby d120)
  obtain ⟨cl9, Ar9, q9, S9, M9, H9, G9⟩ := id P6
  obtain ⟨_, _, ⟨T10, L10, k10, n10⟩, -, X10, ⟨Lc10, hQ10, l10, y10, z10⟩, st10⟩ := Jvm.LawKit.callS X8 hx (y := m_12) hown (mvT hZ (w_155 hw)) (mvT hZ (w_156 hw)) (mvT hZ (w_157 hw)) (mvT hZ (w_158 hw)) (by decide) (backOf (W := 0) (rm_newLen l Z a0 hw []  h0 n0 (by omega) ) hZ (w_158 hw) (w_157 hw) (by decide) (by decide)) (g := (mkF m 27 #[vA a_, vI 2, vI 1, .unset] [(.int 0), (.int 1), (.int 1)])) rfl (by rw [hml]; rfl) (argsL := [(.int 1), (.int 1), (.int 0)]) (rest := []) (lenOf pd_4 rfl) rfl (Nat.le_of_eq rfl) (hb hby d132) (fun _ _ => ⟨rfl, e8, (by decide : 0 + 0 ≤ _), (by decide : 0 + 0 ≤ _)⟩)
  dsimp only [Pt.U, Pt.locs, Pt.cells, Pt.slots] at X10 l10 y10 z10 st10 hQ10
  rw [l10, y10, z10] at X10
  obtain ⟨rfl, Nq10, Kq10⟩ := hQ10
  have N10 := Fr.app N0 Nq10
  obtain ⟨T11, X11, e11, st11⟩ := getF X10 hx hZ hown (host := "") (Or.inl (w_124 hw)) Via.refl Kq10 P4 (g := (mkF m 33 #[vA a_, vI 2, vI 1, vI 2] [(.ref a_), (.ref a_)])) rfl rfl (hb hby d136)
  obtain ⟨_, _, ⟨T12, L12, k12, n12⟩, -, X12, ⟨Lc12, hQ12, l12, y12, z12⟩, st12⟩ := Jvm.LawKit.callS X11 hx (y := m_17) hown (mvT hZ (w_164 hw)) (mvT hZ (w_165 hw)) (mvT hZ (w_166 hw)) (mvT hZ (w_167 hw)) (by decide) (backOf (W := 1) (rm_acp2 l Z a0 hw [] v_ kv y0 mo h0 n0 (by omega) P0 P5 P6 P7) hZ (w_167 hw) (w_166 hw) (by decide) (by decide)) (g := (mkF m 37 #[vA a_, vI 2, vI 1, vI 2] [(.int 2), (.ref v_), (.ref a_)])) rfl (by rw [hml]; rfl) (argsL := [(.ref v_), (.int 2)]) (rest := [(.ref a_)]) (lenOf pd_5 rfl) rfl (Nat.le_of_eq rfl) (hb hby d138) (fun _ _ => ⟨rfl, e11, (by decide : 0 + 1 ≤ _), (by decide : 0 + 2 ≤ _)⟩)
  dsimp only [Pt.U, Pt.locs, Pt.cells, Pt.slots] at X12 l12 y12 z12 st12 hQ12
  rw [l12, y12, z12] at X12
  obtain ⟨x12_b, x12_k, rfl, Nq12, Kq12, r12_0, r12_1, r12_2, r12_3⟩ := hQ12
  have N12 := Fr.app N10 Nq12
  have z12' := Kq12.1
  have K12 := K0.trans Kq12 all0
  have lt13 := own_l r12_1.lt
  have lt14 := own_l r12_2.lt
  have f16 := P4.keep Kq12 nin0
  have f17 := P1.keep Kq12
  obtain ⟨T15, h15, X15, e15, W15, st15⟩ := putF X12 hx hZ hown (host := "") (Or.inl (w_124 hw)) Via.refl rfl f16 f17 (Or.inl (w_125 hw)) (w_102 hw) (ty := (.array (.object "java/lang/Object"))) (by decide) rfl rfl (g := (mkF m 41 #[vA a_, vI 2, vI 1, vI 2] [(.ref x12_b), (.ref a_), (.ref x12_b)])) rfl rfl (hb hby d140)
  have F15 := f16.same W15
  have z15 := W15.size
  have K15 := K12.wr W15 (Or.inl (List.mem_of_getElem? (i := 0) rfl))
  have N15 := Fr.snoc X15 N12 (by omega)
  have f18 := f17.wr W15
  have f19 := P2.keep Kq12 nin0
  have f20 := f19.other W15 (Or.inr (slot_ne (a0 := a0) (t := .int) (t' := (.array (.object "java/lang/Object"))) (Or.inl (w_122 hw)) (Or.inl (w_125 hw)) (by decide) (by decide) (by decide)))
  have f21 := P3.keep Kq12 nin0
  have f22 := f21.other W15 (Or.inr (slot_ne (a0 := a0) (t := .int) (t' := (.array (.object "java/lang/Object"))) (Or.inl (w_138 hw)) (Or.inl (w_125 hw)) (by decide) (by decide) (by decide)))
  have f23 := r12_1.wr W15
  have f24 := r12_2.other W15 (own_ne (by omega))
  refine ⟨_, _, _, _, some (.ref x12_b), X15, by decide, by decide, nofun, ?_, fun fs hr => castTop (ef_7 m a_ (2 : Int32)) ?_⟩
  · show Q_growI Z a_ mc v_ kv y0 mo h0 n0 _ T15.heap _
    rw [(e15 : T15.heap = h15)]
    exact ⟨x12_b, x12_k, rfl, N15, K15, f18, f20, f22, F15, (by omega), f23, f24, r12_3⟩
  · show Steps _ _ _ (s₁.setTop (mkF m 0 #[vA a_, vI 2, .unset, .unset] [])) _
    refine XS.aloadN X0.here hx rfl (hb hby d119) rfl rfl ?_
    refine st8 _ ?_
    show Steps _ _ _ (T8.setTop (mkF m 4 #[vA a_, vI 2, .unset, .unset] [(.ref v_)])) _
    refine X8.arraylength hx (by rw [e8]; exact Ar9.1) (State.isArrayOf_alike hZ.alike Ar9.2.1) (g := (mkF m 4 #[vA a_, vI 2, .unset, .unset] [(.ref v_)])) rfl rfl (hb hby d121) _ ?_
    rw [len_of S9 M9]
    show Steps _ _ _ (T8.setTop (mkF m 5 #[vA a_, vI 2, .unset, .unset] [(.int 1)])) _
    refine XS.istoreN X8.here hx rfl (hb hby d122) rfl (l' := #[vA a_, vI 2, vI 1, .unset]) rfl ?_
    refine XS.iloadN X8.here hx rfl (hb hby d123) rfl ?_
    refine XS.ifYes X8.here hx rfl (pc0 := 7) (pc' := 20) rfl (hb hby d124) rfl ((if0 _ _).trans (tlt ((by decide) : (0 : Int32) < (1 : Int32))).2.2.1) (by decide) (by decide) ?_
    refine XS.iloadN X8.here hx rfl (hb hby d125) rfl ?_
    refine XS.iloadN X8.here hx rfl (hb hby d126) rfl ?_
    refine XS.iloadN X8.here hx rfl (hb hby d127) rfl ?_
    refine XS.isub X8.here hx rfl (hb hby d128) rfl ?_
    refine XS.iloadN X8.here hx rfl (hb hby d129) rfl ?_
    refine XS.iconst X8.here hx rfl (hb hby d130) ?_
    refine XS.ishr X8.here hx rfl (hb hby d131) rfl ?_
    refine st10 _ ?_
    show Steps _ _ _ (T10.setTop (mkF m 30 #[vA a_, vI 2, vI 1, .unset] [(.int 2)])) _
    refine XS.istoreN X10.here hx rfl (hb hby d133) rfl (l' := #[vA a_, vI 2, vI 1, vI 2]) rfl ?_
    refine XS.aloadN X10.here hx rfl (hb hby d134) rfl rfl ?_
    refine XS.aloadN X10.here hx rfl (hb hby d135) rfl rfl ?_
    refine st11 _ ?_
    show Steps _ _ _ (T11.setTop (mkF m 36 #[vA a_, vI 2, vI 1, vI 2] [(.ref v_), (.ref a_)])) _
    refine XS.iloadN X11.here hx rfl (hb hby d137) rfl ?_
    refine st12 _ ?_
    show Steps _ _ _ (T12.setTop (mkF m 40 #[vA a_, vI 2, vI 1, vI 2] [(.ref x12_b), (.ref a_)])) _
    refine XS.dupX1 X12.here hx rfl (hb hby d139) rfl rfl rfl ?_
    refine st15 _ ?_
    show Steps _ _ _ (T15.setTop (mkF m 44 #[vA a_, vI 2, vI 1, vI 2] [(.ref x12_b)])) _
    exact retOut X15 hx hret (own_narrow_ref rfl) (Or.inr (Or.inr (Or.inr (Or.inr ⟨rfl, rfl, rfl⟩)))) (hb hby d141) hr
theorem d142 : decode jdk_38_method_7_code 0 = .ok (.aload_n 0, 1) := by decide +kernel
theorem d143 : decode jdk_38_method_7_code 1 = .ok (.aload_n 0, 1) := by decide +kernel
theorem d144 : decode jdk_38_method_7_code 2 = .ok (.getfield 48, 3) := by decide +kernel
theorem d145 : decode jdk_38_method_7_code 5 = .ok (.iconst 1, 1) := by decide +kernel
theorem d146 : decode jdk_38_method_7_code 6 = .ok (.iadd, 1) := by decide +kernel
theorem w_150 {Z : State} {a0 : Array Value} (hw : HW Z a0) : (Jvm.Cond.methodLink "java/util/ArrayList" (69 : Nat) m_18).before a0 Z = true := hw _ (List.mem_of_getElem? (i := 150) rfl)
theorem w_154 {Z : State} {a0 : Array Value} (hw : HW Z a0) : (Jvm.Cond.code m_18 jdk_38_method_6_code (4 : Nat) (Option.some (FieldType.array (FieldType.object "java/lang/Object")))).before a0 Z = true := hw _ (List.mem_of_getElem? (i := 154) rfl)
theorem pd_6 : parseMethodDescriptor "(I)[Ljava/lang/Object;" = some ⟨[.int], some (.array (.object "java/lang/Object"))⟩ := by decide +kernel
theorem d147 : decode jdk_38_method_7_code 7 = .ok (.invokevirtual 69, 3) := by decide +kernel
theorem w_151 {Z : State} {a0 : Array Value} (hw : HW Z a0) : (Jvm.Cond.instanceMethod m_18).before a0 Z = true := hw _ (List.mem_of_getElem? (i := 151) rfl)
theorem w_153 {Z : State} {a0 : Array Value} (hw : HW Z a0) : (Jvm.Cond.selects "java/util/ArrayList" m_18 m_18).before a0 Z = true := hw _ (List.mem_of_getElem? (i := 153) rfl)
theorem w_152 {Z : State} {a0 : Array Value} (hw : HW Z a0) : (Jvm.Cond.privateMethod m_18).before a0 Z = true := hw _ (List.mem_of_getElem? (i := 152) rfl)
theorem d148 : decode jdk_38_method_7_code 10 = .ok (.areturn, 1) := by decide +kernel
abbrev m_19 : MethodName := (⟨"java/util/ArrayList", "grow", "()[Ljava/lang/Object;"⟩ : MethodName)
def Q_grow (Z : State) (a_ : Addr) (mc : Int32) (v_ : Addr) (kv : ClassId) (y0 : Addr) (mo : Addr) (h0 : Heap) (n0 : Nat) (v : Option Value) (h : Heap) (L : List Loc) : Prop := ∃ (b : Addr) (k : ClassId), (v = some (.ref b)) ∧ (Fr n0 L) ∧ (Keep h0 h [a_]) ∧ (Exa Z h a_ "java/util/ArrayList") ∧ (fld2 Z h a_ (.int mc)) ∧ (fld0 Z h a_ (.int 1)) ∧ (fld1 Z h a_ (.ref b)) ∧ (h0.size ≤ b) ∧ (Exa Z h b "[Ljava/lang/Object;") ∧ (Arv Z h b k (.object "java/lang/Object") (2 : Int32) [(.ref y0), .null] .null) ∧ (Ovr Z k "java/lang/Object")
theorem rm_grow (l : Launch) (Z : State) (a0 : Array Value) (hw : HW Z a0) (ws : List Jvm.Cond) (a_ : Addr) (mc : Int32) (v_ : Addr) (kv : ClassId) (y0 : Addr) (mo : Addr) (h0 : Heap) (n0 : Nat) (Z0 : n0 ≤ h0.size) (P0 : Mi Z "[Ljava/lang/Object;" mo) (P1 : Exa Z h0 a_ "java/util/ArrayList") (P2 : fld2 Z h0 a_ (.int mc)) (P3 : fld0 Z h0 a_ (.int 1)) (P4 : fld1 Z h0 a_ (.ref v_)) (P5 : Exa Z h0 v_ "[Ljava/lang/Object;") (P6 : Arv Z h0 v_ kv (.object "java/lang/Object") (1 : Int32) [(.ref y0)] .null) (P7 : Exa Z h0 y0 "java/lang/RuntimeException") (P8 : n0 ≤ a_) (P9 : a_ ≠ v_) :
    MF l Z m_19 jdk_38_method_7_code 1 (some (.array (.object "java/lang/Object"))) ws (oR 4 1 2 62) #[(.ref a_)] h0 (Q_grow Z a_ mc v_ kv y0 mo h0 n0) := by
  refine own_body (cls := "java/util/ArrayList") (plainFor_of_name pn_5) rfl (fun p e s m below meth c s₁ hx hby hml hown hnm hret hZ X0 e0 => ?_)
  have N0 := Fr.nil n0
  have K0 := Keep.refl h0 [a_]
  have lt1 := own_l P1.lt
  have lt2 := own_l P2.lt
  have lt3 := own_l P3.lt
  have lt4 := own_l P4.lt
  have lt5 := own_l P5.lt
  have lt6 := own_l P6.lt
  have lt7 := own_l P7.lt
  obtain ⟨T8, X8, e8, st8⟩ := getF X0 hx hZ hown (host := "") (Or.inl (w_137 hw)) Via.refl e0 P3 (g := (mkF m 2 #[vA a_] [(.ref a_), (.ref a_)])) rfl rfl (hb hby d144)
  obtain ⟨cq9, kq9, qa9, qb9, qc9⟩ := isOf hZ e8 P1
  obtain ⟨cc9, ca9, cb9⟩ := P1.cell
  obtain ⟨_, _, ⟨T9, L9, k9, n9⟩, -, X9, ⟨Lc9, hQ9, l9, y9, z9⟩, st9⟩ := X8.privateBack hx (y := m_18) hown (mvT hZ (w_150 hw)) (mvT hZ (w_151 hw)) (mvT hZ (w_153 hw)) (Cond.privateMethod_at (mvP hZ (w_152 hw) (args := #[]))) (mvT hZ (w_154 hw)) (by decide) (backOf (W := 0) (rm_growI l Z a0 hw [] a_ mc v_ kv y0 mo h0 n0 (by omega) P0 P1 P2 P3 P4 P5 P6 P7 (by omega) (fun q => P9 q)) hZ (w_154 hw) (w_103 hw) (by decide) (by decide)) (g := (mkF m 7 #[vA a_] [(.int 2), (.ref a_)])) rfl (by rw [hml]; rfl) (Steps.refl _) (a := a_) (cell := cc9) (by rw [e8]; exact ca9) cb9 (argsL := [(.int 2)]) (rest := []) (lenOf pd_6 rfl) rfl (Nat.le_of_eq rfl) (hb hby d147) (fun _ _ => ⟨rfl, e8, (by decide : 0 + 1 ≤ _), (by decide : 0 + 2 ≤ _)⟩)
  dsimp only [Pt.U, Pt.locs, Pt.cells, Pt.slots] at X9 l9 y9 z9 st9 hQ9
  rw [l9, y9, z9] at X9
  obtain ⟨x9_b, x9_k, rfl, Nq9, Kq9, r9_0, r9_1, r9_2, r9_3, r9_4, r9_5, r9_6, r9_7⟩ := hQ9
  have N9 := Fr.app N0 Nq9
  have z9' := Kq9.1
  have K9 := K0.trans Kq9 (allS (Or.inl (List.mem_of_getElem? (i := 0) rfl)) all0)
  have lt10 := own_l r9_0.lt
  have lt11 := own_l r9_1.lt
  have lt12 := own_l r9_2.lt
  have lt13 := own_l r9_3.lt
  have lt14 := own_l r9_5.lt
  have lt15 := own_l r9_6.lt
  refine ⟨_, _, _, _, some (.ref x9_b), X9, by decide, by decide, nofun, ?_, fun fs hr => castTop (ef_0 m a_) ?_⟩
  · show Q_grow Z a_ mc v_ kv y0 mo h0 n0 _ T9.heap _
    exact ⟨x9_b, x9_k, rfl, N9, K9, r9_0, r9_1, r9_2, r9_3, (by omega), r9_5, r9_6, r9_7⟩
  · show Steps _ _ _ (s₁.setTop (mkF m 0 #[vA a_] [])) _
    refine XS.aloadN X0.here hx rfl (hb hby d142) rfl rfl ?_
    refine XS.aloadN X0.here hx rfl (hb hby d143) rfl rfl ?_
    refine st8 _ ?_
    show Steps _ _ _ (T8.setTop (mkF m 5 #[vA a_] [(.int 1), (.ref a_)])) _
    refine XS.iconst X8.here hx rfl (hb hby d145) ?_
    refine XS.iadd X8.here hx rfl (hb hby d146) rfl ?_
    refine st9.trans ?_
    show Steps _ _ _ (T9.setTop (mkF m 10 #[vA a_] [(.ref x9_b)])) _
    exact retOut X9 hx hret (own_narrow_ref rfl) (Or.inr (Or.inr (Or.inr (Or.inr ⟨rfl, rfl, rfl⟩)))) (hb hby d148) hr
theorem d149 : decode jdk_38_method_24_code 6 = .ok (.aload_n 0, 1) := by decide +kernel
theorem w_145 {Z : State} {a0 : Array Value} (hw : HW Z a0) : (Jvm.Cond.methodLink "java/util/ArrayList" (129 : Nat) m_19).before a0 Z = true := hw _ (List.mem_of_getElem? (i := 145) rfl)
theorem w_149 {Z : State} {a0 : Array Value} (hw : HW Z a0) : (Jvm.Cond.code m_19 jdk_38_method_7_code (1 : Nat) (Option.some (FieldType.array (FieldType.object "java/lang/Object")))).before a0 Z = true := hw _ (List.mem_of_getElem? (i := 149) rfl)
theorem pd_7 : parseMethodDescriptor "()[Ljava/lang/Object;" = some ⟨[], some (.array (.object "java/lang/Object"))⟩ := by decide +kernel
theorem d150 : decode jdk_38_method_24_code 7 = .ok (.invokevirtual 129, 3) := by decide +kernel
theorem w_146 {Z : State} {a0 : Array Value} (hw : HW Z a0) : (Jvm.Cond.instanceMethod m_19).before a0 Z = true := hw _ (List.mem_of_getElem? (i := 146) rfl)
theorem w_148 {Z : State} {a0 : Array Value} (hw : HW Z a0) : (Jvm.Cond.selects "java/util/ArrayList" m_19 m_19).before a0 Z = true := hw _ (List.mem_of_getElem? (i := 148) rfl)
theorem w_147 {Z : State} {a0 : Array Value} (hw : HW Z a0) : (Jvm.Cond.privateMethod m_19).before a0 Z = true := hw _ (List.mem_of_getElem? (i := 147) rfl)
theorem d151 : decode jdk_38_method_24_code 10 = .ok (.astore_n 2, 1) := by decide +kernel
def Q_addp1 (Z : State) (a_ : Addr) (it : Addr) (mc : Int32) (v_ : Addr) (kv : ClassId) (y0 : Addr) (mo : Addr) (h0 : Heap) (n0 : Nat) (v : Option Value) (h : Heap) (L : List Loc) : Prop := (v = none) ∧ (Fr n0 L) ∧ (Keep h0 h [a_]) ∧ (Exa Z h a_ "java/util/ArrayList")
theorem rm_addp1 (l : Launch) (Z : State) (a0 : Array Value) (hw : HW Z a0) (ws : List Jvm.Cond) (a_ : Addr) (it : Addr) (mc : Int32) (v_ : Addr) (kv : ClassId) (y0 : Addr) (mo : Addr) (h0 : Heap) (n0 : Nat) (Z0 : n0 ≤ h0.size) (P0 : Mi Z "[Ljava/lang/Object;" mo) (P1 : Exa Z h0 a_ "java/util/ArrayList") (P2 : fld2 Z h0 a_ (.int mc)) (P3 : fld0 Z h0 a_ (.int 1)) (P4 : fld1 Z h0 a_ (.ref v_)) (P5 : Exa Z h0 v_ "[Ljava/lang/Object;") (P6 : Arv Z h0 v_ kv (.object "java/lang/Object") (1 : Int32) [(.ref y0)] .null) (P7 : Exa Z h0 y0 "java/lang/RuntimeException") (P8 : n0 ≤ a_) (P9 : a_ ≠ v_) (P10 : Exa Z h0 it "java/lang/RuntimeException") :
    MF l Z m_9 jdk_38_method_24_code 4 none ws (oR 5 1 2 74) #[(.ref a_), (.ref it), (.ref v_), (.int 1)] h0 (Q_addp1 Z a_ it mc v_ kv y0 mo h0 n0) := by
  refine own_body (cls := "java/util/ArrayList") (plainFor_of_name pn_5) rfl (fun p e s m below meth c s₁ hx hby hml hown hnm hret hZ X0 e0 => ?_)
  have N0 := Fr.nil n0
  have K0 := Keep.refl h0 [a_]
  have lt1 := own_l P1.lt
  have lt2 := own_l P2.lt
  have lt3 := own_l P3.lt
  have lt4 := own_l P4.lt
  have lt5 := own_l P5.lt
  have lt6 := own_l P6.lt
  have lt7 := own_l P7.lt
  have lt8 := own_l P10.lt
  obtain ⟨cl9, Ar9, q9, S9, M9, H9, G9⟩ := id P6
  obtain ⟨cq10, kq10, qa10, qb10, qc10⟩ := isOf hZ e0 P1
  obtain ⟨cc10, ca10, cb10⟩ := P1.cell
  obtain ⟨_, _, ⟨T10, L10, k10, n10⟩, -, X10, ⟨Lc10, hQ10, l10, y10, z10⟩, st10⟩ := X0.privateBack hx (y := m_19) hown (mvT hZ (w_145 hw)) (mvT hZ (w_146 hw)) (mvT hZ (w_148 hw)) (Cond.privateMethod_at (mvP hZ (w_147 hw) (args := #[]))) (mvT hZ (w_149 hw)) (by decide) (backOf (W := 0) (rm_grow l Z a0 hw [] a_ mc v_ kv y0 mo h0 n0 (by omega) P0 P1 P2 P3 P4 P5 P6 P7 (by omega) (fun q => P9 q)) hZ (w_149 hw) (w_103 hw) (by decide) (by decide)) (g := (mkF m 7 #[vA a_, vA it, vA v_, vI 1] [(.ref a_)])) rfl (by rw [hml]; rfl) (Steps.refl _) (a := a_) (cell := cc10) (by rw [e0]; exact ca10) cb10 (argsL := []) (rest := []) (lenOf pd_7 rfl) rfl (Nat.le_of_eq rfl) (hb hby d150) (fun _ _ => ⟨rfl, e0, (by decide : 0 + 1 ≤ _), (by decide : 0 + 2 ≤ _)⟩)
  dsimp only [Pt.U, Pt.locs, Pt.cells, Pt.slots] at X10 l10 y10 z10 st10 hQ10
  rw [l10, y10, z10] at X10
  obtain ⟨x10_b, x10_k, rfl, Nq10, Kq10, r10_0, r10_1, r10_2, r10_3, r10_4, r10_5, r10_6, r10_7⟩ := hQ10
  have N10 := Fr.app N0 Nq10
  have z10' := Kq10.1
  have K10 := K0.trans Kq10 (allS (Or.inl (List.mem_of_getElem? (i := 0) rfl)) all0)
  have lt11 := own_l r10_0.lt
  have lt12 := own_l r10_1.lt
  have lt13 := own_l r10_2.lt
  have lt14 := own_l r10_3.lt
  have lt15 := own_l r10_5.lt
  have lt16 := own_l r10_6.lt
  have f18 := P10.keep Kq10
  obtain ⟨cl17, Ar17, q17, S17, M17, H17, G17⟩ := id r10_6
  have hin17 : ¬ ((1 : Int32) < 0 ∨ cl17.slots.size ≤ ((1 : Int32)).toNatClampNeg) := inb_of S17 ⟨by decide, by decide⟩
  obtain ⟨T17, h17, X17, e17, W17, st17⟩ := stR X10 hx hZ rfl Ar17 (j := (1 : Int32)) hin17 rfl (Sto.ofV Ar17 q17 r10_7 (Ins.of_exa f18 (w_144 hw))) (g := (mkF m 14 #[vA a_, vA it, vA x10_b, vI 1] [(.ref it), (.int 1), (.ref x10_b)])) rfl rfl (hb hby d47)
  have V17 : Arv Z h17 x10_b x10_k (.object "java/lang/Object") (2 : Int32) [(.ref y0), (.ref it)] .null := Arv.set Ar17 q17 S17 M17 H17 G17 rfl W17 1 rfl (Nat.le_of_ble_eq_true rfl)
  have z17 := W17.size
  have K17 := K10.wr W17 (Or.inr (by omega))
  have N17 := Fr.snoc X17 N10 (by omega)
  have f20 := r10_2.other W17 (Or.inl (own_ne (by omega)))
  have f21 := r10_0.wr W17
  obtain ⟨T19, h19, X19, e19, W19, st19⟩ := putF X17 hx hZ hown (host := "") (Or.inl (w_137 hw)) Via.refl e17 f20 f21 (Or.inl (w_138 hw)) (w_102 hw) (ty := .int) (by decide) rfl rfl (g := (mkF m 19 #[vA a_, vA it, vA x10_b, vI 1] [(.int 2), (.ref a_)])) rfl rfl (hb hby d52)
  have F19 := f20.same W19
  have z19 := W19.size
  have K19 := K17.wr W19 (Or.inl (List.mem_of_getElem? (i := 0) rfl))
  have N19 := Fr.snoc X19 N17 (by omega)
  have f22 := f21.wr W19
  refine ⟨_, _, _, _, none, X19, by decide, by decide, fun _ => rfl, ?_, fun fs hr => castTop (ef_2 m a_ it v_ (1 : Int32)) ?_⟩
  · show Q_addp1 Z a_ it mc v_ kv y0 mo h0 n0 _ T19.heap _
    rw [(e19 : T19.heap = h19)]
    exact ⟨rfl, N19, K19, f22⟩
  · show Steps _ _ _ (s₁.setTop (mkF m 0 #[vA a_, vA it, vA v_, vI 1] [])) _
    refine XS.iloadN X0.here hx rfl (hb hby d40) rfl ?_
    refine XS.aloadN X0.here hx rfl (hb hby d41) rfl rfl ?_
    refine X0.arraylength hx (by rw [e0]; exact Ar9.1) (State.isArrayOf_alike hZ.alike Ar9.2.1) (g := (mkF m 2 #[vA a_, vA it, vA v_, vI 1] [(.ref v_), (.int 1)])) rfl rfl (hb hby d42) _ ?_
    rw [len_of S9 M9]
    show Steps _ _ _ (s₁.setTop (mkF m 3 #[vA a_, vA it, vA v_, vI 1] [(.int 1), (.int 1)])) _
    refine XS.icmpNo X0.here hx rfl (hb hby d43) rfl (teq ((by decide) : (1 : Int32) = (1 : Int32))).2 ?_
    refine XS.aloadN X0.here hx rfl (hb hby d149) rfl rfl ?_
    refine st10.trans ?_
    show Steps _ _ _ (T10.setTop (mkF m 10 #[vA a_, vA it, vA v_, vI 1] [(.ref x10_b)])) _
    refine XS.astoreN X10.here hx rfl (hb hby d151) rfl rfl (l' := #[vA a_, vA it, vA x10_b, vI 1]) rfl ?_
    refine XS.aloadN X10.here hx rfl (hb hby d44) rfl rfl ?_
    refine XS.iloadN X10.here hx rfl (hb hby d45) rfl ?_
    refine XS.aloadN X10.here hx rfl (hb hby d46) rfl rfl ?_
    refine st17 _ ?_
    show Steps _ _ _ (T17.setTop (mkF m 15 #[vA a_, vA it, vA x10_b, vI 1] [])) _
    refine XS.aloadN X17.here hx rfl (hb hby d48) rfl rfl ?_
    refine XS.iloadN X17.here hx rfl (hb hby d49) rfl ?_
    refine XS.iconst X17.here hx rfl (hb hby d50) ?_
    refine XS.iadd X17.here hx rfl (hb hby d51) rfl ?_
    refine st19 _ ?_
    show Steps _ _ _ (T19.setTop (mkF m 22 #[vA a_, vA it, vA x10_b, vI 1] [])) _
    exact X19.returnOut hx hret (hb hby d53) hr
def Q_add1 (Z : State) (a_ : Addr) (it : Addr) (mc : Int32) (v_ : Addr) (kv : ClassId) (y0 : Addr) (mo : Addr) (h0 : Heap) (n0 : Nat) (v : Option Value) (h : Heap) (L : List Loc) : Prop := (v = some (.int 1)) ∧ (Fr n0 L) ∧ (Keep h0 h [a_]) ∧ (Exa Z h a_ "java/util/ArrayList")
theorem rm_add1 (l : Launch) (Z : State) (a0 : Array Value) (hw : HW Z a0) (ws : List Jvm.Cond) (a_ : Addr) (it : Addr) (mc : Int32) (v_ : Addr) (kv : ClassId) (y0 : Addr) (mo : Addr) (h0 : Heap) (n0 : Nat) (Z0 : n0 ≤ h0.size) (P0 : Mi Z "[Ljava/lang/Object;" mo) (P1 : Exa Z h0 a_ "java/util/ArrayList") (P2 : fld2 Z h0 a_ (.int mc)) (P3 : fld0 Z h0 a_ (.int 1)) (P4 : fld1 Z h0 a_ (.ref v_)) (P5 : Exa Z h0 v_ "[Ljava/lang/Object;") (P6 : Arv Z h0 v_ kv (.object "java/lang/Object") (1 : Int32) [(.ref y0)] .null) (P7 : Exa Z h0 y0 "java/lang/RuntimeException") (P8 : n0 ≤ a_) (P9 : a_ ≠ v_) (P10 : Exa Z h0 it "java/lang/RuntimeException") :
    MF l Z m_10 jdk_38_method_25_code 2 (some .boolean) ws (oR 6 1 2 89) #[(.ref a_), (.ref it)] h0 (Q_add1 Z a_ it mc v_ kv y0 mo h0 n0) := by
  refine own_body (cls := "java/util/ArrayList") (plainFor_of_name pn_5) rfl (fun p e s m below meth c s₁ hx hby hml hown hnm hret hZ X0 e0 => ?_)
  have N0 := Fr.nil n0
  have K0 := Keep.refl h0 [a_]
  have lt1 := own_l P1.lt
  have lt2 := own_l P2.lt
  have lt3 := own_l P3.lt
  have lt4 := own_l P4.lt
  have lt5 := own_l P5.lt
  have lt6 := own_l P6.lt
  have lt7 := own_l P7.lt
  have lt8 := own_l P10.lt
  obtain ⟨T9, X9, e9, st9⟩ := getF X0 hx hZ hown (host := "") (Or.inl (w_135 hw)) (Via.of (w_136 hw)) e0 P2 (g := (mkF m 2 #[vA a_, vA it] [(.ref a_), (.ref a_)])) rfl rfl (hb hby d56)
  obtain ⟨T10, h10, X10, e10, W10, st10⟩ := putF X9 hx hZ hown (host := "") (Or.inl (w_135 hw)) (Via.of (w_136 hw)) e9 P2 P1 (Or.inl (w_122 hw)) (w_102 hw) (ty := .int) (by decide) rfl rfl (g := (mkF m 7 #[vA a_, vA it] [(.int (mc + (1 : Int32))), (.ref a_)])) rfl rfl (hb hby d59)
  have F10 := P2.same W10
  have z10 := W10.size
  have K10 := K0.wr W10 (Or.inl (List.mem_of_getElem? (i := 0) rfl))
  have N10 := Fr.snoc X10 N0 (by omega)
  have f12 := P4.other W10 (Or.inr (slot_ne (a0 := a0) (t := (.array (.object "java/lang/Object"))) (t' := .int) (Or.inl (w_125 hw)) (Or.inl (w_122 hw)) (by decide) (by decide) (by decide)))
  obtain ⟨T11, X11, e11, st11⟩ := getF X10 hx hZ hown (host := "") (Or.inl (w_124 hw)) Via.refl e10 f12 (g := (mkF m 13 #[vA a_, vA it] [(.ref a_), (.ref it), (.ref a_)])) rfl rfl (hb hby d63)
  have f14 := P3.other W10 (Or.inr (slot_ne (a0 := a0) (t := .int) (t' := .int) (Or.inl (w_138 hw)) (Or.inl (w_122 hw)) (by decide) (by decide) (by decide)))
  obtain ⟨T13, X13, e13, st13⟩ := getF X11 hx hZ hown (host := "") (Or.inl (w_137 hw)) Via.refl e11 f14 (g := (mkF m 17 #[vA a_, vA it] [(.ref a_), (.ref v_), (.ref it), (.ref a_)])) rfl rfl (hb hby d65)
  have f16 := P1.wr W10
  have f17 := P5.wr W10
  have f18 := P6.other W10 (fun q => P9 q.symm)
  have f19 := P7.wr W10
  have f20 := P10.wr W10
  obtain ⟨cq15, kq15, qa15, qb15, qc15⟩ := isOf hZ e13 f16
  obtain ⟨cc15, ca15, cb15⟩ := f16.cell
  obtain ⟨_, _, ⟨T15, L15, k15, n15⟩, -, X15, ⟨Lc15, hQ15, l15, y15, z15⟩, st15⟩ := X13.privateBack hx (y := m_9) hown (mvT hZ (w_139 hw)) (mvT hZ (w_140 hw)) (mvT hZ (w_142 hw)) (Cond.privateMethod_at (mvP hZ (w_141 hw) (args := #[]))) (mvT hZ (w_143 hw)) (by decide) (backOf (W := 0) (rm_addp1 l Z a0 hw [] a_ it ((mc + (1 : Int32))) v_ kv y0 mo h10 n0 (by omega) P0 f16 F10 f14 f12 f17 f18 f19 (by omega) (fun q => P9 q) f20) hZ (w_143 hw) (w_103 hw) (by decide) (by decide)) (g := (mkF m 20 #[vA a_, vA it] [(.int 1), (.ref v_), (.ref it), (.ref a_)])) rfl (by rw [hml]; rfl) (Steps.refl _) (a := a_) (cell := cc15) (by rw [e13]; exact ca15) cb15 (argsL := [(.ref it), (.ref v_), (.int 1)]) (rest := []) (lenOf pd_1 rfl) rfl (Nat.le_of_eq rfl) (hb hby d66) (fun _ _ => ⟨rfl, e13, (by decide : 0 + 1 ≤ _), (by decide : 0 + 2 ≤ _)⟩)
  dsimp only [Pt.U, Pt.locs, Pt.cells, Pt.slots] at X15 l15 y15 z15 st15 hQ15
  rw [l15, y15, z15] at X15
  obtain ⟨rfl, Nq15, Kq15, r15_0⟩ := hQ15
  have N15 := Fr.app N10 Nq15
  have z15' := Kq15.1
  have K15 := K10.trans Kq15 (allS (Or.inl (List.mem_of_getElem? (i := 0) rfl)) all0)
  have lt21 := own_l r15_0.lt
  refine ⟨_, _, _, _, some (.int 1), X15, by decide, by decide, nofun, ?_, fun fs hr => castTop (ef_3 m a_ it) ?_⟩
  · show Q_add1 Z a_ it mc v_ kv y0 mo h0 n0 _ T15.heap _
    exact ⟨rfl, N15, K15, r15_0⟩
  · show Steps _ _ _ (s₁.setTop (mkF m 0 #[vA a_, vA it] [])) _
    refine XS.aloadN X0.here hx rfl (hb hby d54) rfl rfl ?_
    refine XS.dup X0.here hx rfl (hb hby d55) rfl rfl ?_
    refine st9 _ ?_
    show Steps _ _ _ (T9.setTop (mkF m 5 #[vA a_, vA it] [(.int mc), (.ref a_)])) _
    refine XS.iconst X9.here hx rfl (hb hby d57) ?_
    refine XS.iadd X9.here hx rfl (hb hby d58) rfl ?_
    refine st10 _ ?_
    show Steps _ _ _ (T10.setTop (mkF m 10 #[vA a_, vA it] [])) _
    refine XS.aloadN X10.here hx rfl (hb hby d60) rfl rfl ?_
    refine XS.aloadN X10.here hx rfl (hb hby d61) rfl rfl ?_
    refine XS.aloadN X10.here hx rfl (hb hby d62) rfl rfl ?_
    refine st11 _ ?_
    show Steps _ _ _ (T11.setTop (mkF m 16 #[vA a_, vA it] [(.ref v_), (.ref it), (.ref a_)])) _
    refine XS.aloadN X11.here hx rfl (hb hby d64) rfl rfl ?_
    refine st13 _ ?_
    show Steps _ _ _ (T13.setTop (mkF m 20 #[vA a_, vA it] [(.int 1), (.ref v_), (.ref it), (.ref a_)])) _
    refine st15.trans ?_
    show Steps _ _ _ (T15.setTop (mkF m 23 #[vA a_, vA it] [])) _
    refine XS.iconst X15.here hx rfl (hb hby d67) ?_
    exact retN X15 hx (t := .boolean) hret (by simp) (hb hby d68) hr
theorem d152 : decode jdk_31_method_11_code 0 = .ok (.aload_n 0, 1) := by decide +kernel
theorem d153 : decode jdk_31_method_11_code 1 = .ok (.ifnonnull 12, 3) := by decide +kernel
theorem d154 : decode jdk_31_method_11_code 13 = .ok (.aload_n 0, 1) := by decide +kernel
theorem d155 : decode jdk_31_method_11_code 14 = .ok (.areturn, 1) := by decide +kernel
theorem pn_10 : plainName "java/util/Objects" = true := by first | (simp [plainName, overriddenIn]; done) | decide +kernel
abbrev m_20 : MethodName := (⟨"java/util/Objects", "requireNonNull", "(Ljava/lang/Object;Ljava/lang/String;)Ljava/lang/Object;"⟩ : MethodName)
def Q_rnn (Z : State) (it : Addr) (sx : Addr) (h0 : Heap) (n0 : Nat) (v : Option Value) (h : Heap) (L : List Loc) : Prop := (v = some (.ref it)) ∧ (Fr n0 L) ∧ (h = h0)
theorem rm_rnn (l : Launch) (Z : State) (a0 : Array Value) (hw : HW Z a0) (ws : List Jvm.Cond) (it : Addr) (sx : Addr) (h0 : Heap) (n0 : Nat) (Z0 : n0 ≤ h0.size) :
    MF l Z m_20 jdk_31_method_11_code 2 (some (.object "java/lang/Object")) ws (oR 0 0 0 0) #[(.ref it), (.ref sx)] h0 (Q_rnn Z it sx h0 n0) := by
  refine own_body (cls := "java/util/Objects") (plainFor_of_name pn_10) rfl (fun p e s m below meth c s₁ hx hby hml hown hnm hret hZ X0 e0 => ?_)
  have N0 := Fr.nil n0
  refine ⟨_, _, _, _, some (.ref it), X0, by decide, by decide, nofun, ?_, fun fs hr => castTop (ef_3 m it sx) ?_⟩
  · show Q_rnn Z it sx h0 n0 _ s₁.heap _
    rw [(e0 : s₁.heap = h0)]
    exact ⟨rfl, N0, rfl⟩
  · show Steps _ _ _ (s₁.setTop (mkF m 0 #[vA it, vA sx] [])) _
    refine XS.aloadN X0.here hx rfl (hb hby d152) rfl rfl ?_
    refine XS.ifnonnullYes X0.here hx rfl (pc0 := 1) (pc' := 13) rfl (hb hby d153) rfl (by decide) (by decide) ?_
    refine XS.aloadN X0.here hx rfl (hb hby d154) rfl rfl ?_
    exact retOut X0 hx hret (own_narrow_ref rfl) (Or.inr (Or.inr (Or.inr (Or.inr ⟨rfl, rfl, rfl⟩)))) (hb hby d155) hr
theorem d156 : decode jdk_78_method_26_code 0 = .ok (.aload_n 1, 1) := by decide +kernel
theorem d157 : decode jdk_78_method_26_code 1 = .ok (.aload_n 0, 1) := by decide +kernel
theorem d158 : decode jdk_78_method_26_code 2 = .ok (.if_acmp .ne 15, 3) := by decide +kernel
theorem d159 : decode jdk_78_method_26_code 17 = .ok (.aload_n 1, 1) := by decide +kernel
theorem d160 : decode jdk_78_method_26_code 18 = .ok (.ldc_w 258, 3) := by decide +kernel
theorem w_97 {Z : State} {a0 : Array Value} (hw : HW Z a0) : (Jvm.Cond.methodLink "java/lang/Throwable" (260 : Nat) m_20).before a0 Z = true := hw _ (List.mem_of_getElem? (i := 97) rfl)
theorem w_100 {Z : State} {a0 : Array Value} (hw : HW Z a0) : (Jvm.Cond.code m_20 jdk_31_method_11_code (2 : Nat) (Option.some (FieldType.object "java/lang/Object"))).before a0 Z = true := hw _ (List.mem_of_getElem? (i := 100) rfl)
theorem w_99 {Z : State} {a0 : Array Value} (hw : HW Z a0) : (Jvm.Cond.initialized "java/util/Objects").before a0 Z = true := hw _ (List.mem_of_getElem? (i := 99) rfl)
theorem pd_8 : parseMethodDescriptor "(Ljava/lang/Object;Ljava/lang/String;)Ljava/lang/Object;" = some ⟨[(.object "java/lang/Object"), (.object "java/lang/String")], some (.object "java/lang/Object")⟩ := by decide +kernel
theorem d161 : decode jdk_78_method_26_code 21 = .ok (.invokestatic 260, 3) := by decide +kernel
theorem w_98 {Z : State} {a0 : Array Value} (hw : HW Z a0) : (Jvm.Cond.static m_20).before a0 Z = true := hw _ (List.mem_of_getElem? (i := 98) rfl)
theorem d162 : decode jdk_78_method_26_code 24 = .ok (.pop, 1) := by decide +kernel
theorem d163 : decode jdk_78_method_26_code 25 = .ok (.aload_n 0, 1) := by decide +kernel
theorem d164 : decode jdk_78_method_26_code 26 = .ok (.getfield 24, 3) := by decide +kernel
theorem d165 : decode jdk_78_method_26_code 29 = .ok (.ifnonnull 4, 3) := by decide +kernel
theorem d166 : decode jdk_78_method_26_code 33 = .ok (.aload_n 0, 1) := by decide +kernel
theorem d167 : decode jdk_78_method_26_code 34 = .ok (.getfield 24, 3) := by decide +kernel
theorem d168 : decode jdk_78_method_26_code 37 = .ok (.getstatic 20, 3) := by decide +kernel
theorem d169 : decode jdk_78_method_26_code 40 = .ok (.if_acmp .ne 15, 3) := by decide +kernel
theorem d170 : decode jdk_78_method_26_code 43 = .ok (.aload_n 0, 1) := by decide +kernel
theorem w_101 {Z : State} {a0 : Array Value} (hw : HW Z a0) : (Jvm.Cond.classLink "java/lang/Throwable" (233 : Nat) "java/util/ArrayList").before a0 Z = true := hw _ (List.mem_of_getElem? (i := 101) rfl)
theorem d171 : decode jdk_78_method_26_code 44 = .ok (.new 233, 3) := by decide +kernel
theorem d172 : decode jdk_78_method_26_code 47 = .ok (.dup, 1) := by decide +kernel
theorem d173 : decode jdk_78_method_26_code 48 = .ok (.iconst 1, 1) := by decide +kernel
theorem w_104 {Z : State} {a0 : Array Value} (hw : HW Z a0) : (Jvm.Cond.methodLink "java/lang/Throwable" (241 : Nat) m_8).before a0 Z = true := hw _ (List.mem_of_getElem? (i := 104) rfl)
theorem w_107 {Z : State} {a0 : Array Value} (hw : HW Z a0) : (Jvm.Cond.code m_8 jdk_38_method_1_code (2 : Nat) (Option.none : Option Jvm.ClassFile.FieldType)).before a0 Z = true := hw _ (List.mem_of_getElem? (i := 107) rfl)
theorem pd_9 : parseMethodDescriptor "(I)V" = some ⟨[.int], none⟩ := by decide +kernel
theorem d174 : decode jdk_78_method_26_code 49 = .ok (.invokespecial 241, 3) := by decide +kernel
theorem w_105 {Z : State} {a0 : Array Value} (hw : HW Z a0) : (Jvm.Cond.instanceMethod m_8).before a0 Z = true := hw _ (List.mem_of_getElem? (i := 105) rfl)
theorem d175 : decode jdk_78_method_26_code 52 = .ok (.putfield 24, 3) := by decide +kernel
theorem d176 : decode jdk_78_method_26_code 55 = .ok (.aload_n 0, 1) := by decide +kernel
theorem d177 : decode jdk_78_method_26_code 56 = .ok (.getfield 24, 3) := by decide +kernel
theorem d178 : decode jdk_78_method_26_code 59 = .ok (.aload_n 1, 1) := by decide +kernel
abbrev m_21 : MethodName := (⟨"java/util/List", "add", "(Ljava/lang/Object;)Z"⟩ : MethodName)
theorem w_126 {Z : State} {a0 : Array Value} (hw : HW Z a0) : (Jvm.Cond.methodLink "java/lang/Throwable" (301 : Nat) m_21).before a0 Z = true := hw _ (List.mem_of_getElem? (i := 126) rfl)
theorem w_134 {Z : State} {a0 : Array Value} (hw : HW Z a0) : (Jvm.Cond.code m_10 jdk_38_method_25_code (2 : Nat) (Option.some FieldType.boolean)).before a0 Z = true := hw _ (List.mem_of_getElem? (i := 134) rfl)
theorem pd_10 : parseMethodDescriptor "(Ljava/lang/Object;)Z" = some ⟨[(.object "java/lang/Object")], some .boolean⟩ := by decide +kernel
theorem d179 : decode jdk_78_method_26_code 60 = .ok (.invokeinterface 301 2, 5) := by decide +kernel
theorem w_127 {Z : State} {a0 : Array Value} (hw : HW Z a0) : (Jvm.Cond.declares m_21).before a0 Z = true := hw _ (List.mem_of_getElem? (i := 127) rfl)
theorem w_128 {Z : State} {a0 : Array Value} (hw : HW Z a0) : (Jvm.Cond.interfaceMethod "java/util/List" "java/util/List" "add" "(Ljava/lang/Object;)Z").before a0 Z = true := hw _ (List.mem_of_getElem? (i := 128) rfl)
theorem w_129 {Z : State} {a0 : Array Value} (hw : HW Z a0) : (Jvm.Cond.selects "java/util/ArrayList" m_21 m_10).before a0 Z = true := hw _ (List.mem_of_getElem? (i := 129) rfl)
theorem w_130 {Z : State} {a0 : Array Value} (hw : HW Z a0) : (Jvm.Cond.instanceMethod m_10).before a0 Z = true := hw _ (List.mem_of_getElem? (i := 130) rfl)
theorem w_131 {Z : State} {a0 : Array Value} (hw : HW Z a0) : (Jvm.Cond.publicMethod m_10).before a0 Z = true := hw _ (List.mem_of_getElem? (i := 131) rfl)
theorem w_132 {Z : State} {a0 : Array Value} (hw : HW Z a0) : (Jvm.Cond.unhidden "java/util/ArrayList" "add" "(Ljava/lang/Object;)Z").before a0 Z = true := hw _ (List.mem_of_getElem? (i := 132) rfl)
theorem w_133 {Z : State} {a0 : Array Value} (hw : HW Z a0) : (Jvm.Cond.castable "java/util/ArrayList" "java/util/List").before a0 Z = true := hw _ (List.mem_of_getElem? (i := 133) rfl)
theorem d180 : decode jdk_78_method_26_code 65 = .ok (.pop, 1) := by decide +kernel
theorem d181 : decode jdk_78_method_26_code 66 = .ok (.return_, 1) := by decide +kernel
abbrev m_22 : MethodName := (⟨"java/lang/Throwable", "addSuppressed", "(Ljava/lang/Throwable;)V"⟩ : MethodName)
def Q_as0 (Z : State) (a_ : Addr) (it : Addr) (sn : Addr) (h0 : Heap) (n0 : Nat) (v : Option Value) (h : Heap) (L : List Loc) : Prop := ∃ (al : Addr) (v_ : Addr) (kv : ClassId) (mc : Int32), (v = none) ∧ (Fr n0 L) ∧ (Keep h0 h [a_]) ∧ (h0.size ≤ al) ∧ (h0.size ≤ v_) ∧ (al ≠ v_) ∧ (Exa Z h a_ "java/lang/RuntimeException") ∧ (Unt h a_) ∧ (fld3 Z h a_ (.ref al)) ∧ (Exa Z h al "java/util/ArrayList") ∧ (fld2 Z h al (.int mc)) ∧ (fld0 Z h al (.int 1)) ∧ (fld1 Z h al (.ref v_)) ∧ (Exa Z h v_ "[Ljava/lang/Object;") ∧ (Arv Z h v_ kv (.object "java/lang/Object") (1 : Int32) [(.ref it)] .null)
theorem rm_as0 (l : Launch) (Z : State) (a0 : Array Value) (hw : HW Z a0) (a_ : Addr) (it : Addr) (sn : Addr) (h0 : Heap) (n0 : Nat) (Z0 : n0 ≤ h0.size) (P0 : Old Z n0 h0) (P1 : sta1 Z (.ref sn)) (P2 : Exa Z h0 a_ "java/lang/RuntimeException") (P3 : Unt h0 a_) (P4 : fld3 Z h0 a_ (.ref sn)) (P5 : Exa Z h0 it "java/lang/RuntimeException") (P6 : n0 ≤ a_) (P7 : it ≠ a_) :
    MFS l Z m_22 jdk_78_method_26_code 2 (oR 4 4 140 53) #[(.ref a_), (.ref it)] h0 (Q_as0 Z a_ it sn h0 n0) := by
  refine own_bodySW (cls := "java/lang/Throwable") (plainFor_of_name pn_0) rfl (a := a_) rfl P3 (fun p e s m below meth c s₁ hx hby hml hown hnm hret hZ X0 M0 KM0 => ?_)
  have N0 := Fr.nil n0
  have lt1 := own_l P2.lt
  have lt2 := own_l P4.lt
  have lt3 := own_l P5.lt
  obtain ⟨h1, e0⟩ : ∃ z, s₁.heap = z := ⟨_, rfl⟩
  rw [e0] at M0 KM0
  have zm0 := KM0.1
  have KB0 := (Keep.refl h0 [a_]).trans KM0 (allS (Or.inl (List.mem_of_getElem? (i := 0) rfl)) all0)
  have hS0 : s.Since s.vm h1.size := (State.WarmedH.refl s).since _
  have hk0 : h1.size ≤ h1.size := Nat.le_refl _
  have hZ : Z.Warmed39 (s.setVm s.vm).vm := hZ
  obtain ⟨a4, T4, h4, k1_4, X4, e4, E4, hS4, hk4, hZ4, hown4, st4⟩ := ldcSW X0 hx hZ hown (w_89 hw) (own_wS hw) e0 hS0 (by omega) (g := (mkL a_ m 18 #[vA a_, vA it] [(.ref it)])) rfl (hb hby d160) (n := 132) (by decide) (by decide) (by decide) (by decide)
  have z4 := E4.1
  have K4 := KB0.ext E4
  obtain ⟨_, _, ⟨T5, L5, k5, n5⟩, -, X5, ⟨Lc5, hQ5, l5, y5, z5⟩, st5⟩ := Jvm.LawKit.callS X4 hx (y := m_20) hown4 (mvT hZ4 (w_97 hw)) (mvT hZ4 (w_98 hw)) (mvT hZ4 (w_99 hw)) (mvT hZ4 (w_100 hw)) (by decide) (backOf (W := 2) (rm_rnn l Z a0 hw [] it a4 h4 n0 (by omega) ) hZ4 (w_100 hw) (w_99 hw) (by decide) (by decide)) (g := (mkL a_ m 21 #[vA a_, vA it] [(.ref a4), (.ref it)])) rfl (by rw [hml]; rfl) (argsL := [(.ref it), (.ref a4)]) (rest := []) (lenOf pd_8 rfl) rfl (Nat.le_of_eq rfl) (hb hby d161) (fun _ _ => ⟨rfl, e4, (by decide : 2 + 0 ≤ _), (by decide : 136 + 0 ≤ _)⟩)
  dsimp only [Pt.U, Pt.locs, Pt.cells, Pt.slots] at X5 l5 y5 z5 st5 hQ5
  rw [l5, y5, z5] at X5
  obtain ⟨rfl, Nq5, Kq5⟩ := hQ5
  have N5 := Fr.app N0 Nq5
  have f7 := P4.mon M0
  have f8 := f7.ext E4
  obtain ⟨T6, X6, e6, st6⟩ := getF X5 hx hZ4 hown4 (host := "") (Or.inl (w_34 hw)) Via.refl Kq5 f8 (g := (mkL a_ m 26 #[vA a_, vA it] [(.ref a_)])) rfl rfl (hb hby d164)
  obtain ⟨T9, X9, e9, st9⟩ := getF X6 hx hZ4 hown4 (host := "") (Or.inl (w_34 hw)) Via.refl e6 f8 (g := (mkL a_ m 34 #[vA a_, vA it] [(.ref a_)])) rfl rfl (hb hby d167)
  have f11 := P0.keep KM0 (allS (by omega) all0)
  have f12 := f11.ext E4
  obtain ⟨T10, X10, e10, st10⟩ := getS2 X9 hx hZ4 hown4 (host := "") (Or.inl (w_33 hw)) Via.refl e9 (P1.ext f12.2) (g := (mkL a_ m 37 #[vA a_, vA it] [(.ref sn)])) rfl (hb hby d168)
  obtain ⟨T13, h13, X13, e13, E13, A13, D13, -, st13⟩ := newO X10 hx hZ4 hown4 (w_101 hw) (w_102 hw) (w_103 hw) e10 (g := (mkL a_ m 44 #[vA a_, vA it] [(.ref a_)])) rfl (hb hby d171) (by decide) (by decide)
  obtain ⟨b13, g13⟩ : ∃ z, z = h4.size := ⟨_, rfl⟩
  rw [← g13] at A13 D13 st13
  have z13 := E13.1
  have K13 := K4.ext E13
  have lt14 := own_l A13.lt
  have F13_122 : Fld Z h13 b13 "java/util/AbstractList" "modCount" "I" (.int 0) := D13 (Or.inl (w_122 hw)) (ty := .int) (by decide)
  have F13_125 : Fld Z h13 b13 "java/util/ArrayList" "elementData" "[Ljava/lang/Object;" .null := D13 (Or.inl (w_125 hw)) (ty := (.array (.object "java/lang/Object"))) (by decide)
  have F13_138 : Fld Z h13 b13 "java/util/ArrayList" "size" "I" (.int 0) := D13 (Or.inl (w_138 hw)) (ty := .int) (by decide)
  obtain ⟨_, _, ⟨T15, L15, k15, n15⟩, -, X15, ⟨Lc15, hQ15, l15, y15, z15⟩, st15⟩ := X13.specialBack hx (y := m_8) rfl hown4 (mvT hZ4 (w_104 hw)) (mvT hZ4 (w_105 hw)) (mvT hZ4 (w_107 hw)) (by decide) (backOf (W := 4) (rm_ali l Z a0 hw [] b13 h13 n0 (by omega) A13 F13_122 F13_138 F13_125 (by omega)) hZ4 (w_107 hw) (w_103 hw) (by decide) (by decide)) (g := (mkL a_ m 49 #[vA a_, vA it] [(.int 1), (.ref b13), (.ref b13), (.ref a_)])) rfl (by rw [hml]; rfl) (Steps.refl _) (a := b13) (argsL := [(.int 1)]) (rest := [(.ref b13), (.ref a_)]) (lenOf pd_9 rfl) rfl (Nat.le_of_eq rfl) (hb hby d174) (fun _ _ => ⟨rfl, e13, (by decide : 3 + 1 ≤ _), (by decide : 139 + 1 ≤ _)⟩)
  dsimp only [Pt.U, Pt.locs, Pt.cells, Pt.slots] at X15 l15 y15 z15 st15 hQ15
  rw [l15, y15, z15] at X15
  obtain ⟨x15_b, x15_k, rfl, Nq15, Kq15, r15_0, r15_1, r15_2, r15_3, r15_4, r15_5, r15_6, r15_7⟩ := hQ15
  have N15 := Fr.app N5 Nq15
  have z15' := Kq15.1
  have K15 := K13.trans Kq15 (allS (Or.inr (by omega)) all0)
  have lt16 := own_l r15_0.lt
  have lt17 := own_l r15_1.lt
  have lt18 := own_l r15_2.lt
  have lt19 := own_l r15_3.lt
  have lt20 := own_l r15_5.lt
  have lt21 := own_l r15_6.lt
  have f23 := f8.ext E13
  have f24 := f23.keep Kq15 (ninS (own_ne (by omega)) nin0)
  have f25 := P2.mon M0
  have f26 := f25.ext E4
  have f27 := f26.ext E13
  have f28 := f27.keep Kq15
  obtain ⟨T22, h22, X22, e22, W22, st22⟩ := putF X15 hx hZ4 hown4 (host := "") (Or.inl (w_34 hw)) Via.refl rfl f24 f28 (Or.inl (w_35 hw)) (w_10 hw) (ty := (.object "java/util/List")) (by decide) rfl rfl (g := (mkL a_ m 52 #[vA a_, vA it] [(.ref b13), (.ref a_)])) rfl rfl (hb hby d175)
  have F22 := f24.same W22
  have z22 := W22.size
  have K22 := K15.wr W22 (Or.inl (List.mem_of_getElem? (i := 0) rfl))
  have N22 := Fr.snoc X22 N15 (by omega)
  obtain ⟨T29, X29, e29, st29⟩ := getF X22 hx hZ4 hown4 (host := "") (Or.inl (w_34 hw)) Via.refl e22 F22 (g := (mkL a_ m 56 #[vA a_, vA it] [(.ref a_)])) rfl rfl (hb hby d177)
  have f31 := r15_0.wr W22
  have f32 := r15_1.other W22 (Or.inl (own_ne (by omega)))
  have f33 := r15_2.other W22 (Or.inl (own_ne (by omega)))
  have f34 := r15_3.other W22 (Or.inl (own_ne (by omega)))
  have f35 := r15_5.wr W22
  have f36 := r15_6.other W22 (own_ne (by omega))
  have f37 := P5.mon M0
  have f38 := f37.ext E4
  have f39 := f38.ext E13
  have f40 := f39.keep Kq15
  have f41 := f40.wr W22
  obtain ⟨cq30, kq30, qa30, qb30, qc30⟩ := isOf hZ4 e29 f31
  obtain ⟨_, _, ⟨T30, L30, k30, n30⟩, -, X30, ⟨Lc30, hQ30, l30, y30, z30⟩, st30⟩ := X29.interfaceBack hx (xi := m_21) (y := m_10) (C := "java/util/ArrayList") hown4 (mvT hZ4 (w_126 hw)) (mvT hZ4 (w_127 hw)) (mvT hZ4 (w_128 hw)) (mvT hZ4 (w_129 hw)) (mvT hZ4 (w_130 hw)) (mvT hZ4 (w_131 hw)) (mvT hZ4 (w_132 hw)) (mvT hZ4 (w_133 hw)) (by decide) (backOf (W := 2) (rm_add0 l Z a0 hw [] b13 it ((0 : Int32)) x15_b x15_k h22 n0 (by omega) f31 f32 f33 f34 f35 f36 r15_7 f41 (by omega) (by omega) (own_ne (by omega))) hZ4 (w_134 hw) (w_103 hw) (by decide) (by decide)) qa30 qb30 qc30 (g := (mkL a_ m 60 #[vA a_, vA it] [(.ref it), (.ref b13)])) rfl (by rw [hml]; rfl) (Steps.refl _) (argsL := [(.ref it)]) (rest := []) (lenOf pd_10 rfl) rfl (Nat.le_of_eq rfl) (hb hby d179) (fun _ _ => ⟨rfl, e29, (by decide : 4 + 0 ≤ _), (by decide : 140 + 0 ≤ _)⟩)
  dsimp only [Pt.U, Pt.locs, Pt.cells, Pt.slots] at X30 l30 y30 z30 st30 hQ30
  rw [l30, y30, z30] at X30
  obtain ⟨rfl, Nq30, Kq30, r30_0, r30_1, r30_2, r30_3, r30_4, r30_5⟩ := hQ30
  have N30 := Fr.app N22 Nq30
  have z30' := Kq30.1
  have K30 := K22.trans Kq30 (allS (Or.inr (by omega)) (allS (Or.inr (by omega)) all0))
  have lt42 := own_l r30_0.lt
  have lt43 := own_l r30_1.lt
  have lt44 := own_l r30_2.lt
  have lt45 := own_l r30_3.lt
  have lt46 := own_l r30_4.lt
  have lt47 := own_l r30_5.lt
  refine ⟨T30, _, _, _, _, _, X30, hS4, (by first | omega | (rw [(rfl : T30.heap = T30.heap)]; omega)), by decide, by decide, fun h9 M9 KM9 U9 => ?_, fun V hr => ?_⟩
  · have zm9 := KM9.1
    have K9 := K30.trans KM9 (allS (Or.inl (List.mem_of_getElem? (i := 0) rfl)) all0)
    have f48 := f28.wr W22
    have f49 := f48.keep Kq30
    have f50 := f49.mon M9
    have f51 := F22.keep Kq30 (ninS (own_ne (by omega)) (ninS (own_ne (by omega)) nin0))
    have f52 := f51.mon M9
    have f53 := r30_0.mon M9
    have f54 := r30_1.mon M9
    have f55 := r30_2.mon M9
    have f56 := r30_3.mon M9
    have f57 := r30_4.mon M9
    have f58 := r30_5.keep KM9 (ninS (own_ne (by omega)) nin0)
    exact ⟨b13, x15_b, x15_k, ((0 : Int32) + (1 : Int32)), rfl, N30, K9, (by omega), (by omega), (own_ne (by omega)), f50, U9, f52, f53, f54, f55, f56, f57, f58⟩
  · show Steps _ _ _ (s₁.setTop (mkL a_ m 0 #[vA a_, vA it] [])) _
    refine XS.aloadN X0.here hx rfl (hb hby d156) rfl rfl ?_
    refine XS.aloadN X0.here hx rfl (hb hby d157) rfl rfl ?_
    refine Jvm.RoadKit.acmp (g := (mkL a_ m 2 #[vA a_, vA it] [(.ref a_), (.ref it)])) X0 hx rfl rfl rfl (pc0 := 2) (pc' := 17) (same := false) rfl (hb hby d158) rfl (decide_eq_false fun q => absurd (Value.ref.inj q) (fun q => P7 q)) (by decide) (by decide) ?_
    show Steps _ _ _ (s₁.setTop (mkL a_ m 17 #[vA a_, vA it] [])) _
    refine XS.aloadN X0.here hx rfl (hb hby d159) rfl rfl ?_
    refine st4 _ ?_
    show Steps _ _ _ (T4.setTop (mkL a_ m 21 #[vA a_, vA it] [(.ref a4), (.ref it)])) _
    refine st5 _ ?_
    show Steps _ _ _ (T5.setTop (mkL a_ m 24 #[vA a_, vA it] [(.ref it)])) _
    refine XS.pop X5.here hx rfl (hb hby d162) rfl rfl ?_
    refine XS.aloadN X5.here hx rfl (hb hby d163) rfl rfl ?_
    refine st6 _ ?_
    show Steps _ _ _ (T6.setTop (mkL a_ m 29 #[vA a_, vA it] [(.ref sn)])) _
    refine XS.ifnonnullYes X6.here hx rfl (pc0 := 29) (pc' := 33) rfl (hb hby d165) rfl (by decide) (by decide) ?_
    refine XS.aloadN X6.here hx rfl (hb hby d166) rfl rfl ?_
    refine st9 _ ?_
    show Steps _ _ _ (T9.setTop (mkL a_ m 37 #[vA a_, vA it] [(.ref sn)])) _
    refine st10 _ ?_
    show Steps _ _ _ (T10.setTop (mkL a_ m 40 #[vA a_, vA it] [(.ref sn), (.ref sn)])) _
    refine Jvm.RoadKit.acmp (g := (mkL a_ m 40 #[vA a_, vA it] [(.ref sn), (.ref sn)])) X10 hx rfl rfl rfl (pc0 := 40) (pc' := 43) (same := true) rfl (hb hby d169) rfl (decide_eq_true rfl) (by decide) (by decide) ?_
    show Steps _ _ _ (T10.setTop (mkL a_ m 43 #[vA a_, vA it] [])) _
    refine XS.aloadN X10.here hx rfl (hb hby d170) rfl rfl ?_
    refine st13 _ ?_
    show Steps _ _ _ (T13.setTop (mkL a_ m 47 #[vA a_, vA it] [(.ref b13), (.ref a_)])) _
    refine XS.dup X13.here hx rfl (hb hby d172) rfl rfl ?_
    refine XS.iconst X13.here hx rfl (hb hby d173) ?_
    refine st15.trans ?_
    show Steps _ _ _ (T15.setTop (mkL a_ m 52 #[vA a_, vA it] [(.ref b13), (.ref a_)])) _
    refine st22 _ ?_
    show Steps _ _ _ (T22.setTop (mkL a_ m 55 #[vA a_, vA it] [])) _
    refine XS.aloadN X22.here hx rfl (hb hby d176) rfl rfl ?_
    refine st29 _ ?_
    show Steps _ _ _ (T29.setTop (mkL a_ m 59 #[vA a_, vA it] [(.ref b13)])) _
    refine XS.aloadN X29.here hx rfl (hb hby d178) rfl rfl ?_
    refine st30.trans ?_
    show Steps _ _ _ (T30.setTop (mkL a_ m 65 #[vA a_, vA it] [(.int 1)])) _
    refine XS.pop X30.here hx rfl (hb hby d180) rfl rfl ?_
    exact retS0 X30 hx hret (hb hby d181) hr
def Q_as1 (Z : State) (a_ : Addr) (it : Addr) (sn : Addr) (al : Addr) (v_ : Addr) (kv : ClassId) (mc : Int32) (y0 : Addr) (mo : Addr) (h0 : Heap) (n0 : Nat) (v : Option Value) (h : Heap) (L : List Loc) : Prop := (v = none) ∧ (Fr n0 L) ∧ (Keep h0 h [a_, al]) ∧ (Exa Z h a_ "java/lang/RuntimeException")
theorem rm_as1 (l : Launch) (Z : State) (a0 : Array Value) (hw : HW Z a0) (a_ : Addr) (it : Addr) (sn : Addr) (al : Addr) (v_ : Addr) (kv : ClassId) (mc : Int32) (y0 : Addr) (mo : Addr) (h0 : Heap) (n0 : Nat) (Z0 : n0 ≤ h0.size) (P0 : Old Z n0 h0) (P1 : sta1 Z (.ref sn)) (P2 : Mi Z "[Ljava/lang/Object;" mo) (P3 : Exa Z h0 a_ "java/lang/RuntimeException") (P4 : Unt h0 a_) (P5 : fld3 Z h0 a_ (.ref al)) (P6 : Exa Z h0 it "java/lang/RuntimeException") (P7 : Exa Z h0 al "java/util/ArrayList") (P8 : fld2 Z h0 al (.int mc)) (P9 : fld0 Z h0 al (.int 1)) (P10 : fld1 Z h0 al (.ref v_)) (P11 : Exa Z h0 v_ "[Ljava/lang/Object;") (P12 : Arv Z h0 v_ kv (.object "java/lang/Object") (1 : Int32) [(.ref y0)] .null) (P13 : Exa Z h0 y0 "java/lang/RuntimeException") (P14 : n0 ≤ a_) (P15 : n0 ≤ al) (P16 : it ≠ a_) (P17 : al ≠ sn) (P18 : al ≠ v_) (P19 : al ≠ a_) (P20 : v_ ≠ a_) :
    MFS l Z m_22 jdk_78_method_26_code 2 (oR 7 3 138 104) #[(.ref a_), (.ref it)] h0 (Q_as1 Z a_ it sn al v_ kv mc y0 mo h0 n0) := by
  refine own_bodySW (cls := "java/lang/Throwable") (plainFor_of_name pn_0) rfl (a := a_) rfl P4 (fun p e s m below meth c s₁ hx hby hml hown hnm hret hZ X0 M0 KM0 => ?_)
  have N0 := Fr.nil n0
  have lt1 := own_l P3.lt
  have lt2 := own_l P5.lt
  have lt3 := own_l P6.lt
  have lt4 := own_l P7.lt
  have lt5 := own_l P8.lt
  have lt6 := own_l P9.lt
  have lt7 := own_l P10.lt
  have lt8 := own_l P11.lt
  have lt9 := own_l P12.lt
  have lt10 := own_l P13.lt
  obtain ⟨h1, e0⟩ : ∃ z, s₁.heap = z := ⟨_, rfl⟩
  rw [e0] at M0 KM0
  have zm0 := KM0.1
  have KB0 := (Keep.refl h0 [a_, al]).trans KM0 (allS (Or.inl (List.mem_of_getElem? (i := 0) rfl)) all0)
  have hS0 : s.Since s.vm h1.size := (State.WarmedH.refl s).since _
  have hk0 : h1.size ≤ h1.size := Nat.le_refl _
  have hZ : Z.Warmed39 (s.setVm s.vm).vm := hZ
  obtain ⟨a11, T11, h11, k1_11, X11, e11, E11, hS11, hk11, hZ11, hown11, st11⟩ := ldcSW X0 hx hZ hown (w_89 hw) (own_wS hw) e0 hS0 (by omega) (g := (mkL a_ m 18 #[vA a_, vA it] [(.ref it)])) rfl (hb hby d160) (n := 132) (by decide) (by decide) (by decide) (by decide)
  have z11 := E11.1
  have K11 := KB0.ext E11
  obtain ⟨_, _, ⟨T12, L12, k12, n12⟩, -, X12, ⟨Lc12, hQ12, l12, y12, z12⟩, st12⟩ := Jvm.LawKit.callS X11 hx (y := m_20) hown11 (mvT hZ11 (w_97 hw)) (mvT hZ11 (w_98 hw)) (mvT hZ11 (w_99 hw)) (mvT hZ11 (w_100 hw)) (by decide) (backOf (W := 2) (rm_rnn l Z a0 hw [] it a11 h11 n0 (by omega) ) hZ11 (w_100 hw) (w_99 hw) (by decide) (by decide)) (g := (mkL a_ m 21 #[vA a_, vA it] [(.ref a11), (.ref it)])) rfl (by rw [hml]; rfl) (argsL := [(.ref it), (.ref a11)]) (rest := []) (lenOf pd_8 rfl) rfl (Nat.le_of_eq rfl) (hb hby d161) (fun _ _ => ⟨rfl, e11, (by decide : 2 + 0 ≤ _), (by decide : 136 + 0 ≤ _)⟩)
  dsimp only [Pt.U, Pt.locs, Pt.cells, Pt.slots] at X12 l12 y12 z12 st12 hQ12
  rw [l12, y12, z12] at X12
  obtain ⟨rfl, Nq12, Kq12⟩ := hQ12
  have N12 := Fr.app N0 Nq12
  have f14 := P5.mon M0
  have f15 := f14.ext E11
  obtain ⟨T13, X13, e13, st13⟩ := getF X12 hx hZ11 hown11 (host := "") (Or.inl (w_34 hw)) Via.refl Kq12 f15 (g := (mkL a_ m 26 #[vA a_, vA it] [(.ref a_)])) rfl rfl (hb hby d164)
  obtain ⟨T16, X16, e16, st16⟩ := getF X13 hx hZ11 hown11 (host := "") (Or.inl (w_34 hw)) Via.refl e13 f15 (g := (mkL a_ m 34 #[vA a_, vA it] [(.ref a_)])) rfl rfl (hb hby d167)
  have f18 := P0.keep KM0 (allS (by omega) all0)
  have f19 := f18.ext E11
  obtain ⟨T17, X17, e17, st17⟩ := getS2 X16 hx hZ11 hown11 (host := "") (Or.inl (w_33 hw)) Via.refl e16 (P1.ext f19.2) (g := (mkL a_ m 37 #[vA a_, vA it] [(.ref al)])) rfl (hb hby d168)
  obtain ⟨T20, X20, e20, st20⟩ := getF X17 hx hZ11 hown11 (host := "") (Or.inl (w_34 hw)) Via.refl e17 f15 (g := (mkL a_ m 56 #[vA a_, vA it] [(.ref a_)])) rfl rfl (hb hby d177)
  have f22 := P7.mon M0
  have f23 := f22.ext E11
  have f24 := P8.mon M0
  have f25 := f24.ext E11
  have f26 := P9.mon M0
  have f27 := f26.ext E11
  have f28 := P10.mon M0
  have f29 := f28.ext E11
  have f30 := P11.mon M0
  have f31 := f30.ext E11
  have f32 := P12.keep KM0 (ninS (fun q => P20 q) nin0)
  have f33 := f32.ext E11
  have f34 := P13.mon M0
  have f35 := f34.ext E11
  have f36 := P6.mon M0
  have f37 := f36.ext E11
  obtain ⟨cq21, kq21, qa21, qb21, qc21⟩ := isOf hZ11 e20 f23
  obtain ⟨_, _, ⟨T21, L21, k21, n21⟩, -, X21, ⟨Lc21, hQ21, l21, y21, z21⟩, st21⟩ := X20.interfaceBack hx (xi := m_21) (y := m_10) (C := "java/util/ArrayList") hown11 (mvT hZ11 (w_126 hw)) (mvT hZ11 (w_127 hw)) (mvT hZ11 (w_128 hw)) (mvT hZ11 (w_129 hw)) (mvT hZ11 (w_130 hw)) (mvT hZ11 (w_131 hw)) (mvT hZ11 (w_132 hw)) (mvT hZ11 (w_133 hw)) (by decide) (backOf (W := 2) (rm_add1 l Z a0 hw [] al it mc v_ kv y0 mo h11 n0 (by omega) P2 f23 f25 f27 f29 f31 f33 f35 (by omega) (fun q => P18 q) f37) hZ11 (w_134 hw) (w_103 hw) (by decide) (by decide)) qa21 qb21 qc21 (g := (mkL a_ m 60 #[vA a_, vA it] [(.ref it), (.ref al)])) rfl (by rw [hml]; rfl) (Steps.refl _) (argsL := [(.ref it)]) (rest := []) (lenOf pd_10 rfl) rfl (Nat.le_of_eq rfl) (hb hby d179) (fun _ _ => ⟨rfl, e20, (by decide : 2 + 1 ≤ _), (by decide : 136 + 2 ≤ _)⟩)
  dsimp only [Pt.U, Pt.locs, Pt.cells, Pt.slots] at X21 l21 y21 z21 st21 hQ21
  rw [l21, y21, z21] at X21
  obtain ⟨rfl, Nq21, Kq21, r21_0⟩ := hQ21
  have N21 := Fr.app N12 Nq21
  have z21' := Kq21.1
  have K21 := K11.trans Kq21 (allS (Or.inl (List.mem_of_getElem? (i := 1) rfl)) all0)
  have lt38 := own_l r21_0.lt
  refine ⟨T21, _, _, _, _, _, X21, hS11, (by first | omega | (rw [(rfl : T21.heap = T21.heap)]; omega)), by decide, by decide, fun h9 M9 KM9 U9 => ?_, fun V hr => ?_⟩
  · have zm9 := KM9.1
    have K9 := K21.trans KM9 (allS (Or.inl (List.mem_of_getElem? (i := 0) rfl)) all0)
    have f39 := P3.mon M0
    have f40 := f39.ext E11
    have f41 := f40.keep Kq21
    have f42 := f41.mon M9
    exact ⟨rfl, N21, K9, f42⟩
  · show Steps _ _ _ (s₁.setTop (mkL a_ m 0 #[vA a_, vA it] [])) _
    refine XS.aloadN X0.here hx rfl (hb hby d156) rfl rfl ?_
    refine XS.aloadN X0.here hx rfl (hb hby d157) rfl rfl ?_
    refine Jvm.RoadKit.acmp (g := (mkL a_ m 2 #[vA a_, vA it] [(.ref a_), (.ref it)])) X0 hx rfl rfl rfl (pc0 := 2) (pc' := 17) (same := false) rfl (hb hby d158) rfl (decide_eq_false fun q => absurd (Value.ref.inj q) (fun q => P16 q)) (by decide) (by decide) ?_
    show Steps _ _ _ (s₁.setTop (mkL a_ m 17 #[vA a_, vA it] [])) _
    refine XS.aloadN X0.here hx rfl (hb hby d159) rfl rfl ?_
    refine st11 _ ?_
    show Steps _ _ _ (T11.setTop (mkL a_ m 21 #[vA a_, vA it] [(.ref a11), (.ref it)])) _
    refine st12 _ ?_
    show Steps _ _ _ (T12.setTop (mkL a_ m 24 #[vA a_, vA it] [(.ref it)])) _
    refine XS.pop X12.here hx rfl (hb hby d162) rfl rfl ?_
    refine XS.aloadN X12.here hx rfl (hb hby d163) rfl rfl ?_
    refine st13 _ ?_
    show Steps _ _ _ (T13.setTop (mkL a_ m 29 #[vA a_, vA it] [(.ref al)])) _
    refine XS.ifnonnullYes X13.here hx rfl (pc0 := 29) (pc' := 33) rfl (hb hby d165) rfl (by decide) (by decide) ?_
    refine XS.aloadN X13.here hx rfl (hb hby d166) rfl rfl ?_
    refine st16 _ ?_
    show Steps _ _ _ (T16.setTop (mkL a_ m 37 #[vA a_, vA it] [(.ref al)])) _
    refine st17 _ ?_
    show Steps _ _ _ (T17.setTop (mkL a_ m 40 #[vA a_, vA it] [(.ref sn), (.ref al)])) _
    refine Jvm.RoadKit.acmp (g := (mkL a_ m 40 #[vA a_, vA it] [(.ref sn), (.ref al)])) X17 hx rfl rfl rfl (pc0 := 40) (pc' := 55) (same := false) rfl (hb hby d169) rfl (decide_eq_false fun q => absurd (Value.ref.inj q) (fun q => P17 q)) (by decide) (by decide) ?_
    show Steps _ _ _ (T17.setTop (mkL a_ m 55 #[vA a_, vA it] [])) _
    refine XS.aloadN X17.here hx rfl (hb hby d176) rfl rfl ?_
    refine st20 _ ?_
    show Steps _ _ _ (T20.setTop (mkL a_ m 59 #[vA a_, vA it] [(.ref al)])) _
    refine XS.aloadN X20.here hx rfl (hb hby d178) rfl rfl ?_
    refine st21.trans ?_
    show Steps _ _ _ (T21.setTop (mkL a_ m 65 #[vA a_, vA it] [(.int 1)])) _
    refine XS.pop X21.here hx rfl (hb hby d180) rfl rfl ?_
    exact retS0 X21 hx hret (hb hby d181) hr
theorem d182 : decode prog_6_method_1_code 0 = .ok (.aload_n 0, 1) := by decide +kernel
theorem w_6 {Z : State} {a0 : Array Value} (hw : HW Z a0) : (Jvm.Cond.methodLink "com/example/maat/maat/Failures" (1 : Nat) m_3).before a0 Z = true := hw _ (List.mem_of_getElem? (i := 6) rfl)
theorem d183 : decode prog_6_method_1_code 1 = .ok (.invokespecial 1, 3) := by decide +kernel
theorem d184 : decode prog_6_method_1_code 4 = .ok (.return_, 1) := by decide +kernel
theorem pn_11 : plainName "com/example/maat/maat/Failures" = true := by first | (simp [plainName, overriddenIn]; done) | decide +kernel
abbrev m_23 : MethodName := (⟨"com/example/maat/maat/Failures", "<init>", "()V"⟩ : MethodName)
def Q_fin (Z : State) (f : Addr) (h0 : Heap) (n0 : Nat) (v : Option Value) (h : Heap) (L : List Loc) : Prop := (v = none) ∧ (Fr n0 L) ∧ (h = h0)
theorem rm_fin (l : Launch) (Z : State) (a0 : Array Value) (hw : HW Z a0) (ws : List Jvm.Cond) (f : Addr) (h0 : Heap) (n0 : Nat) (Z0 : n0 ≤ h0.size) :
    MF l Z m_23 prog_6_method_1_code 1 none ws (oR 1 0 0 12) #[(.ref f)] h0 (Q_fin Z f h0 n0) := by
  refine own_body (cls := "com/example/maat/maat/Failures") (plainFor_of_name pn_11) rfl (fun p e s m below meth c s₁ hx hby hml hown hnm hret hZ X0 e0 => ?_)
  have N0 := Fr.nil n0
  obtain ⟨T1, X1, e1, st1⟩ := initO X0 hx hZ hown (w_6 hw) (w_7 hw) (w_8 hw) e0 (g := (mkF m 1 #[vA f] [(.ref f)])) rfl (by rw [hml]; rfl) rfl (hb hby d183) (by decide) (W := 0) (Nat.le_of_eq rfl) (by decide)
  refine ⟨_, _, _, _, none, X1, by decide, by decide, fun _ => rfl, ?_, fun fs hr => castTop (ef_0 m f) ?_⟩
  · show Q_fin Z f h0 n0 _ T1.heap _
    rw [(e1 : T1.heap = h0)]
    exact ⟨rfl, N0, rfl⟩
  · show Steps _ _ _ (s₁.setTop (mkF m 0 #[vA f] [])) _
    refine XS.aloadN X0.here hx rfl (hb hby d182) rfl rfl ?_
    refine st1 _ ?_
    show Steps _ _ _ (T1.setTop (mkF m 4 #[vA f] [])) _
    exact X1.returnOut hx hret (hb hby d184) hr
theorem d185 : decode prog_6_method_4_code 0 = .ok (.aload_n 0, 1) := by decide +kernel
theorem w_69 {Z : State} {a0 : Array Value} (hw : HW Z a0) : (Jvm.Cond.fieldLink "com/example/maat/maat/Failures" (7 : Nat) "com/example/maat/maat/Failures" "first" "Ljava/lang/Throwable;").before a0 Z = true := hw _ (List.mem_of_getElem? (i := 69) rfl)
theorem d186 : decode prog_6_method_4_code 1 = .ok (.getfield 7, 3) := by decide +kernel
theorem d187 : decode prog_6_method_4_code 4 = .ok (.ifnonnull 7, 3) := by decide +kernel
theorem d188 : decode prog_6_method_4_code 7 = .ok (.iconst 1, 1) := by decide +kernel
theorem d189 : decode prog_6_method_4_code 8 = .ok (.goto 4, 3) := by decide +kernel
theorem d190 : decode prog_6_method_4_code 12 = .ok (.ireturn, 1) := by decide +kernel
abbrev m_24 : MethodName := (⟨"com/example/maat/maat/Failures", "isEmpty", "()Z"⟩ : MethodName)
def Q_ien (Z : State) (f : Addr) (h0 : Heap) (n0 : Nat) (v : Option Value) (h : Heap) (L : List Loc) : Prop := (v = some (.int 1)) ∧ (Fr n0 L) ∧ (h = h0)
theorem rm_ien (l : Launch) (Z : State) (a0 : Array Value) (hw : HW Z a0) (ws : List Jvm.Cond) (f : Addr) (h0 : Heap) (n0 : Nat) (Z0 : n0 ≤ h0.size) (P0 : fld9 Z h0 f .null) :
    MF l Z m_24 prog_6_method_4_code 1 (some .boolean) ws (oR 0 0 0 0) #[(.ref f)] h0 (Q_ien Z f h0 n0) := by
  refine own_body (cls := "com/example/maat/maat/Failures") (plainFor_of_name pn_11) rfl (fun p e s m below meth c s₁ hx hby hml hown hnm hret hZ X0 e0 => ?_)
  have N0 := Fr.nil n0
  have lt1 := own_l P0.lt
  obtain ⟨T2, X2, e2, st2⟩ := getF X0 hx hZ hown (host := "") (Or.inl (w_69 hw)) Via.refl e0 P0 (g := (mkF m 1 #[vA f] [(.ref f)])) rfl rfl (hb hby d186)
  refine ⟨_, _, _, _, some (.int 1), X2, by decide, by decide, nofun, ?_, fun fs hr => castTop (ef_0 m f) ?_⟩
  · show Q_ien Z f h0 n0 _ T2.heap _
    rw [(e2 : T2.heap = h0)]
    exact ⟨rfl, N0, rfl⟩
  · show Steps _ _ _ (s₁.setTop (mkF m 0 #[vA f] [])) _
    refine XS.aloadN X0.here hx rfl (hb hby d185) rfl rfl ?_
    refine st2 _ ?_
    show Steps _ _ _ (T2.setTop (mkF m 4 #[vA f] [.null])) _
    refine XS.ifnonnullNo X2.here hx rfl (hb hby d187) rfl ?_
    refine XS.iconst X2.here hx rfl (hb hby d188) ?_
    refine XS.goto X2.here hx rfl (pc0 := 8) (pc' := 12) rfl (hb hby d189) (by decide) (by decide) ?_
    exact retN X2 hx (t := .boolean) hret (by simp) (hb hby d190) hr
theorem d191 : decode prog_6_method_4_code 11 = .ok (.iconst 0, 1) := by decide +kernel
def Q_ier (Z : State) (f : Addr) (t : Addr) (h0 : Heap) (n0 : Nat) (v : Option Value) (h : Heap) (L : List Loc) : Prop := (v = some (.int 0)) ∧ (Fr n0 L) ∧ (h = h0)
theorem rm_ier (l : Launch) (Z : State) (a0 : Array Value) (hw : HW Z a0) (ws : List Jvm.Cond) (f : Addr) (t : Addr) (h0 : Heap) (n0 : Nat) (Z0 : n0 ≤ h0.size) (P0 : fld9 Z h0 f (.ref t)) :
    MF l Z m_24 prog_6_method_4_code 1 (some .boolean) ws (oR 0 0 0 0) #[(.ref f)] h0 (Q_ier Z f t h0 n0) := by
  refine own_body (cls := "com/example/maat/maat/Failures") (plainFor_of_name pn_11) rfl (fun p e s m below meth c s₁ hx hby hml hown hnm hret hZ X0 e0 => ?_)
  have N0 := Fr.nil n0
  have lt1 := own_l P0.lt
  obtain ⟨T2, X2, e2, st2⟩ := getF X0 hx hZ hown (host := "") (Or.inl (w_69 hw)) Via.refl e0 P0 (g := (mkF m 1 #[vA f] [(.ref f)])) rfl rfl (hb hby d186)
  refine ⟨_, _, _, _, some (.int 0), X2, by decide, by decide, nofun, ?_, fun fs hr => castTop (ef_0 m f) ?_⟩
  · show Q_ier Z f t h0 n0 _ T2.heap _
    rw [(e2 : T2.heap = h0)]
    exact ⟨rfl, N0, rfl⟩
  · show Steps _ _ _ (s₁.setTop (mkF m 0 #[vA f] [])) _
    refine XS.aloadN X0.here hx rfl (hb hby d185) rfl rfl ?_
    refine st2 _ ?_
    show Steps _ _ _ (T2.setTop (mkF m 4 #[vA f] [(.ref t)])) _
    refine XS.ifnonnullYes X2.here hx rfl (pc0 := 4) (pc' := 11) rfl (hb hby d187) rfl (by decide) (by decide) ?_
    refine XS.iconst X2.here hx rfl (hb hby d191) ?_
    exact retN X2 hx (t := .boolean) hret (by simp) (hb hby d190) hr
theorem d192 : decode prog_6_method_5_code 0 = .ok (.aload_n 0, 1) := by decide +kernel
theorem d193 : decode prog_6_method_5_code 1 = .ok (.getfield 7, 3) := by decide +kernel
theorem d194 : decode prog_6_method_5_code 4 = .ok (.areturn, 1) := by decide +kernel
abbrev m_25 : MethodName := (⟨"com/example/maat/maat/Failures", "first", "()Ljava/lang/Throwable;"⟩ : MethodName)
def Q_frn (Z : State) (f : Addr) (h0 : Heap) (n0 : Nat) (v : Option Value) (h : Heap) (L : List Loc) : Prop := (v = some .null) ∧ (Fr n0 L) ∧ (h = h0)
theorem rm_frn (l : Launch) (Z : State) (a0 : Array Value) (hw : HW Z a0) (ws : List Jvm.Cond) (f : Addr) (h0 : Heap) (n0 : Nat) (Z0 : n0 ≤ h0.size) (P0 : fld9 Z h0 f .null) :
    MF l Z m_25 prog_6_method_5_code 1 (some (.object "java/lang/Throwable")) ws (oR 0 0 0 0) #[(.ref f)] h0 (Q_frn Z f h0 n0) := by
  refine own_body (cls := "com/example/maat/maat/Failures") (plainFor_of_name pn_11) rfl (fun p e s m below meth c s₁ hx hby hml hown hnm hret hZ X0 e0 => ?_)
  have N0 := Fr.nil n0
  have lt1 := own_l P0.lt
  obtain ⟨T2, X2, e2, st2⟩ := getF X0 hx hZ hown (host := "") (Or.inl (w_69 hw)) Via.refl e0 P0 (g := (mkF m 1 #[vA f] [(.ref f)])) rfl rfl (hb hby d193)
  refine ⟨_, _, _, _, some .null, X2, by decide, by decide, nofun, ?_, fun fs hr => castTop (ef_0 m f) ?_⟩
  · show Q_frn Z f h0 n0 _ T2.heap _
    rw [(e2 : T2.heap = h0)]
    exact ⟨rfl, N0, rfl⟩
  · show Steps _ _ _ (s₁.setTop (mkF m 0 #[vA f] [])) _
    refine XS.aloadN X0.here hx rfl (hb hby d192) rfl rfl ?_
    refine st2 _ ?_
    show Steps _ _ _ (T2.setTop (mkF m 4 #[vA f] [.null])) _
    exact retOut X2 hx hret (own_narrow_ref rfl) (Or.inr (Or.inr (Or.inr (Or.inr ⟨rfl, rfl, rfl⟩)))) (hb hby d194) hr
def Q_frr (Z : State) (f : Addr) (t : Addr) (h0 : Heap) (n0 : Nat) (v : Option Value) (h : Heap) (L : List Loc) : Prop := (v = some (.ref t)) ∧ (Fr n0 L) ∧ (h = h0)
theorem rm_frr (l : Launch) (Z : State) (a0 : Array Value) (hw : HW Z a0) (ws : List Jvm.Cond) (f : Addr) (t : Addr) (h0 : Heap) (n0 : Nat) (Z0 : n0 ≤ h0.size) (P0 : fld9 Z h0 f (.ref t)) :
    MF l Z m_25 prog_6_method_5_code 1 (some (.object "java/lang/Throwable")) ws (oR 0 0 0 0) #[(.ref f)] h0 (Q_frr Z f t h0 n0) := by
  refine own_body (cls := "com/example/maat/maat/Failures") (plainFor_of_name pn_11) rfl (fun p e s m below meth c s₁ hx hby hml hown hnm hret hZ X0 e0 => ?_)
  have N0 := Fr.nil n0
  have lt1 := own_l P0.lt
  obtain ⟨T2, X2, e2, st2⟩ := getF X0 hx hZ hown (host := "") (Or.inl (w_69 hw)) Via.refl e0 P0 (g := (mkF m 1 #[vA f] [(.ref f)])) rfl rfl (hb hby d193)
  refine ⟨_, _, _, _, some (.ref t), X2, by decide, by decide, nofun, ?_, fun fs hr => castTop (ef_0 m f) ?_⟩
  · show Q_frr Z f t h0 n0 _ T2.heap _
    rw [(e2 : T2.heap = h0)]
    exact ⟨rfl, N0, rfl⟩
  · show Steps _ _ _ (s₁.setTop (mkF m 0 #[vA f] [])) _
    refine XS.aloadN X0.here hx rfl (hb hby d192) rfl rfl ?_
    refine st2 _ ?_
    show Steps _ _ _ (T2.setTop (mkF m 4 #[vA f] [(.ref t)])) _
    exact retOut X2 hx hret (own_narrow_ref rfl) (Or.inr (Or.inr (Or.inr (Or.inr ⟨rfl, rfl, rfl⟩)))) (hb hby d194) hr
theorem d195 : decode method_3_code 0 = .ok (.aload_n 0, 1) := by decide +kernel
theorem w_64 {Z : State} {a0 : Array Value} (hw : HW Z a0) : (Jvm.Cond.methodLink "com/example/maat/maat/FailuresIsEmptyPinLaw" (7 : Nat) m_24).before a0 Z = true := hw _ (List.mem_of_getElem? (i := 64) rfl)
theorem w_68 {Z : State} {a0 : Array Value} (hw : HW Z a0) : (Jvm.Cond.code m_24 prog_6_method_4_code (1 : Nat) (Option.some FieldType.boolean)).before a0 Z = true := hw _ (List.mem_of_getElem? (i := 68) rfl)
theorem w_2 {Z : State} {a0 : Array Value} (hw : HW Z a0) : (Jvm.Cond.initialized "com/example/maat/maat/Failures").before a0 Z = true := hw _ (List.mem_of_getElem? (i := 2) rfl)
theorem pd_11 : parseMethodDescriptor "()Z" = some ⟨[], some .boolean⟩ := by decide +kernel
theorem d196 : decode method_3_code 1 = .ok (.invokevirtual 7, 3) := by decide +kernel
theorem w_67 {Z : State} {a0 : Array Value} (hw : HW Z a0) : (Jvm.Cond.selects "com/example/maat/maat/Failures" m_24 m_24).before a0 Z = true := hw _ (List.mem_of_getElem? (i := 67) rfl)
theorem w_65 {Z : State} {a0 : Array Value} (hw : HW Z a0) : (Jvm.Cond.declares m_24).before a0 Z = true := hw _ (List.mem_of_getElem? (i := 65) rfl)
theorem w_66 {Z : State} {a0 : Array Value} (hw : HW Z a0) : (Jvm.Cond.instanceMethod m_24).before a0 Z = true := hw _ (List.mem_of_getElem? (i := 66) rfl)
theorem d197 : decode method_3_code 4 = .ok (.iload_n 1, 1) := by decide +kernel
theorem d198 : decode method_3_code 5 = .ok (.if_icmp .ne 23, 3) := by decide +kernel
theorem d199 : decode method_3_code 8 = .ok (.aload_n 0, 1) := by decide +kernel
theorem w_71 {Z : State} {a0 : Array Value} (hw : HW Z a0) : (Jvm.Cond.methodLink "com/example/maat/maat/FailuresIsEmptyPinLaw" (13 : Nat) m_25).before a0 Z = true := hw _ (List.mem_of_getElem? (i := 71) rfl)
theorem w_75 {Z : State} {a0 : Array Value} (hw : HW Z a0) : (Jvm.Cond.code m_25 prog_6_method_5_code (1 : Nat) (Option.some (FieldType.object "java/lang/Throwable"))).before a0 Z = true := hw _ (List.mem_of_getElem? (i := 75) rfl)
theorem pd_12 : parseMethodDescriptor "()Ljava/lang/Throwable;" = some ⟨[], some (.object "java/lang/Throwable")⟩ := by decide +kernel
theorem d200 : decode method_3_code 9 = .ok (.invokevirtual 13, 3) := by decide +kernel
theorem w_74 {Z : State} {a0 : Array Value} (hw : HW Z a0) : (Jvm.Cond.selects "com/example/maat/maat/Failures" m_25 m_25).before a0 Z = true := hw _ (List.mem_of_getElem? (i := 74) rfl)
theorem w_72 {Z : State} {a0 : Array Value} (hw : HW Z a0) : (Jvm.Cond.declares m_25).before a0 Z = true := hw _ (List.mem_of_getElem? (i := 72) rfl)
theorem w_73 {Z : State} {a0 : Array Value} (hw : HW Z a0) : (Jvm.Cond.instanceMethod m_25).before a0 Z = true := hw _ (List.mem_of_getElem? (i := 73) rfl)
theorem d201 : decode method_3_code 12 = .ok (.ifnonnull 7, 3) := by decide +kernel
theorem d202 : decode method_3_code 15 = .ok (.iconst 1, 1) := by decide +kernel
theorem d203 : decode method_3_code 16 = .ok (.goto 4, 3) := by decide +kernel
theorem d204 : decode method_3_code 20 = .ok (.iload_n 1, 1) := by decide +kernel
theorem d205 : decode method_3_code 21 = .ok (.if_icmp .ne 7, 3) := by decide +kernel
theorem d206 : decode method_3_code 24 = .ok (.iconst 1, 1) := by decide +kernel
theorem d207 : decode method_3_code 25 = .ok (.goto 4, 3) := by decide +kernel
theorem d208 : decode method_3_code 29 = .ok (.ireturn, 1) := by decide +kernel
theorem pn_12 : plainName "com/example/maat/maat/FailuresIsEmptyPinLaw" = true := by first | (simp [plainName, overriddenIn]; done) | decide +kernel
abbrev m_26 : MethodName := (⟨"com/example/maat/maat/FailuresIsEmptyPinLaw", "agrees", "(Lcom/example/maat/maat/Failures;Z)Z"⟩ : MethodName)
def Q_agn (Z : State) (f : Addr) (h0 : Heap) (n0 : Nat) (v : Option Value) (h : Heap) (L : List Loc) : Prop := (v = some (.int 1)) ∧ (Fr n0 L) ∧ (h = h0)
theorem rm_agn (l : Launch) (Z : State) (a0 : Array Value) (hw : HW Z a0) (ws : List Jvm.Cond) (f : Addr) (h0 : Heap) (n0 : Nat) (Z0 : n0 ≤ h0.size) (P0 : Exa Z h0 f "com/example/maat/maat/Failures") (P1 : fld9 Z h0 f .null) :
    MF l Z m_26 method_3_code 2 (some .boolean) ws (oR 1 0 0 12) #[(.ref f), (.int 1)] h0 (Q_agn Z f h0 n0) := by
  refine own_body (cls := "com/example/maat/maat/FailuresIsEmptyPinLaw") (plainFor_of_name pn_12) rfl (fun p e s m below meth c s₁ hx hby hml hown hnm hret hZ X0 e0 => ?_)
  have N0 := Fr.nil n0
  have lt1 := own_l P0.lt
  have lt2 := own_l P1.lt
  obtain ⟨cq3, kq3, qa3, qb3, qc3⟩ := isOf hZ e0 P0
  obtain ⟨_, _, ⟨T3, L3, k3, n3⟩, -, X3, ⟨Lc3, hQ3, l3, y3, z3⟩, st3⟩ := X0.virtualBack hx (y := m_24) (z := m_24) hown (mvT hZ (w_64 hw)) (mvT hZ (w_65 hw)) (notFace_of_selects (args := #[]) (mvT hZ (w_67 hw))) (mvT hZ (w_67 hw)) (mvT hZ (w_66 hw)) (by decide) (backOf (W := 0) (rm_ien l Z a0 hw [] f h0 n0 (by omega) P1) hZ (w_68 hw) (w_2 hw) (by decide) (by decide)) qa3 qc3 (g := (mkF m 1 #[vA f, vI 1] [(.ref f)])) rfl (by rw [hml]; rfl) (Steps.refl _) (argsL := []) (rest := []) (lenOf pd_11 rfl) rfl (Nat.le_of_eq rfl) (hb hby d196) (fun _ _ => ⟨rfl, e0, (by decide : 0 + 0 ≤ _), (by decide : 0 + 0 ≤ _)⟩)
  dsimp only [Pt.U, Pt.locs, Pt.cells, Pt.slots] at X3 l3 y3 z3 st3 hQ3
  rw [l3, y3, z3] at X3
  obtain ⟨rfl, Nq3, Kq3⟩ := hQ3
  have N3 := Fr.app N0 Nq3
  obtain ⟨cq4, kq4, qa4, qb4, qc4⟩ := isOf hZ Kq3 P0
  obtain ⟨_, _, ⟨T4, L4, k4, n4⟩, -, X4, ⟨Lc4, hQ4, l4, y4, z4⟩, st4⟩ := X3.virtualBack hx (y := m_25) (z := m_25) hown (mvT hZ (w_71 hw)) (mvT hZ (w_72 hw)) (notFace_of_selects (args := #[]) (mvT hZ (w_74 hw))) (mvT hZ (w_74 hw)) (mvT hZ (w_73 hw)) (by decide) (backOf (W := 0) (rm_frn l Z a0 hw [] f h0 n0 (by omega) P1) hZ (w_75 hw) (w_2 hw) (by decide) (by decide)) qa4 qc4 (g := (mkF m 9 #[vA f, vI 1] [(.ref f)])) rfl (by rw [hml]; rfl) (Steps.refl _) (argsL := []) (rest := []) (lenOf pd_12 rfl) rfl (Nat.le_of_eq rfl) (hb hby d200) (fun _ _ => ⟨rfl, Kq3, (by decide : 0 + 0 ≤ _), (by decide : 0 + 0 ≤ _)⟩)
  dsimp only [Pt.U, Pt.locs, Pt.cells, Pt.slots] at X4 l4 y4 z4 st4 hQ4
  rw [l4, y4, z4] at X4
  obtain ⟨rfl, Nq4, Kq4⟩ := hQ4
  have N4 := Fr.app N3 Nq4
  refine ⟨_, _, _, _, some (.int 1), X4, by decide, by decide, nofun, ?_, fun fs hr => castTop (ef_1 m f (1 : Int32)) ?_⟩
  · show Q_agn Z f h0 n0 _ T4.heap _
    rw [(Kq4 : T4.heap = h0)]
    exact ⟨rfl, N4, rfl⟩
  · show Steps _ _ _ (s₁.setTop (mkF m 0 #[vA f, vI 1] [])) _
    refine XS.aloadN X0.here hx rfl (hb hby d195) rfl rfl ?_
    refine st3.trans ?_
    show Steps _ _ _ (T3.setTop (mkF m 4 #[vA f, vI 1] [(.int 1)])) _
    refine XS.iloadN X3.here hx rfl (hb hby d197) rfl ?_
    refine XS.icmpNo X3.here hx rfl (hb hby d198) rfl (teq ((by decide) : (1 : Int32) = (1 : Int32))).2 ?_
    refine XS.aloadN X3.here hx rfl (hb hby d199) rfl rfl ?_
    refine st4.trans ?_
    show Steps _ _ _ (T4.setTop (mkF m 12 #[vA f, vI 1] [.null])) _
    refine XS.ifnonnullNo X4.here hx rfl (hb hby d201) rfl ?_
    refine XS.iconst X4.here hx rfl (hb hby d202) ?_
    refine XS.goto X4.here hx rfl (pc0 := 16) (pc' := 20) rfl (hb hby d203) (by decide) (by decide) ?_
    refine XS.iloadN X4.here hx rfl (hb hby d204) rfl ?_
    refine XS.icmpNo X4.here hx rfl (hb hby d205) rfl (teq ((by decide) : (1 : Int32) = (1 : Int32))).2 ?_
    refine XS.iconst X4.here hx rfl (hb hby d206) ?_
    refine XS.goto X4.here hx rfl (pc0 := 25) (pc' := 29) rfl (hb hby d207) (by decide) (by decide) ?_
    exact retN X4 hx (t := .boolean) hret (by simp) (hb hby d208) hr
theorem d209 : decode method_3_code 19 = .ok (.iconst 0, 1) := by decide +kernel
def Q_agr (Z : State) (f : Addr) (t : Addr) (h0 : Heap) (n0 : Nat) (v : Option Value) (h : Heap) (L : List Loc) : Prop := (v = some (.int 1)) ∧ (Fr n0 L) ∧ (h = h0)
theorem rm_agr (l : Launch) (Z : State) (a0 : Array Value) (hw : HW Z a0) (ws : List Jvm.Cond) (f : Addr) (t : Addr) (h0 : Heap) (n0 : Nat) (Z0 : n0 ≤ h0.size) (P0 : Exa Z h0 f "com/example/maat/maat/Failures") (P1 : fld9 Z h0 f (.ref t)) :
    MF l Z m_26 method_3_code 2 (some .boolean) ws (oR 1 0 0 12) #[(.ref f), (.int 0)] h0 (Q_agr Z f t h0 n0) := by
  refine own_body (cls := "com/example/maat/maat/FailuresIsEmptyPinLaw") (plainFor_of_name pn_12) rfl (fun p e s m below meth c s₁ hx hby hml hown hnm hret hZ X0 e0 => ?_)
  have N0 := Fr.nil n0
  have lt1 := own_l P0.lt
  have lt2 := own_l P1.lt
  obtain ⟨cq3, kq3, qa3, qb3, qc3⟩ := isOf hZ e0 P0
  obtain ⟨_, _, ⟨T3, L3, k3, n3⟩, -, X3, ⟨Lc3, hQ3, l3, y3, z3⟩, st3⟩ := X0.virtualBack hx (y := m_24) (z := m_24) hown (mvT hZ (w_64 hw)) (mvT hZ (w_65 hw)) (notFace_of_selects (args := #[]) (mvT hZ (w_67 hw))) (mvT hZ (w_67 hw)) (mvT hZ (w_66 hw)) (by decide) (backOf (W := 0) (rm_ier l Z a0 hw [] f t h0 n0 (by omega) P1) hZ (w_68 hw) (w_2 hw) (by decide) (by decide)) qa3 qc3 (g := (mkF m 1 #[vA f, vI 0] [(.ref f)])) rfl (by rw [hml]; rfl) (Steps.refl _) (argsL := []) (rest := []) (lenOf pd_11 rfl) rfl (Nat.le_of_eq rfl) (hb hby d196) (fun _ _ => ⟨rfl, e0, (by decide : 0 + 0 ≤ _), (by decide : 0 + 0 ≤ _)⟩)
  dsimp only [Pt.U, Pt.locs, Pt.cells, Pt.slots] at X3 l3 y3 z3 st3 hQ3
  rw [l3, y3, z3] at X3
  obtain ⟨rfl, Nq3, Kq3⟩ := hQ3
  have N3 := Fr.app N0 Nq3
  obtain ⟨cq4, kq4, qa4, qb4, qc4⟩ := isOf hZ Kq3 P0
  obtain ⟨_, _, ⟨T4, L4, k4, n4⟩, -, X4, ⟨Lc4, hQ4, l4, y4, z4⟩, st4⟩ := X3.virtualBack hx (y := m_25) (z := m_25) hown (mvT hZ (w_71 hw)) (mvT hZ (w_72 hw)) (notFace_of_selects (args := #[]) (mvT hZ (w_74 hw))) (mvT hZ (w_74 hw)) (mvT hZ (w_73 hw)) (by decide) (backOf (W := 0) (rm_frr l Z a0 hw [] f t h0 n0 (by omega) P1) hZ (w_75 hw) (w_2 hw) (by decide) (by decide)) qa4 qc4 (g := (mkF m 9 #[vA f, vI 0] [(.ref f)])) rfl (by rw [hml]; rfl) (Steps.refl _) (argsL := []) (rest := []) (lenOf pd_12 rfl) rfl (Nat.le_of_eq rfl) (hb hby d200) (fun _ _ => ⟨rfl, Kq3, (by decide : 0 + 0 ≤ _), (by decide : 0 + 0 ≤ _)⟩)
  dsimp only [Pt.U, Pt.locs, Pt.cells, Pt.slots] at X4 l4 y4 z4 st4 hQ4
  rw [l4, y4, z4] at X4
  obtain ⟨rfl, Nq4, Kq4⟩ := hQ4
  have N4 := Fr.app N3 Nq4
  refine ⟨_, _, _, _, some (.int 1), X4, by decide, by decide, nofun, ?_, fun fs hr => castTop (ef_1 m f (0 : Int32)) ?_⟩
  · show Q_agr Z f t h0 n0 _ T4.heap _
    rw [(Kq4 : T4.heap = h0)]
    exact ⟨rfl, N4, rfl⟩
  · show Steps _ _ _ (s₁.setTop (mkF m 0 #[vA f, vI 0] [])) _
    refine XS.aloadN X0.here hx rfl (hb hby d195) rfl rfl ?_
    refine st3.trans ?_
    show Steps _ _ _ (T3.setTop (mkF m 4 #[vA f, vI 0] [(.int 0)])) _
    refine XS.iloadN X3.here hx rfl (hb hby d197) rfl ?_
    refine XS.icmpNo X3.here hx rfl (hb hby d198) rfl (teq ((by decide) : (0 : Int32) = (0 : Int32))).2 ?_
    refine XS.aloadN X3.here hx rfl (hb hby d199) rfl rfl ?_
    refine st4.trans ?_
    show Steps _ _ _ (T4.setTop (mkF m 12 #[vA f, vI 0] [(.ref t)])) _
    refine XS.ifnonnullYes X4.here hx rfl (pc0 := 12) (pc' := 19) rfl (hb hby d201) rfl (by decide) (by decide) ?_
    refine XS.iconst X4.here hx rfl (hb hby d209) ?_
    refine XS.iloadN X4.here hx rfl (hb hby d204) rfl ?_
    refine XS.icmpNo X4.here hx rfl (hb hby d205) rfl (teq ((by decide) : (0 : Int32) = (0 : Int32))).2 ?_
    refine XS.iconst X4.here hx rfl (hb hby d206) ?_
    refine XS.goto X4.here hx rfl (pc0 := 25) (pc' := 29) rfl (hb hby d207) (by decide) (by decide) ?_
    exact retN X4 hx (t := .boolean) hret (by simp) (hb hby d208) hr
theorem d210 : decode prog_6_method_2_code 0 = .ok (.aload_n 0, 1) := by decide +kernel
theorem d211 : decode prog_6_method_2_code 1 = .ok (.getfield 7, 3) := by decide +kernel
theorem d212 : decode prog_6_method_2_code 4 = .ok (.ifnonnull 11, 3) := by decide +kernel
theorem d213 : decode prog_6_method_2_code 7 = .ok (.aload_n 0, 1) := by decide +kernel
theorem d214 : decode prog_6_method_2_code 8 = .ok (.aload_n 1, 1) := by decide +kernel
theorem w_70 {Z : State} {a0 : Array Value} (hw : HW Z a0) : (Jvm.Cond.lays "com/example/maat/maat/Failures" "com/example/maat/maat/Failures" "first" "Ljava/lang/Throwable;").before a0 Z = true := hw _ (List.mem_of_getElem? (i := 70) rfl)
theorem w_1 {Z : State} {a0 : Array Value} (hw : HW Z a0) : (Jvm.Cond.instantiable "com/example/maat/maat/Failures" (1 : Nat)).before a0 Z = true := hw _ (List.mem_of_getElem? (i := 1) rfl)
theorem d215 : decode prog_6_method_2_code 9 = .ok (.putfield 7, 3) := by decide +kernel
theorem d216 : decode prog_6_method_2_code 12 = .ok (.goto 19, 3) := by decide +kernel
theorem d217 : decode prog_6_method_2_code 31 = .ok (.return_, 1) := by decide +kernel
theorem ef_8 (m : MethodId) (x0 : Addr) : entryFrame m #[(.ref x0), .null] 2 = mkF m 0 #[vA x0, .val .null] [] := by first | (simp [entryFrame, mkF, argsToLocals, Value.category, maxLocals]; done) | rfl
abbrev m_27 : MethodName := (⟨"com/example/maat/maat/Failures", "add", "(Ljava/lang/Throwable;)V"⟩ : MethodName)
def Q_fan (Z : State) (f : Addr) (h0 : Heap) (n0 : Nat) (v : Option Value) (h : Heap) (L : List Loc) : Prop := (v = none) ∧ (Fr n0 L) ∧ (Keep h0 h [f]) ∧ (Exa Z h f "com/example/maat/maat/Failures") ∧ (fld9 Z h f .null)
theorem rm_fan (l : Launch) (Z : State) (a0 : Array Value) (hw : HW Z a0) (ws : List Jvm.Cond) (f : Addr) (h0 : Heap) (n0 : Nat) (Z0 : n0 ≤ h0.size) (P0 : Exa Z h0 f "com/example/maat/maat/Failures") (P1 : fld9 Z h0 f .null) (P2 : n0 ≤ f) :
    MF l Z m_27 prog_6_method_2_code 2 none ws (oR 0 0 0 0) #[(.ref f), .null] h0 (Q_fan Z f h0 n0) := by
  refine own_body (cls := "com/example/maat/maat/Failures") (plainFor_of_name pn_11) rfl (fun p e s m below meth c s₁ hx hby hml hown hnm hret hZ X0 e0 => ?_)
  have N0 := Fr.nil n0
  have K0 := Keep.refl h0 [f]
  have lt1 := own_l P0.lt
  have lt2 := own_l P1.lt
  obtain ⟨T3, X3, e3, st3⟩ := getF X0 hx hZ hown (host := "") (Or.inl (w_69 hw)) Via.refl e0 P1 (g := (mkF m 1 #[vA f, .val .null] [(.ref f)])) rfl rfl (hb hby d211)
  obtain ⟨T4, h4, X4, e4, W4, st4⟩ := putF X3 hx hZ hown (host := "") (Or.inl (w_69 hw)) Via.refl e3 P1 P0 (Or.inl (w_70 hw)) (w_1 hw) (ty := (.object "java/lang/Throwable")) (by decide) rfl rfl (g := (mkF m 9 #[vA f, .val .null] [.null, (.ref f)])) rfl rfl (hb hby d215)
  have F4 := P1.same W4
  have z4 := W4.size
  have K4 := K0.wr W4 (Or.inl (List.mem_of_getElem? (i := 0) rfl))
  have N4 := Fr.snoc X4 N0 (by omega)
  have f5 := P0.wr W4
  refine ⟨_, _, _, _, none, X4, by decide, by decide, fun _ => rfl, ?_, fun fs hr => castTop (ef_8 m f) ?_⟩
  · show Q_fan Z f h0 n0 _ T4.heap _
    rw [(e4 : T4.heap = h4)]
    exact ⟨rfl, N4, K4, f5, F4⟩
  · show Steps _ _ _ (s₁.setTop (mkF m 0 #[vA f, .val .null] [])) _
    refine XS.aloadN X0.here hx rfl (hb hby d210) rfl rfl ?_
    refine st3 _ ?_
    show Steps _ _ _ (T3.setTop (mkF m 4 #[vA f, .val .null] [.null])) _
    refine XS.ifnonnullNo X3.here hx rfl (hb hby d212) rfl ?_
    refine XS.aloadN X3.here hx rfl (hb hby d213) rfl rfl ?_
    refine XS.aloadN X3.here hx rfl (hb hby d214) rfl rfl ?_
    refine st4 _ ?_
    show Steps _ _ _ (T4.setTop (mkF m 12 #[vA f, .val .null] [])) _
    refine XS.goto X4.here hx rfl (pc0 := 12) (pc' := 31) rfl (hb hby d216) (by decide) (by decide) ?_
    exact X4.returnOut hx hret (hb hby d217) hr
def Q_far (Z : State) (f : Addr) (t : Addr) (h0 : Heap) (n0 : Nat) (v : Option Value) (h : Heap) (L : List Loc) : Prop := (v = none) ∧ (Fr n0 L) ∧ (Keep h0 h [f]) ∧ (Exa Z h f "com/example/maat/maat/Failures") ∧ (fld9 Z h f (.ref t))
theorem rm_far (l : Launch) (Z : State) (a0 : Array Value) (hw : HW Z a0) (ws : List Jvm.Cond) (f : Addr) (t : Addr) (h0 : Heap) (n0 : Nat) (Z0 : n0 ≤ h0.size) (P0 : Exa Z h0 f "com/example/maat/maat/Failures") (P1 : fld9 Z h0 f .null) (P2 : n0 ≤ f) :
    MF l Z m_27 prog_6_method_2_code 2 none ws (oR 0 0 0 0) #[(.ref f), (.ref t)] h0 (Q_far Z f t h0 n0) := by
  refine own_body (cls := "com/example/maat/maat/Failures") (plainFor_of_name pn_11) rfl (fun p e s m below meth c s₁ hx hby hml hown hnm hret hZ X0 e0 => ?_)
  have N0 := Fr.nil n0
  have K0 := Keep.refl h0 [f]
  have lt1 := own_l P0.lt
  have lt2 := own_l P1.lt
  obtain ⟨T3, X3, e3, st3⟩ := getF X0 hx hZ hown (host := "") (Or.inl (w_69 hw)) Via.refl e0 P1 (g := (mkF m 1 #[vA f, vA t] [(.ref f)])) rfl rfl (hb hby d211)
  obtain ⟨T4, h4, X4, e4, W4, st4⟩ := putF X3 hx hZ hown (host := "") (Or.inl (w_69 hw)) Via.refl e3 P1 P0 (Or.inl (w_70 hw)) (w_1 hw) (ty := (.object "java/lang/Throwable")) (by decide) rfl rfl (g := (mkF m 9 #[vA f, vA t] [(.ref t), (.ref f)])) rfl rfl (hb hby d215)
  have F4 := P1.same W4
  have z4 := W4.size
  have K4 := K0.wr W4 (Or.inl (List.mem_of_getElem? (i := 0) rfl))
  have N4 := Fr.snoc X4 N0 (by omega)
  have f5 := P0.wr W4
  refine ⟨_, _, _, _, none, X4, by decide, by decide, fun _ => rfl, ?_, fun fs hr => castTop (ef_3 m f t) ?_⟩
  · show Q_far Z f t h0 n0 _ T4.heap _
    rw [(e4 : T4.heap = h4)]
    exact ⟨rfl, N4, K4, f5, F4⟩
  · show Steps _ _ _ (s₁.setTop (mkF m 0 #[vA f, vA t] [])) _
    refine XS.aloadN X0.here hx rfl (hb hby d210) rfl rfl ?_
    refine st3 _ ?_
    show Steps _ _ _ (T3.setTop (mkF m 4 #[vA f, vA t] [.null])) _
    refine XS.ifnonnullNo X3.here hx rfl (hb hby d212) rfl ?_
    refine XS.aloadN X3.here hx rfl (hb hby d213) rfl rfl ?_
    refine XS.aloadN X3.here hx rfl (hb hby d214) rfl rfl ?_
    refine st4 _ ?_
    show Steps _ _ _ (T4.setTop (mkF m 12 #[vA f, vA t] [])) _
    refine XS.goto X4.here hx rfl (pc0 := 12) (pc' := 31) rfl (hb hby d216) (by decide) (by decide) ?_
    exact X4.returnOut hx hret (hb hby d217) hr
theorem d218 : decode prog_6_method_2_code 15 = .ok (.aload_n 1, 1) := by decide +kernel
theorem d219 : decode prog_6_method_2_code 16 = .ok (.aload_n 0, 1) := by decide +kernel
theorem d220 : decode prog_6_method_2_code 17 = .ok (.getfield 7, 3) := by decide +kernel
theorem d221 : decode prog_6_method_2_code 20 = .ok (.if_acmp .eq 11, 3) := by decide +kernel
def Q_fas (Z : State) (f : Addr) (t : Addr) (h0 : Heap) (n0 : Nat) (v : Option Value) (h : Heap) (L : List Loc) : Prop := (v = none) ∧ (Fr n0 L) ∧ (h = h0)
theorem rm_fas (l : Launch) (Z : State) (a0 : Array Value) (hw : HW Z a0) (ws : List Jvm.Cond) (f : Addr) (t : Addr) (h0 : Heap) (n0 : Nat) (Z0 : n0 ≤ h0.size) (P0 : Exa Z h0 f "com/example/maat/maat/Failures") (P1 : fld9 Z h0 f (.ref t)) :
    MF l Z m_27 prog_6_method_2_code 2 none ws (oR 0 0 0 0) #[(.ref f), (.ref t)] h0 (Q_fas Z f t h0 n0) := by
  refine own_body (cls := "com/example/maat/maat/Failures") (plainFor_of_name pn_11) rfl (fun p e s m below meth c s₁ hx hby hml hown hnm hret hZ X0 e0 => ?_)
  have N0 := Fr.nil n0
  have lt1 := own_l P0.lt
  have lt2 := own_l P1.lt
  obtain ⟨T3, X3, e3, st3⟩ := getF X0 hx hZ hown (host := "") (Or.inl (w_69 hw)) Via.refl e0 P1 (g := (mkF m 1 #[vA f, vA t] [(.ref f)])) rfl rfl (hb hby d211)
  obtain ⟨T4, X4, e4, st4⟩ := getF X3 hx hZ hown (host := "") (Or.inl (w_69 hw)) Via.refl e3 P1 (g := (mkF m 17 #[vA f, vA t] [(.ref f), (.ref t)])) rfl rfl (hb hby d220)
  refine ⟨_, _, _, _, none, X4, by decide, by decide, fun _ => rfl, ?_, fun fs hr => castTop (ef_3 m f t) ?_⟩
  · show Q_fas Z f t h0 n0 _ T4.heap _
    rw [(e4 : T4.heap = h0)]
    exact ⟨rfl, N0, rfl⟩
  · show Steps _ _ _ (s₁.setTop (mkF m 0 #[vA f, vA t] [])) _
    refine XS.aloadN X0.here hx rfl (hb hby d210) rfl rfl ?_
    refine st3 _ ?_
    show Steps _ _ _ (T3.setTop (mkF m 4 #[vA f, vA t] [(.ref t)])) _
    refine XS.ifnonnullYes X3.here hx rfl (pc0 := 4) (pc' := 15) rfl (hb hby d212) rfl (by decide) (by decide) ?_
    refine XS.aloadN X3.here hx rfl (hb hby d218) rfl rfl ?_
    refine XS.aloadN X3.here hx rfl (hb hby d219) rfl rfl ?_
    refine st4 _ ?_
    show Steps _ _ _ (T4.setTop (mkF m 20 #[vA f, vA t] [(.ref t), (.ref t)])) _
    refine Jvm.RoadKit.acmp (g := (mkF m 20 #[vA f, vA t] [(.ref t), (.ref t)])) X4 hx rfl rfl rfl (pc0 := 20) (pc' := 31) (same := true) rfl (hb hby d221) rfl (decide_eq_true rfl) (by decide) (by decide) ?_
    show Steps _ _ _ (T4.setTop (mkF m 31 #[vA f, vA t] [])) _
    exact X4.returnOut hx hret (hb hby d217) hr
theorem d222 : decode prog_6_method_2_code 23 = .ok (.aload_n 0, 1) := by decide +kernel
theorem d223 : decode prog_6_method_2_code 24 = .ok (.getfield 7, 3) := by decide +kernel
theorem d224 : decode prog_6_method_2_code 27 = .ok (.aload_n 1, 1) := by decide +kernel
theorem w_84 {Z : State} {a0 : Array Value} (hw : HW Z a0) : (Jvm.Cond.methodLink "com/example/maat/maat/Failures" (13 : Nat) m_22).before a0 Z = true := hw _ (List.mem_of_getElem? (i := 84) rfl)
theorem w_88 {Z : State} {a0 : Array Value} (hw : HW Z a0) : (Jvm.Cond.codeSync m_22 jdk_78_method_26_code (2 : Nat) (Option.none : Option Jvm.ClassFile.FieldType)).before a0 Z = true := hw _ (List.mem_of_getElem? (i := 88) rfl)
theorem w_86 {Z : State} {a0 : Array Value} (hw : HW Z a0) : (Jvm.Cond.instanceMethod m_22).before a0 Z = true := hw _ (List.mem_of_getElem? (i := 86) rfl)
theorem pd_13 : parseMethodDescriptor "(Ljava/lang/Throwable;)V" = some ⟨[(.object "java/lang/Throwable")], none⟩ := by decide +kernel
theorem d225 : decode prog_6_method_2_code 28 = .ok (.invokevirtual 13, 3) := by decide +kernel
theorem w_87 {Z : State} {a0 : Array Value} (hw : HW Z a0) : (Jvm.Cond.selects "java/lang/RuntimeException" m_22 m_22).before a0 Z = true := hw _ (List.mem_of_getElem? (i := 87) rfl)
theorem w_85 {Z : State} {a0 : Array Value} (hw : HW Z a0) : (Jvm.Cond.declares m_22).before a0 Z = true := hw _ (List.mem_of_getElem? (i := 85) rfl)
def Q_fa0 (Z : State) (f : Addr) (t : Addr) (it : Addr) (sn : Addr) (h0 : Heap) (n0 : Nat) (v : Option Value) (h : Heap) (L : List Loc) : Prop := ∃ (al : Addr) (v_ : Addr) (kv : ClassId) (mc : Int32), (v = none) ∧ (Fr n0 L) ∧ (Keep h0 h [t]) ∧ (h0.size ≤ al) ∧ (h0.size ≤ v_) ∧ (al ≠ v_) ∧ (Exa Z h t "java/lang/RuntimeException") ∧ (Unt h t) ∧ (fld3 Z h t (.ref al)) ∧ (Exa Z h al "java/util/ArrayList") ∧ (fld2 Z h al (.int mc)) ∧ (fld0 Z h al (.int 1)) ∧ (fld1 Z h al (.ref v_)) ∧ (Exa Z h v_ "[Ljava/lang/Object;") ∧ (Arv Z h v_ kv (.object "java/lang/Object") (1 : Int32) [(.ref it)] .null)
theorem rm_fa0 (l : Launch) (Z : State) (a0 : Array Value) (hw : HW Z a0) (ws : List Jvm.Cond) (f : Addr) (t : Addr) (it : Addr) (sn : Addr) (h0 : Heap) (n0 : Nat) (Z0 : n0 ≤ h0.size) (P0 : Exa Z h0 f "com/example/maat/maat/Failures") (P1 : fld9 Z h0 f (.ref t)) (P2 : Old Z n0 h0) (P3 : sta1 Z (.ref sn)) (P4 : Exa Z h0 t "java/lang/RuntimeException") (P5 : Unt h0 t) (P6 : fld3 Z h0 t (.ref sn)) (P7 : Exa Z h0 it "java/lang/RuntimeException") (P8 : n0 ≤ t) (P9 : it ≠ t) :
    MetFree l m_27 (head1 (Jvm.Cond.code m_27 prog_6_method_2_code 2 none :: ws) (oR 5 4 140 66)) (fun as' U => as' = #[(.ref f), (.ref it)] ∧ Z.Warmed39 U.vm ∧ U.heap = h0) (fun _ _ _ _ _ => True) (fun _ U o U' => ∃ v L, o = .returned v ∧ Q_fa0 Z f t it sn h0 n0 v U'.heap L ∧ ReturnedEndW U o U' L (oR 5 4 140 66).cells (oR 5 4 140 66).slots) := by
  refine MetFree.of_bodySF (plainFor_of_name pn_11) hisR ?_
  intro p e s m args below meth c s₁ Bd hml0 hP hK
  have hK0 := hK
  obtain ⟨rfl, hZ, hh⟩ := hP
  have hx := Bd.exec
  have hby := Bd.bytes
  have hml : c.maxLocals = 2 := hml0
  have hown : (s.setVm s.vm).vm.findClass "com/example/maat/maat/Failures" = some m.cls := findClass_of_methodNamed Bd.named
  have hnm := (name_of_methodNamed Bd.named Bd.method).1
  have X0 : Stand p l e (oR 5 4 140 66) (s.setVm s.vm) m #[(.ref f), (.ref it)] below meth c s₁ [] 0 0 := Stand.of_body Bd
  have e0 : s₁.heap = h0 := by rw [← hh, Bd.state]; rfl
  have N0 := Fr.nil n0
  have hZ : Z.Warmed39 (s.setVm s.vm).vm := hZ
  have hS0 : s.Since s.vm h0.size := (State.WarmedH.refl s).since _
  have hk0 : h0.size ≤ h0.size := Nat.le_refl _
  have K0 := Keep.refl h0 [t]
  have lt1 := own_l P0.lt
  have lt2 := own_l P1.lt
  have lt3 := own_l P4.lt
  have lt4 := own_l P6.lt
  have lt5 := own_l P7.lt
  obtain ⟨T6, X6, e6, st6⟩ := getF X0 hx hZ hown (host := "") (Or.inl (w_69 hw)) Via.refl e0 P1 (g := (mkF m 1 #[vA f, vA it] [(.ref f)])) rfl rfl (hb hby d211)
  obtain ⟨T7, X7, e7, st7⟩ := getF X6 hx hZ hown (host := "") (Or.inl (w_69 hw)) Via.refl e6 P1 (g := (mkF m 17 #[vA f, vA it] [(.ref f), (.ref it)])) rfl rfl (hb hby d220)
  obtain ⟨T8, X8, e8, st8⟩ := getF X7 hx hZ hown (host := "") (Or.inl (w_69 hw)) Via.refl e7 P1 (g := (mkF m 24 #[vA f, vA it] [(.ref f)])) rfl rfl (hb hby d223)
  obtain ⟨cq9, kq9, qa9, qb9, qc9⟩ := isOf hZ e8 P4
  obtain ⟨_, _, ⟨T9, L9, k9, n9⟩, -, X9, hSb9, hgr9, ⟨Lc9, hQ9, l9, y9, z9⟩, st9⟩ := X8.virtualBackS hx (y := m_22) (z := m_22) hown (mvT hZ (w_84 hw)) (mvT hZ (w_85 hw)) (notFace_of_selects (args := #[]) (mvT hZ (w_87 hw))) (mvT hZ (w_87 hw)) (mvT hZ (w_86 hw)) (by decide) (own_backSW (W := 0) (rm_as0 l Z a0 hw t it sn h0 n0 (by omega) P2 P3 P4 P5 P6 P7 (by omega) (fun q => P9 q)) hZ (w_88 hw) (w_86 hw) (w_25 hw) (by decide) (by decide)) qa9 qc9 (g := (mkF m 28 #[vA f, vA it] [(.ref it), (.ref t)])) rfl (by rw [hml]; rfl) (Steps.refl _) (argsL := [(.ref it)]) (rest := []) (lenOf pd_13 rfl) rfl (Nat.le_of_eq rfl) (hb hby d225) (fun _ _ => ⟨rfl, e8, (by decide : 0 + 4 ≤ _), (by decide : 0 + 140 ≤ _)⟩)
  dsimp only [Pt.U, Pt.locs, Pt.cells, Pt.slots] at X9 l9 y9 z9 st9 hQ9 hSb9 hgr9
  rw [l9, y9, z9] at X9
  rw [e8] at hgr9
  obtain ⟨X9, hS9, hZ9, hown9⟩ := rebS hS0 (by omega) X9 hSb9 hgr9 hZ hown
  have hk9 : T9.heap.size ≤ T9.heap.size := Nat.le_refl _
  obtain ⟨x9_al, x9_v_, x9_kv, x9_mc, rfl, Nq9, Kq9, r9_0, r9_1, r9_2, r9_3, r9_4, r9_5, r9_6, r9_7, r9_8, r9_9, r9_10, r9_11⟩ := hQ9
  have N9 := Fr.app N0 Nq9
  have z9' := Kq9.1
  have K9 := K0.trans Kq9 (allS (Or.inl (List.mem_of_getElem? (i := 0) rfl)) all0)
  have lt10 := own_l r9_3.lt
  have lt11 := own_l r9_5.lt
  have lt12 := own_l r9_6.lt
  have lt13 := own_l r9_7.lt
  have lt14 := own_l r9_8.lt
  have lt15 := own_l r9_9.lt
  have lt16 := own_l r9_10.lt
  have lt17 := own_l r9_11.lt
  obtain ⟨fs, hr, hrun, hended, hEnd⟩ := X9.leaveW hS9 (by first | omega | (rw [(rfl : T9.heap = T9.heap)]; omega)) (v := none) (fun _ => rfl)
  refine ⟨_, _, castTop (ef_3 m f it) ?_, hrun, hended, _, _, rfl, ?_, hEnd.1, hEnd.2.1, hEnd.2.2.1, hEnd.2.2.2.mono (by decide) (by decide)⟩
  · show Steps _ _ _ (s₁.setTop (mkF m 0 #[vA f, vA it] [])) _
    refine XS.aloadN X0.here hx rfl (hb hby d210) rfl rfl ?_
    refine st6 _ ?_
    show Steps _ _ _ (T6.setTop (mkF m 4 #[vA f, vA it] [(.ref t)])) _
    refine XS.ifnonnullYes X6.here hx rfl (pc0 := 4) (pc' := 15) rfl (hb hby d212) rfl (by decide) (by decide) ?_
    refine XS.aloadN X6.here hx rfl (hb hby d218) rfl rfl ?_
    refine XS.aloadN X6.here hx rfl (hb hby d219) rfl rfl ?_
    refine st7 _ ?_
    show Steps _ _ _ (T7.setTop (mkF m 20 #[vA f, vA it] [(.ref t), (.ref it)])) _
    refine Jvm.RoadKit.acmp (g := (mkF m 20 #[vA f, vA it] [(.ref t), (.ref it)])) X7 hx rfl rfl rfl (pc0 := 20) (pc' := 23) (same := false) rfl (hb hby d221) rfl (decide_eq_false fun q => absurd (Value.ref.inj q) (fun q => P9 q)) (by decide) (by decide) ?_
    show Steps _ _ _ (T7.setTop (mkF m 23 #[vA f, vA it] [])) _
    refine XS.aloadN X7.here hx rfl (hb hby d222) rfl rfl ?_
    refine st8 _ ?_
    show Steps _ _ _ (T8.setTop (mkF m 27 #[vA f, vA it] [(.ref t)])) _
    refine XS.aloadN X8.here hx rfl (hb hby d224) rfl rfl ?_
    refine st9.trans ?_
    show Steps _ _ _ (T9.setTop (mkF m 31 #[vA f, vA it] [])) _
    exact X9.returnOut hx Bd.returns (hb hby d217) hr
  · show Q_fa0 Z f t it sn h0 n0 _ T9.heap _
    exact ⟨x9_al, x9_v_, x9_kv, x9_mc, rfl, N9, K9, (by omega), (by omega), (fun q => r9_2 q), r9_3, r9_4, r9_5, r9_6, r9_7, r9_8, r9_9, r9_10, r9_11⟩
def Q_fa1 (Z : State) (f : Addr) (t : Addr) (it : Addr) (sn : Addr) (al : Addr) (v_ : Addr) (kv : ClassId) (mc : Int32) (y0 : Addr) (mo : Addr) (h0 : Heap) (n0 : Nat) (v : Option Value) (h : Heap) (L : List Loc) : Prop := (v = none) ∧ (Fr n0 L) ∧ (Keep h0 h [t, al]) ∧ (Exa Z h t "java/lang/RuntimeException")
theorem rm_fa1 (l : Launch) (Z : State) (a0 : Array Value) (hw : HW Z a0) (ws : List Jvm.Cond) (f : Addr) (t : Addr) (it : Addr) (sn : Addr) (al : Addr) (v_ : Addr) (kv : ClassId) (mc : Int32) (y0 : Addr) (mo : Addr) (h0 : Heap) (n0 : Nat) (Z0 : n0 ≤ h0.size) (P0 : Exa Z h0 f "com/example/maat/maat/Failures") (P1 : fld9 Z h0 f (.ref t)) (P2 : Old Z n0 h0) (P3 : sta1 Z (.ref sn)) (P4 : Mi Z "[Ljava/lang/Object;" mo) (P5 : Exa Z h0 t "java/lang/RuntimeException") (P6 : Unt h0 t) (P7 : fld3 Z h0 t (.ref al)) (P8 : Exa Z h0 it "java/lang/RuntimeException") (P9 : Exa Z h0 al "java/util/ArrayList") (P10 : fld2 Z h0 al (.int mc)) (P11 : fld0 Z h0 al (.int 1)) (P12 : fld1 Z h0 al (.ref v_)) (P13 : Exa Z h0 v_ "[Ljava/lang/Object;") (P14 : Arv Z h0 v_ kv (.object "java/lang/Object") (1 : Int32) [(.ref y0)] .null) (P15 : Exa Z h0 y0 "java/lang/RuntimeException") (P16 : n0 ≤ t) (P17 : n0 ≤ al) (P18 : it ≠ t) (P19 : al ≠ sn) (P20 : al ≠ v_) (P21 : al ≠ t) (P22 : v_ ≠ t) :
    MetFree l m_27 (head1 (Jvm.Cond.code m_27 prog_6_method_2_code 2 none :: ws) (oR 8 3 138 117)) (fun as' U => as' = #[(.ref f), (.ref it)] ∧ Z.Warmed39 U.vm ∧ U.heap = h0) (fun _ _ _ _ _ => True) (fun _ U o U' => ∃ v L, o = .returned v ∧ Q_fa1 Z f t it sn al v_ kv mc y0 mo h0 n0 v U'.heap L ∧ ReturnedEndW U o U' L (oR 8 3 138 117).cells (oR 8 3 138 117).slots) := by
  refine MetFree.of_bodySF (plainFor_of_name pn_11) hisR ?_
  intro p e s m args below meth c s₁ Bd hml0 hP hK
  have hK0 := hK
  obtain ⟨rfl, hZ, hh⟩ := hP
  have hx := Bd.exec
  have hby := Bd.bytes
  have hml : c.maxLocals = 2 := hml0
  have hown : (s.setVm s.vm).vm.findClass "com/example/maat/maat/Failures" = some m.cls := findClass_of_methodNamed Bd.named
  have hnm := (name_of_methodNamed Bd.named Bd.method).1
  have X0 : Stand p l e (oR 8 3 138 117) (s.setVm s.vm) m #[(.ref f), (.ref it)] below meth c s₁ [] 0 0 := Stand.of_body Bd
  have e0 : s₁.heap = h0 := by rw [← hh, Bd.state]; rfl
  have N0 := Fr.nil n0
  have hZ : Z.Warmed39 (s.setVm s.vm).vm := hZ
  have hS0 : s.Since s.vm h0.size := (State.WarmedH.refl s).since _
  have hk0 : h0.size ≤ h0.size := Nat.le_refl _
  have K0 := Keep.refl h0 [t, al]
  have lt1 := own_l P0.lt
  have lt2 := own_l P1.lt
  have lt3 := own_l P5.lt
  have lt4 := own_l P7.lt
  have lt5 := own_l P8.lt
  have lt6 := own_l P9.lt
  have lt7 := own_l P10.lt
  have lt8 := own_l P11.lt
  have lt9 := own_l P12.lt
  have lt10 := own_l P13.lt
  have lt11 := own_l P14.lt
  have lt12 := own_l P15.lt
  obtain ⟨T13, X13, e13, st13⟩ := getF X0 hx hZ hown (host := "") (Or.inl (w_69 hw)) Via.refl e0 P1 (g := (mkF m 1 #[vA f, vA it] [(.ref f)])) rfl rfl (hb hby d211)
  obtain ⟨T14, X14, e14, st14⟩ := getF X13 hx hZ hown (host := "") (Or.inl (w_69 hw)) Via.refl e13 P1 (g := (mkF m 17 #[vA f, vA it] [(.ref f), (.ref it)])) rfl rfl (hb hby d220)
  obtain ⟨T15, X15, e15, st15⟩ := getF X14 hx hZ hown (host := "") (Or.inl (w_69 hw)) Via.refl e14 P1 (g := (mkF m 24 #[vA f, vA it] [(.ref f)])) rfl rfl (hb hby d223)
  obtain ⟨cq16, kq16, qa16, qb16, qc16⟩ := isOf hZ e15 P5
  obtain ⟨_, _, ⟨T16, L16, k16, n16⟩, -, X16, hSb16, hgr16, ⟨Lc16, hQ16, l16, y16, z16⟩, st16⟩ := X15.virtualBackS hx (y := m_22) (z := m_22) hown (mvT hZ (w_84 hw)) (mvT hZ (w_85 hw)) (notFace_of_selects (args := #[]) (mvT hZ (w_87 hw))) (mvT hZ (w_87 hw)) (mvT hZ (w_86 hw)) (by decide) (own_backSW (W := 0) (rm_as1 l Z a0 hw t it sn al v_ kv mc y0 mo h0 n0 (by omega) P2 P3 P4 P5 P6 P7 P8 P9 P10 P11 P12 P13 P14 P15 (by omega) (by omega) (fun q => P18 q) (fun q => P19 q) (fun q => P20 q) (fun q => P21 q) (fun q => P22 q)) hZ (w_88 hw) (w_86 hw) (w_25 hw) (by decide) (by decide)) qa16 qc16 (g := (mkF m 28 #[vA f, vA it] [(.ref it), (.ref t)])) rfl (by rw [hml]; rfl) (Steps.refl _) (argsL := [(.ref it)]) (rest := []) (lenOf pd_13 rfl) rfl (Nat.le_of_eq rfl) (hb hby d225) (fun _ _ => ⟨rfl, e15, (by decide : 0 + 3 ≤ _), (by decide : 0 + 138 ≤ _)⟩)
  dsimp only [Pt.U, Pt.locs, Pt.cells, Pt.slots] at X16 l16 y16 z16 st16 hQ16 hSb16 hgr16
  rw [l16, y16, z16] at X16
  rw [e15] at hgr16
  obtain ⟨X16, hS16, hZ16, hown16⟩ := rebS hS0 (by omega) X16 hSb16 hgr16 hZ hown
  have hk16 : T16.heap.size ≤ T16.heap.size := Nat.le_refl _
  obtain ⟨rfl, Nq16, Kq16, r16_0⟩ := hQ16
  have N16 := Fr.app N0 Nq16
  have z16' := Kq16.1
  have K16 := K0.trans Kq16 (allS (Or.inl (List.mem_of_getElem? (i := 0) rfl)) (allS (Or.inl (List.mem_of_getElem? (i := 1) rfl)) all0))
  have lt17 := own_l r16_0.lt
  obtain ⟨fs, hr, hrun, hended, hEnd⟩ := X16.leaveW hS16 (by first | omega | (rw [(rfl : T16.heap = T16.heap)]; omega)) (v := none) (fun _ => rfl)
  refine ⟨_, _, castTop (ef_3 m f it) ?_, hrun, hended, _, _, rfl, ?_, hEnd.1, hEnd.2.1, hEnd.2.2.1, hEnd.2.2.2.mono (by decide) (by decide)⟩
  · show Steps _ _ _ (s₁.setTop (mkF m 0 #[vA f, vA it] [])) _
    refine XS.aloadN X0.here hx rfl (hb hby d210) rfl rfl ?_
    refine st13 _ ?_
    show Steps _ _ _ (T13.setTop (mkF m 4 #[vA f, vA it] [(.ref t)])) _
    refine XS.ifnonnullYes X13.here hx rfl (pc0 := 4) (pc' := 15) rfl (hb hby d212) rfl (by decide) (by decide) ?_
    refine XS.aloadN X13.here hx rfl (hb hby d218) rfl rfl ?_
    refine XS.aloadN X13.here hx rfl (hb hby d219) rfl rfl ?_
    refine st14 _ ?_
    show Steps _ _ _ (T14.setTop (mkF m 20 #[vA f, vA it] [(.ref t), (.ref it)])) _
    refine Jvm.RoadKit.acmp (g := (mkF m 20 #[vA f, vA it] [(.ref t), (.ref it)])) X14 hx rfl rfl rfl (pc0 := 20) (pc' := 23) (same := false) rfl (hb hby d221) rfl (decide_eq_false fun q => absurd (Value.ref.inj q) (fun q => P18 q)) (by decide) (by decide) ?_
    show Steps _ _ _ (T14.setTop (mkF m 23 #[vA f, vA it] [])) _
    refine XS.aloadN X14.here hx rfl (hb hby d222) rfl rfl ?_
    refine st15 _ ?_
    show Steps _ _ _ (T15.setTop (mkF m 27 #[vA f, vA it] [(.ref t)])) _
    refine XS.aloadN X15.here hx rfl (hb hby d224) rfl rfl ?_
    refine st16.trans ?_
    show Steps _ _ _ (T16.setTop (mkF m 31 #[vA f, vA it] [])) _
    exact X16.returnOut hx Bd.returns (hb hby d217) hr
  · show Q_fa1 Z f t it sn al v_ kv mc y0 mo h0 n0 _ T16.heap _
    exact ⟨rfl, N16, K16, r16_0⟩
theorem d226 : decode method_2_code 0 = .ok (.iload_n 0, 1) := by decide +kernel
theorem d227 : decode method_2_code 1 = .ok (.iconst 3, 1) := by decide +kernel
theorem d228 : decode method_2_code 2 = .ok (.iand, 1) := by decide +kernel
theorem d229 : decode method_2_code 3 = .ok (.istore 4, 2) := by decide +kernel
theorem d230 : decode method_2_code 5 = .ok (.iload 4, 2) := by decide +kernel
theorem d231 : decode method_2_code 7 = .ok (.ifCond .ne 11, 3) := by decide +kernel
theorem d232 : decode method_2_code 10 = .ok (.iload_n 3, 1) := by decide +kernel
theorem d233 : decode method_2_code 11 = .ok (.ifCond .eq 5, 3) := by decide +kernel
theorem d234 : decode method_2_code 14 = .ok (.aconst_null, 1) := by decide +kernel
theorem d235 : decode method_2_code 15 = .ok (.areturn, 1) := by decide +kernel
theorem ef_9 (m : MethodId) (x0 : Int32) (x1 : Addr) (x2 : Addr) (x3 : Int32) : entryFrame m #[(.int x0), (.ref x1), (.ref x2), (.int x3)] 5 = mkF m 0 #[vI x0, vA x1, vA x2, vI x3, .unset] [] := by first | (simp [entryFrame, mkF, argsToLocals, Value.category, maxLocals]; done) | rfl
abbrev m_28 : MethodName := (⟨"com/example/maat/maat/FailuresIsEmptyPinLaw", "pick", "(ILjava/lang/Throwable;Ljava/lang/Throwable;Z)Ljava/lang/Throwable;"⟩ : MethodName)
def Q_pkn (Z : State) (k0 : Int32) (t1 : Addr) (t2 : Addr) (h0 : Heap) (n0 : Nat) (v : Option Value) (h : Heap) (L : List Loc) : Prop := (v = some .null) ∧ (Fr n0 L) ∧ (h = h0)
theorem rm_pkn (l : Launch) (Z : State) (a0 : Array Value) (hw : HW Z a0) (ws : List Jvm.Cond) (k0 : Int32) (t1 : Addr) (t2 : Addr) (h0 : Heap) (n0 : Nat) (Z0 : n0 ≤ h0.size) (h0m : (k0 &&& (3 : Int32)) = (0 : Int32)) :
    MF l Z m_28 method_2_code 5 (some (.object "java/lang/Throwable")) ws (oR 0 0 0 0) #[(.int k0), (.ref t1), (.ref t2), (.int 1)] h0 (Q_pkn Z k0 t1 t2 h0 n0) := by
  refine own_body (cls := "com/example/maat/maat/FailuresIsEmptyPinLaw") (plainFor_of_name pn_12) rfl (fun p e s m below meth c s₁ hx hby hml hown hnm hret hZ X0 e0 => ?_)
  have N0 := Fr.nil n0
  refine ⟨_, _, _, _, some .null, X0, by decide, by decide, nofun, ?_, fun fs hr => castTop (ef_9 m k0 t1 t2 (1 : Int32)) ?_⟩
  · show Q_pkn Z k0 t1 t2 h0 n0 _ s₁.heap _
    rw [(e0 : s₁.heap = h0)]
    exact ⟨rfl, N0, rfl⟩
  · show Steps _ _ _ (s₁.setTop (mkF m 0 #[vI k0, vA t1, vA t2, vI 1, .unset] [])) _
    refine XS.iloadN X0.here hx rfl (hb hby d226) rfl ?_
    refine XS.iconst X0.here hx rfl (hb hby d227) ?_
    refine XS.iand X0.here hx rfl (hb hby d228) rfl ?_
    refine XS.istore X0.here hx rfl (hb hby d229) rfl (l' := #[vI k0, vA t1, vA t2, vI 1, .val (.int (k0 &&& (3 : Int32)))]) rfl ?_
    refine XS.iload X0.here hx rfl (hb hby d230) rfl ?_
    refine XS.ifNo X0.here hx rfl (hb hby d231) rfl ((if0 _ _).trans (teq (h0m : (k0 &&& (3 : Int32)) = (0 : Int32))).2) ?_
    refine XS.iloadN X0.here hx rfl (hb hby d232) rfl ?_
    refine XS.ifNo X0.here hx rfl (hb hby d233) rfl ((if0 _ _).trans (feq ((by decide) : ¬ ((1 : Int32) = (0 : Int32)))).1) ?_
    refine XS.aconstNull X0.here hx rfl (hb hby d234) ?_
    exact retOut X0 hx hret (own_narrow_ref rfl) (Or.inr (Or.inr (Or.inr (Or.inr ⟨rfl, rfl, rfl⟩)))) (hb hby d235) hr
theorem d236 : decode method_2_code 18 = .ok (.iload 4, 2) := by decide +kernel
theorem d237 : decode method_2_code 20 = .ok (.iconst 2, 1) := by decide +kernel
theorem d238 : decode method_2_code 21 = .ok (.if_icmp .ne 5, 3) := by decide +kernel
theorem d239 : decode method_2_code 26 = .ok (.aload_n 1, 1) := by decide +kernel
theorem d240 : decode method_2_code 27 = .ok (.areturn, 1) := by decide +kernel
def Q_pk1e (Z : State) (k0 : Int32) (t1 : Addr) (t2 : Addr) (h0 : Heap) (n0 : Nat) (v : Option Value) (h : Heap) (L : List Loc) : Prop := (v = some (.ref t1)) ∧ (Fr n0 L) ∧ (h = h0)
theorem rm_pk1e (l : Launch) (Z : State) (a0 : Array Value) (hw : HW Z a0) (ws : List Jvm.Cond) (k0 : Int32) (t1 : Addr) (t2 : Addr) (h0 : Heap) (n0 : Nat) (Z0 : n0 ≤ h0.size) (h0m : ¬ ((k0 &&& (3 : Int32)) = (0 : Int32))) (h2m : ¬ ((k0 &&& (3 : Int32)) = (2 : Int32))) :
    MF l Z m_28 method_2_code 5 (some (.object "java/lang/Throwable")) ws (oR 0 0 0 0) #[(.int k0), (.ref t1), (.ref t2), (.int 1)] h0 (Q_pk1e Z k0 t1 t2 h0 n0) := by
  refine own_body (cls := "com/example/maat/maat/FailuresIsEmptyPinLaw") (plainFor_of_name pn_12) rfl (fun p e s m below meth c s₁ hx hby hml hown hnm hret hZ X0 e0 => ?_)
  have N0 := Fr.nil n0
  refine ⟨_, _, _, _, some (.ref t1), X0, by decide, by decide, nofun, ?_, fun fs hr => castTop (ef_9 m k0 t1 t2 (1 : Int32)) ?_⟩
  · show Q_pk1e Z k0 t1 t2 h0 n0 _ s₁.heap _
    rw [(e0 : s₁.heap = h0)]
    exact ⟨rfl, N0, rfl⟩
  · show Steps _ _ _ (s₁.setTop (mkF m 0 #[vI k0, vA t1, vA t2, vI 1, .unset] [])) _
    refine XS.iloadN X0.here hx rfl (hb hby d226) rfl ?_
    refine XS.iconst X0.here hx rfl (hb hby d227) ?_
    refine XS.iand X0.here hx rfl (hb hby d228) rfl ?_
    refine XS.istore X0.here hx rfl (hb hby d229) rfl (l' := #[vI k0, vA t1, vA t2, vI 1, .val (.int (k0 &&& (3 : Int32)))]) rfl ?_
    refine XS.iload X0.here hx rfl (hb hby d230) rfl ?_
    refine XS.ifYes X0.here hx rfl (pc0 := 7) (pc' := 18) rfl (hb hby d231) rfl ((if0 _ _).trans (feq (h0m : ¬ ((k0 &&& (3 : Int32)) = (0 : Int32)))).2) (by decide) (by decide) ?_
    refine XS.iload X0.here hx rfl (hb hby d236) rfl ?_
    refine XS.iconst X0.here hx rfl (hb hby d237) ?_
    refine XS.icmpYes X0.here hx rfl (pc0 := 21) (pc' := 26) rfl (hb hby d238) rfl (feq (h2m : ¬ ((k0 &&& (3 : Int32)) = (2 : Int32)))).2 (by decide) (by decide) ?_
    refine XS.aloadN X0.here hx rfl (hb hby d239) rfl rfl ?_
    exact retOut X0 hx hret (own_narrow_ref rfl) (Or.inr (Or.inr (Or.inr (Or.inr ⟨rfl, rfl, rfl⟩)))) (hb hby d240) hr
theorem d241 : decode method_2_code 24 = .ok (.aload_n 2, 1) := by decide +kernel
theorem d242 : decode method_2_code 25 = .ok (.areturn, 1) := by decide +kernel
def Q_pk2e (Z : State) (k0 : Int32) (t1 : Addr) (t2 : Addr) (h0 : Heap) (n0 : Nat) (v : Option Value) (h : Heap) (L : List Loc) : Prop := (v = some (.ref t2)) ∧ (Fr n0 L) ∧ (h = h0)
theorem rm_pk2e (l : Launch) (Z : State) (a0 : Array Value) (hw : HW Z a0) (ws : List Jvm.Cond) (k0 : Int32) (t1 : Addr) (t2 : Addr) (h0 : Heap) (n0 : Nat) (Z0 : n0 ≤ h0.size) (h0m : ¬ ((k0 &&& (3 : Int32)) = (0 : Int32))) (h2m : (k0 &&& (3 : Int32)) = (2 : Int32)) :
    MF l Z m_28 method_2_code 5 (some (.object "java/lang/Throwable")) ws (oR 0 0 0 0) #[(.int k0), (.ref t1), (.ref t2), (.int 1)] h0 (Q_pk2e Z k0 t1 t2 h0 n0) := by
  refine own_body (cls := "com/example/maat/maat/FailuresIsEmptyPinLaw") (plainFor_of_name pn_12) rfl (fun p e s m below meth c s₁ hx hby hml hown hnm hret hZ X0 e0 => ?_)
  have N0 := Fr.nil n0
  refine ⟨_, _, _, _, some (.ref t2), X0, by decide, by decide, nofun, ?_, fun fs hr => castTop (ef_9 m k0 t1 t2 (1 : Int32)) ?_⟩
  · show Q_pk2e Z k0 t1 t2 h0 n0 _ s₁.heap _
    rw [(e0 : s₁.heap = h0)]
    exact ⟨rfl, N0, rfl⟩
  · show Steps _ _ _ (s₁.setTop (mkF m 0 #[vI k0, vA t1, vA t2, vI 1, .unset] [])) _
    refine XS.iloadN X0.here hx rfl (hb hby d226) rfl ?_
    refine XS.iconst X0.here hx rfl (hb hby d227) ?_
    refine XS.iand X0.here hx rfl (hb hby d228) rfl ?_
    refine XS.istore X0.here hx rfl (hb hby d229) rfl (l' := #[vI k0, vA t1, vA t2, vI 1, .val (.int (k0 &&& (3 : Int32)))]) rfl ?_
    refine XS.iload X0.here hx rfl (hb hby d230) rfl ?_
    refine XS.ifYes X0.here hx rfl (pc0 := 7) (pc' := 18) rfl (hb hby d231) rfl ((if0 _ _).trans (feq (h0m : ¬ ((k0 &&& (3 : Int32)) = (0 : Int32)))).2) (by decide) (by decide) ?_
    refine XS.iload X0.here hx rfl (hb hby d236) rfl ?_
    refine XS.iconst X0.here hx rfl (hb hby d237) ?_
    refine XS.icmpNo X0.here hx rfl (hb hby d238) rfl (teq (h2m : (k0 &&& (3 : Int32)) = (2 : Int32))).2 ?_
    refine XS.aloadN X0.here hx rfl (hb hby d241) rfl rfl ?_
    exact retOut X0 hx hret (own_narrow_ref rfl) (Or.inr (Or.inr (Or.inr (Or.inr ⟨rfl, rfl, rfl⟩)))) (hb hby d242) hr
def Q_pk2 (Z : State) (k0 : Int32) (t1 : Addr) (t2 : Addr) (h0 : Heap) (n0 : Nat) (v : Option Value) (h : Heap) (L : List Loc) : Prop := (v = some (.ref t2)) ∧ (Fr n0 L) ∧ (h = h0)
theorem rm_pk2 (l : Launch) (Z : State) (a0 : Array Value) (hw : HW Z a0) (ws : List Jvm.Cond) (k0 : Int32) (t1 : Addr) (t2 : Addr) (h0 : Heap) (n0 : Nat) (Z0 : n0 ≤ h0.size) (h0m : ¬ ((k0 &&& (3 : Int32)) = (0 : Int32))) (h2m : (k0 &&& (3 : Int32)) = (2 : Int32)) :
    MF l Z m_28 method_2_code 5 (some (.object "java/lang/Throwable")) ws (oR 0 0 0 0) #[(.int k0), (.ref t1), (.ref t2), (.int 0)] h0 (Q_pk2 Z k0 t1 t2 h0 n0) := by
  refine own_body (cls := "com/example/maat/maat/FailuresIsEmptyPinLaw") (plainFor_of_name pn_12) rfl (fun p e s m below meth c s₁ hx hby hml hown hnm hret hZ X0 e0 => ?_)
  have N0 := Fr.nil n0
  refine ⟨_, _, _, _, some (.ref t2), X0, by decide, by decide, nofun, ?_, fun fs hr => castTop (ef_9 m k0 t1 t2 (0 : Int32)) ?_⟩
  · show Q_pk2 Z k0 t1 t2 h0 n0 _ s₁.heap _
    rw [(e0 : s₁.heap = h0)]
    exact ⟨rfl, N0, rfl⟩
  · show Steps _ _ _ (s₁.setTop (mkF m 0 #[vI k0, vA t1, vA t2, vI 0, .unset] [])) _
    refine XS.iloadN X0.here hx rfl (hb hby d226) rfl ?_
    refine XS.iconst X0.here hx rfl (hb hby d227) ?_
    refine XS.iand X0.here hx rfl (hb hby d228) rfl ?_
    refine XS.istore X0.here hx rfl (hb hby d229) rfl (l' := #[vI k0, vA t1, vA t2, vI 0, .val (.int (k0 &&& (3 : Int32)))]) rfl ?_
    refine XS.iload X0.here hx rfl (hb hby d230) rfl ?_
    refine XS.ifYes X0.here hx rfl (pc0 := 7) (pc' := 18) rfl (hb hby d231) rfl ((if0 _ _).trans (feq (h0m : ¬ ((k0 &&& (3 : Int32)) = (0 : Int32)))).2) (by decide) (by decide) ?_
    refine XS.iload X0.here hx rfl (hb hby d236) rfl ?_
    refine XS.iconst X0.here hx rfl (hb hby d237) ?_
    refine XS.icmpNo X0.here hx rfl (hb hby d238) rfl (teq (h2m : (k0 &&& (3 : Int32)) = (2 : Int32))).2 ?_
    refine XS.aloadN X0.here hx rfl (hb hby d241) rfl rfl ?_
    exact retOut X0 hx hret (own_narrow_ref rfl) (Or.inr (Or.inr (Or.inr (Or.inr ⟨rfl, rfl, rfl⟩)))) (hb hby d242) hr
theorem d243 : decode method_2_code 16 = .ok (.aload_n 1, 1) := by decide +kernel
theorem d244 : decode method_2_code 17 = .ok (.areturn, 1) := by decide +kernel
def Q_pk1 (Z : State) (k0 : Int32) (t1 : Addr) (t2 : Addr) (h0 : Heap) (n0 : Nat) (v : Option Value) (h : Heap) (L : List Loc) : Prop := (v = some (.ref t1)) ∧ (Fr n0 L) ∧ (h = h0)
theorem rm_pk1_0 (l : Launch) (Z : State) (a0 : Array Value) (hw : HW Z a0) (ws : List Jvm.Cond) (k0 : Int32) (t1 : Addr) (t2 : Addr) (h0 : Heap) (n0 : Nat) (Z0 : n0 ≤ h0.size) (h2m : ¬ ((k0 &&& (3 : Int32)) = (2 : Int32))) (h0m : (k0 &&& (3 : Int32)) = (0 : Int32)) :
    MF l Z m_28 method_2_code 5 (some (.object "java/lang/Throwable")) ws (oR 0 0 0 0) #[(.int k0), (.ref t1), (.ref t2), (.int 0)] h0 (Q_pk1 Z k0 t1 t2 h0 n0) := by
  refine own_body (cls := "com/example/maat/maat/FailuresIsEmptyPinLaw") (plainFor_of_name pn_12) rfl (fun p e s m below meth c s₁ hx hby hml hown hnm hret hZ X0 e0 => ?_)
  have N0 := Fr.nil n0
  refine ⟨_, _, _, _, some (.ref t1), X0, by decide, by decide, nofun, ?_, fun fs hr => castTop (ef_9 m k0 t1 t2 (0 : Int32)) ?_⟩
  · show Q_pk1 Z k0 t1 t2 h0 n0 _ s₁.heap _
    rw [(e0 : s₁.heap = h0)]
    exact ⟨rfl, N0, rfl⟩
  · show Steps _ _ _ (s₁.setTop (mkF m 0 #[vI k0, vA t1, vA t2, vI 0, .unset] [])) _
    refine XS.iloadN X0.here hx rfl (hb hby d226) rfl ?_
    refine XS.iconst X0.here hx rfl (hb hby d227) ?_
    refine XS.iand X0.here hx rfl (hb hby d228) rfl ?_
    refine XS.istore X0.here hx rfl (hb hby d229) rfl (l' := #[vI k0, vA t1, vA t2, vI 0, .val (.int (k0 &&& (3 : Int32)))]) rfl ?_
    refine XS.iload X0.here hx rfl (hb hby d230) rfl ?_
    refine XS.ifNo X0.here hx rfl (hb hby d231) rfl ((if0 _ _).trans (teq (h0m : (k0 &&& (3 : Int32)) = (0 : Int32))).2) ?_
    refine XS.iloadN X0.here hx rfl (hb hby d232) rfl ?_
    refine XS.ifYes X0.here hx rfl (pc0 := 11) (pc' := 16) rfl (hb hby d233) rfl ((if0 _ _).trans (teq ((by decide) : (0 : Int32) = (0 : Int32))).1) (by decide) (by decide) ?_
    refine XS.aloadN X0.here hx rfl (hb hby d243) rfl rfl ?_
    exact retOut X0 hx hret (own_narrow_ref rfl) (Or.inr (Or.inr (Or.inr (Or.inr ⟨rfl, rfl, rfl⟩)))) (hb hby d244) hr
theorem rm_pk1_1 (l : Launch) (Z : State) (a0 : Array Value) (hw : HW Z a0) (ws : List Jvm.Cond) (k0 : Int32) (t1 : Addr) (t2 : Addr) (h0 : Heap) (n0 : Nat) (Z0 : n0 ≤ h0.size) (h2m : ¬ ((k0 &&& (3 : Int32)) = (2 : Int32))) (h0m : ¬ ((k0 &&& (3 : Int32)) = (0 : Int32))) :
    MF l Z m_28 method_2_code 5 (some (.object "java/lang/Throwable")) ws (oR 0 0 0 0) #[(.int k0), (.ref t1), (.ref t2), (.int 0)] h0 (Q_pk1 Z k0 t1 t2 h0 n0) := by
  refine own_body (cls := "com/example/maat/maat/FailuresIsEmptyPinLaw") (plainFor_of_name pn_12) rfl (fun p e s m below meth c s₁ hx hby hml hown hnm hret hZ X0 e0 => ?_)
  have N0 := Fr.nil n0
  refine ⟨_, _, _, _, some (.ref t1), X0, by decide, by decide, nofun, ?_, fun fs hr => castTop (ef_9 m k0 t1 t2 (0 : Int32)) ?_⟩
  · show Q_pk1 Z k0 t1 t2 h0 n0 _ s₁.heap _
    rw [(e0 : s₁.heap = h0)]
    exact ⟨rfl, N0, rfl⟩
  · show Steps _ _ _ (s₁.setTop (mkF m 0 #[vI k0, vA t1, vA t2, vI 0, .unset] [])) _
    refine XS.iloadN X0.here hx rfl (hb hby d226) rfl ?_
    refine XS.iconst X0.here hx rfl (hb hby d227) ?_
    refine XS.iand X0.here hx rfl (hb hby d228) rfl ?_
    refine XS.istore X0.here hx rfl (hb hby d229) rfl (l' := #[vI k0, vA t1, vA t2, vI 0, .val (.int (k0 &&& (3 : Int32)))]) rfl ?_
    refine XS.iload X0.here hx rfl (hb hby d230) rfl ?_
    refine XS.ifYes X0.here hx rfl (pc0 := 7) (pc' := 18) rfl (hb hby d231) rfl ((if0 _ _).trans (feq (h0m : ¬ ((k0 &&& (3 : Int32)) = (0 : Int32)))).2) (by decide) (by decide) ?_
    refine XS.iload X0.here hx rfl (hb hby d236) rfl ?_
    refine XS.iconst X0.here hx rfl (hb hby d237) ?_
    refine XS.icmpYes X0.here hx rfl (pc0 := 21) (pc' := 26) rfl (hb hby d238) rfl (feq (h2m : ¬ ((k0 &&& (3 : Int32)) = (2 : Int32)))).2 (by decide) (by decide) ?_
    refine XS.aloadN X0.here hx rfl (hb hby d239) rfl rfl ?_
    exact retOut X0 hx hret (own_narrow_ref rfl) (Or.inr (Or.inr (Or.inr (Or.inr ⟨rfl, rfl, rfl⟩)))) (hb hby d240) hr
theorem rm_pk1 (l : Launch) (Z : State) (a0 : Array Value) (hw : HW Z a0) (ws : List Jvm.Cond) (k0 : Int32) (t1 : Addr) (t2 : Addr) (h0 : Heap) (n0 : Nat) (Z0 : n0 ≤ h0.size) (h2m : ¬ ((k0 &&& (3 : Int32)) = (2 : Int32))) :
    MF l Z m_28 method_2_code 5 (some (.object "java/lang/Throwable")) ws (oR 0 0 0 0) #[(.int k0), (.ref t1), (.ref t2), (.int 0)] h0 (Q_pk1 Z k0 t1 t2 h0 n0) := by
  by_cases q : (k0 &&& (3 : Int32)) = (0 : Int32)
  · exact rm_pk1_0 l Z a0 hw ws k0 t1 t2 h0 n0 Z0 h2m q
  · exact rm_pk1_1 l Z a0 hw ws k0 t1 t2 h0 n0 Z0 h2m q
theorem own_20 {y : Int32} (h : y = (2 : Int32)) : ¬ (y = (0 : Int32)) := by subst h; decide
theorem w_0 {Z : State} {a0 : Array Value} (hw : HW Z a0) : (Jvm.Cond.classLink "com/example/maat/maat/FailuresIsEmptyPinLaw" (8 : Nat) "com/example/maat/maat/Failures").before a0 Z = true := hw _ (List.mem_of_getElem? (i := 0) rfl)
theorem w_3 {Z : State} {a0 : Array Value} (hw : HW Z a0) : (Jvm.Cond.methodLink "com/example/maat/maat/FailuresIsEmptyPinLaw" (17 : Nat) m_23).before a0 Z = true := hw _ (List.mem_of_getElem? (i := 3) rfl)
theorem w_5 {Z : State} {a0 : Array Value} (hw : HW Z a0) : (Jvm.Cond.code m_23 prog_6_method_1_code (1 : Nat) (Option.none : Option Jvm.ClassFile.FieldType)).before a0 Z = true := hw _ (List.mem_of_getElem? (i := 5) rfl)
theorem w_4 {Z : State} {a0 : Array Value} (hw : HW Z a0) : (Jvm.Cond.instanceMethod m_23).before a0 Z = true := hw _ (List.mem_of_getElem? (i := 4) rfl)
theorem w_9 {Z : State} {a0 : Array Value} (hw : HW Z a0) : (Jvm.Cond.classLink "com/example/maat/maat/FailuresIsEmptyPinLaw" (18 : Nat) "java/lang/RuntimeException").before a0 Z = true := hw _ (List.mem_of_getElem? (i := 9) rfl)
theorem w_11 {Z : State} {a0 : Array Value} (hw : HW Z a0) : (Jvm.Cond.initialized "java/lang/RuntimeException").before a0 Z = true := hw _ (List.mem_of_getElem? (i := 11) rfl)
theorem w_12 {Z : State} {a0 : Array Value} (hw : HW Z a0) : (Jvm.Cond.methodLink "com/example/maat/maat/FailuresIsEmptyPinLaw" (20 : Nat) m_5).before a0 Z = true := hw _ (List.mem_of_getElem? (i := 12) rfl)
theorem w_14 {Z : State} {a0 : Array Value} (hw : HW Z a0) : (Jvm.Cond.code m_5 jdk_58_method_1_code (1 : Nat) (Option.none : Option Jvm.ClassFile.FieldType)).before a0 Z = true := hw _ (List.mem_of_getElem? (i := 14) rfl)
theorem w_13 {Z : State} {a0 : Array Value} (hw : HW Z a0) : (Jvm.Cond.instanceMethod m_5).before a0 Z = true := hw _ (List.mem_of_getElem? (i := 13) rfl)
theorem w_60 {Z : State} {a0 : Array Value} (hw : HW Z a0) : (Jvm.Cond.methodLink "com/example/maat/maat/FailuresIsEmptyPinLaw" (21 : Nat) m_26).before a0 Z = true := hw _ (List.mem_of_getElem? (i := 60) rfl)
theorem w_63 {Z : State} {a0 : Array Value} (hw : HW Z a0) : (Jvm.Cond.code m_26 method_3_code (2 : Nat) (Option.some FieldType.boolean)).before a0 Z = true := hw _ (List.mem_of_getElem? (i := 63) rfl)
theorem w_62 {Z : State} {a0 : Array Value} (hw : HW Z a0) : (Jvm.Cond.initialized "com/example/maat/maat/FailuresIsEmptyPinLaw").before a0 Z = true := hw _ (List.mem_of_getElem? (i := 62) rfl)
theorem pd_14 : parseMethodDescriptor "(Lcom/example/maat/maat/Failures;Z)Z" = some ⟨[(.object "com/example/maat/maat/Failures"), .boolean], some .boolean⟩ := by decide +kernel
theorem w_61 {Z : State} {a0 : Array Value} (hw : HW Z a0) : (Jvm.Cond.static m_26).before a0 Z = true := hw _ (List.mem_of_getElem? (i := 61) rfl)
theorem w_76 {Z : State} {a0 : Array Value} (hw : HW Z a0) : (Jvm.Cond.methodLink "com/example/maat/maat/FailuresIsEmptyPinLaw" (27 : Nat) m_28).before a0 Z = true := hw _ (List.mem_of_getElem? (i := 76) rfl)
theorem w_78 {Z : State} {a0 : Array Value} (hw : HW Z a0) : (Jvm.Cond.code m_28 method_2_code (5 : Nat) (Option.some (FieldType.object "java/lang/Throwable"))).before a0 Z = true := hw _ (List.mem_of_getElem? (i := 78) rfl)
theorem pd_15 : parseMethodDescriptor "(ILjava/lang/Throwable;Ljava/lang/Throwable;Z)Ljava/lang/Throwable;" = some ⟨[.int, (.object "java/lang/Throwable"), (.object "java/lang/Throwable"), .boolean], some (.object "java/lang/Throwable")⟩ := by decide +kernel
theorem w_77 {Z : State} {a0 : Array Value} (hw : HW Z a0) : (Jvm.Cond.static m_28).before a0 Z = true := hw _ (List.mem_of_getElem? (i := 77) rfl)
theorem w_79 {Z : State} {a0 : Array Value} (hw : HW Z a0) : (Jvm.Cond.methodLink "com/example/maat/maat/FailuresIsEmptyPinLaw" (31 : Nat) m_27).before a0 Z = true := hw _ (List.mem_of_getElem? (i := 79) rfl)
theorem w_83 {Z : State} {a0 : Array Value} (hw : HW Z a0) : (Jvm.Cond.code m_27 prog_6_method_2_code (2 : Nat) (Option.none : Option Jvm.ClassFile.FieldType)).before a0 Z = true := hw _ (List.mem_of_getElem? (i := 83) rfl)
theorem w_82 {Z : State} {a0 : Array Value} (hw : HW Z a0) : (Jvm.Cond.selects "com/example/maat/maat/Failures" m_27 m_27).before a0 Z = true := hw _ (List.mem_of_getElem? (i := 82) rfl)
theorem w_80 {Z : State} {a0 : Array Value} (hw : HW Z a0) : (Jvm.Cond.declares m_27).before a0 Z = true := hw _ (List.mem_of_getElem? (i := 80) rfl)
theorem w_81 {Z : State} {a0 : Array Value} (hw : HW Z a0) : (Jvm.Cond.instanceMethod m_27).before a0 Z = true := hw _ (List.mem_of_getElem? (i := 81) rfl)
theorem ef_10 (m : MethodId) (x0 : Int32) (x1 : Int32) (x2 : Int32) : entryFrame m #[(.int x0), (.int x1), (.int x2)] maxLocals = mkF m 0 #[vI x0, vI x1, vI x2, .unset, .unset, .unset, .unset, .unset, .unset] [] := by first | (simp [entryFrame, mkF, argsToLocals, Value.category, maxLocals]; done) | rfl
def Q_law (Z : State) (p0 : Int32) (p1 : Int32) (p2 : Int32) (su : Addr) (sn : Addr) (mo : Addr) (h0 : Heap) (n0 : Nat) (v : Option Value) (h : Heap) (L : List Loc) : Prop := v = some (.int 1) ∧ Fr n0 L
theorem rm_law_nnn (l : Launch) (Z : State) (a0 : Array Value) (hw : HW Z a0) (ws : List Jvm.Cond) (p0 : Int32) (p1 : Int32) (p2 : Int32) (su : Addr) (sn : Addr) (mo : Addr) (h0 : Heap) (n0 : Nat) (Z0 : n0 ≤ h0.size) (P0 : Old Z n0 h0) (P1 : sta0 Z (.ref su)) (P2 : sta1 Z (.ref sn)) (P3 : Mi Z "[Ljava/lang/Object;" mo) (P4 : Exa Z h0 sn "java/util/Collections$EmptyList") (hst : l.stackTraces = true) (q0 : (p0 &&& (3 : Int32)) = (0 : Int32)) (q1 : (p1 &&& (3 : Int32)) = (0 : Int32)) (q2 : (p2 &&& (3 : Int32)) = (0 : Int32)) :
    MetFree l x (head1 (Jvm.Cond.code x code maxLocals ret :: ws) room_1) (fun as' U => as' = #[(.int p0), (.int p1), (.int p2)] ∧ Z.Warmed39 U.vm ∧ U.heap = h0) (fun _ _ bl s _ => s.vm.MethodsKnown ∧ s.vm.FramesKnown bl) (fun _ U o U' => ∃ v L, o = .returned v ∧ Q_law Z p0 p1 p2 su sn mo h0 n0 v U'.heap L ∧ ReturnedEndW U o U' L room_1.cells room_1.slots) := by
  refine MetFree.of_bodySF (plainFor_of_name pn_12) hisR ?_
  intro p e s m args below meth c s₁ Bd hml0 hP hK
  obtain ⟨hTK, hBl⟩ := hK
  obtain ⟨rfl, hZ, hh⟩ := hP
  have hx := Bd.exec
  have hby := Bd.bytes
  have hml : c.maxLocals = 9 := hml0
  have hown : (s.setVm s.vm).vm.findClass "com/example/maat/maat/FailuresIsEmptyPinLaw" = some m.cls := findClass_of_methodNamed Bd.named
  have hnm := (name_of_methodNamed Bd.named Bd.method).1
  have X0 : Stand p l e room_1 (s.setVm s.vm) m #[(.int p0), (.int p1), (.int p2)] below meth c s₁ [] 0 0 := Stand.of_body Bd
  have e0 : s₁.heap = h0 := by rw [← hh, Bd.state]; rfl
  have N0 := Fr.nil n0
  have hZ : Z.Warmed39 (s.setVm s.vm).vm := hZ
  have hS0 : s.Since s.vm h0.size := (State.WarmedH.refl s).since _
  have hk0 : h0.size ≤ h0.size := Nat.le_refl _
  have lt1 := own_l P4.lt
  obtain ⟨T2, h2, X2, e2, E2, A2, D2, -, st2⟩ := newO X0 hx hZ hown (w_0 hw) (w_1 hw) (w_2 hw) e0 (g := (mkF m 0 #[vI p0, vI p1, vI p2, .unset, .unset, .unset, .unset, .unset, .unset] [])) rfl (hb hby at_0) (by decide) (by decide)
  obtain ⟨b2, g2⟩ : ∃ z, z = h0.size := ⟨_, rfl⟩
  rw [← g2] at A2 D2 st2
  have z2 := E2.1
  have lt3 := own_l A2.lt
  have F2_70 : Fld Z h2 b2 "com/example/maat/maat/Failures" "first" "Ljava/lang/Throwable;" .null := D2 (Or.inl (w_70 hw)) (ty := (.object "java/lang/Throwable")) (by decide)
  obtain ⟨_, _, ⟨T4, L4, k4, n4⟩, -, X4, ⟨Lc4, hQ4, l4, y4, z4⟩, st4⟩ := X2.specialBack hx (y := m_23) rfl hown (mvT hZ (w_3 hw)) (mvT hZ (w_4 hw)) (mvT hZ (w_5 hw)) (by decide) (backOf (W := 1) (rm_fin l Z a0 hw [] b2 h2 n0 (by omega) ) hZ (w_5 hw) (w_2 hw) (by decide) (by decide)) (g := (mkF m 4 #[vI p0, vI p1, vI p2, .unset, .unset, .unset, .unset, .unset, .unset] [(.ref b2), (.ref b2)])) rfl (by rw [hml]; rfl) (Steps.refl _) (a := b2) (argsL := []) (rest := [(.ref b2)]) (lenOf pd_0 rfl) rfl (Nat.le_of_eq rfl) (hb hby at_4) (fun _ _ => ⟨rfl, e2, (by decide : 1 + 0 ≤ _), (by decide : 1 + 0 ≤ _)⟩)
  dsimp only [Pt.U, Pt.locs, Pt.cells, Pt.slots] at X4 l4 y4 z4 st4 hQ4
  rw [l4, y4, z4] at X4
  obtain ⟨rfl, Nq4, Kq4⟩ := hQ4
  have N4 := Fr.app N0 Nq4
  obtain ⟨T5, h5, X5, e5, E5, A5, D5, U5, st5⟩ := newO X4 hx hZ hown (w_9 hw) (w_10 hw) (w_11 hw) Kq4 (g := (mkF m 8 #[vI p0, vI p1, vI p2, vA b2, .unset, .unset, .unset, .unset, .unset] [])) rfl (hb hby at_8) (by decide) (by decide)
  obtain ⟨b5, g5⟩ : ∃ z, z = h2.size := ⟨_, rfl⟩
  rw [← g5] at A5 D5 U5 st5
  have z5 := E5.1
  have lt6 := own_l A5.lt
  replace U5 : Unt h5 b5 := U5
  have F5_29 : Fld Z h5 b5 "java/lang/Throwable" "cause" "Ljava/lang/Throwable;" .null := D5 (Or.inl (w_29 hw)) (ty := (.object "java/lang/Throwable")) (by decide)
  have F5_32 : Fld Z h5 b5 "java/lang/Throwable" "stackTrace" "[Ljava/lang/StackTraceElement;" .null := D5 (Or.inl (w_32 hw)) (ty := (.array (.object "java/lang/StackTraceElement"))) (by decide)
  have F5_35 : Fld Z h5 b5 "java/lang/Throwable" "suppressedExceptions" "Ljava/util/List;" .null := D5 (Or.inl (w_35 hw)) (ty := (.object "java/util/List")) (by decide)
  have F5_56 : Fld Z h5 b5 "java/lang/Throwable" "detailMessage" "Ljava/lang/String;" .null := D5 (Or.inl (w_56 hw)) (ty := (.object "java/lang/String")) (by decide)
  have F5_57 : Fld Z h5 b5 "java/lang/Throwable" "backtrace" "Ljava/lang/Object;" .null := D5 (Or.inl (w_57 hw)) (ty := (.object "java/lang/Object")) (by decide)
  have F5_58 : Fld Z h5 b5 "java/lang/Throwable" "depth" "I" (.int 0) := D5 (Or.inl (w_58 hw)) (ty := .int) (by decide)
  have f8 := P0.ext E2
  have f9 := f8.ext E5
  obtain ⟨_, _, ⟨T7, L7, k7, n7⟩, -, X7, ⟨Lc7, hQ7, l7, y7, z7⟩, st7⟩ := X5.specialBack hx (y := m_5) rfl hown (mvT hZ (w_12 hw)) (mvT hZ (w_13 hw)) (mvT hZ (w_14 hw)) (by decide) (backOfKL (W := 1) (rm_rti l Z a0 hw [] b5 su sn h5 n0 (by omega) f9 P1 P2 A5 U5 F5_29 F5_32 F5_35 F5_57 F5_58 (by omega) hst) hZ (w_14 hw) (w_11 hw) (by decide) (by decide) hTK hBl) (g := (mkF m 12 #[vI p0, vI p1, vI p2, vA b2, .unset, .unset, .unset, .unset, .unset] [(.ref b5), (.ref b5)])) rfl (by rw [hml]; rfl) (Steps.refl _) (a := b5) (argsL := []) (rest := [(.ref b5)]) (lenOf pd_0 rfl) rfl (Nat.le_of_eq rfl) (hb hby at_12) (fun _ _ => ⟨rfl, e5, (by decide : 2 + 1 ≤ _), (by decide : 7 + 2752 ≤ _)⟩)
  dsimp only [Pt.U, Pt.locs, Pt.cells, Pt.slots] at X7 l7 y7 z7 st7 hQ7
  rw [l7, y7, z7] at X7
  obtain ⟨rfl, Nq7, Kq7, r7_0, r7_1, r7_2⟩ := hQ7
  have N7 := Fr.app N4 Nq7
  have z7' := Kq7.1
  have lt10 := own_l r7_0.lt
  have lt11 := own_l r7_2.lt
  obtain ⟨T12, h12, X12, e12, E12, A12, D12, U12, st12⟩ := newO X7 hx hZ hown (w_9 hw) (w_10 hw) (w_11 hw) rfl (g := (mkF m 17 #[vI p0, vI p1, vI p2, vA b2, vA b5, .unset, .unset, .unset, .unset] [])) rfl (hb hby at_17) (by decide) (by decide)
  obtain ⟨b12, g12⟩ : ∃ z, z = T7.heap.size := ⟨_, rfl⟩
  rw [← g12] at A12 D12 U12 st12
  have z12 := E12.1
  have lt13 := own_l A12.lt
  replace U12 : Unt h12 b12 := U12
  have F12_29 : Fld Z h12 b12 "java/lang/Throwable" "cause" "Ljava/lang/Throwable;" .null := D12 (Or.inl (w_29 hw)) (ty := (.object "java/lang/Throwable")) (by decide)
  have F12_32 : Fld Z h12 b12 "java/lang/Throwable" "stackTrace" "[Ljava/lang/StackTraceElement;" .null := D12 (Or.inl (w_32 hw)) (ty := (.array (.object "java/lang/StackTraceElement"))) (by decide)
  have F12_35 : Fld Z h12 b12 "java/lang/Throwable" "suppressedExceptions" "Ljava/util/List;" .null := D12 (Or.inl (w_35 hw)) (ty := (.object "java/util/List")) (by decide)
  have F12_56 : Fld Z h12 b12 "java/lang/Throwable" "detailMessage" "Ljava/lang/String;" .null := D12 (Or.inl (w_56 hw)) (ty := (.object "java/lang/String")) (by decide)
  have F12_57 : Fld Z h12 b12 "java/lang/Throwable" "backtrace" "Ljava/lang/Object;" .null := D12 (Or.inl (w_57 hw)) (ty := (.object "java/lang/Object")) (by decide)
  have F12_58 : Fld Z h12 b12 "java/lang/Throwable" "depth" "I" (.int 0) := D12 (Or.inl (w_58 hw)) (ty := .int) (by decide)
  have f15 := f9.keep Kq7 (allS (by omega) all0)
  have f16 := f15.ext E12
  obtain ⟨_, _, ⟨T14, L14, k14, n14⟩, -, X14, ⟨Lc14, hQ14, l14, y14, z14⟩, st14⟩ := X12.specialBack hx (y := m_5) rfl hown (mvT hZ (w_12 hw)) (mvT hZ (w_13 hw)) (mvT hZ (w_14 hw)) (by decide) (backOfKL (W := 1) (rm_rti l Z a0 hw [] b12 su sn h12 n0 (by omega) f16 P1 P2 A12 U12 F12_29 F12_32 F12_35 F12_57 F12_58 (by omega) hst) hZ (w_14 hw) (w_11 hw) (by decide) (by decide) hTK hBl) (g := (mkF m 21 #[vI p0, vI p1, vI p2, vA b2, vA b5, .unset, .unset, .unset, .unset] [(.ref b12), (.ref b12)])) rfl (by rw [hml]; rfl) (Steps.refl _) (a := b12) (argsL := []) (rest := [(.ref b12)]) (lenOf pd_0 rfl) rfl (Nat.le_of_eq rfl) (hb hby at_21) (fun _ _ => ⟨rfl, e12, (by decide : 4 + 1 ≤ _), (by decide : 2765 + 2752 ≤ _)⟩)
  dsimp only [Pt.U, Pt.locs, Pt.cells, Pt.slots] at X14 l14 y14 z14 st14 hQ14
  rw [l14, y14, z14] at X14
  obtain ⟨rfl, Nq14, Kq14, r14_0, r14_1, r14_2⟩ := hQ14
  have N14 := Fr.app N7 Nq14
  have z14' := Kq14.1
  have lt17 := own_l r14_0.lt
  have lt18 := own_l r14_2.lt
  have f20 := A2.ext E5
  have f21 := f20.keep Kq7
  have f22 := f21.ext E12
  have f23 := f22.keep Kq14
  have f24 := F2_70.ext E5
  have f25 := f24.keep Kq7 (ninS (own_ne (by omega)) nin0)
  have f26 := f25.ext E12
  have f27 := f26.keep Kq14 (ninS (own_ne (by omega)) nin0)
  obtain ⟨_, _, ⟨T19, L19, k19, n19⟩, -, X19, ⟨Lc19, hQ19, l19, y19, z19⟩, st19⟩ := Jvm.LawKit.callS X14 hx (y := m_26) hown (mvT hZ (w_60 hw)) (mvT hZ (w_61 hw)) (mvT hZ (w_62 hw)) (mvT hZ (w_63 hw)) (by decide) (backOf (W := 0) (rm_agn l Z a0 hw [] b2 T14.heap n0 (by omega) f23 f27) hZ (w_63 hw) (w_62 hw) (by decide) (by decide)) (g := (mkF m 28 #[vI p0, vI p1, vI p2, vA b2, vA b5, vA b12, .unset, .unset, .unset] [(.int 1), (.ref b2)])) rfl (by rw [hml]; rfl) (argsL := [(.ref b2), (.int 1)]) (rest := []) (lenOf pd_14 rfl) rfl (Nat.le_of_eq rfl) (hb hby at_28) (fun _ _ => ⟨rfl, rfl, (by decide : 5 + 0 ≤ _), (by decide : 5517 + 0 ≤ _)⟩)
  dsimp only [Pt.U, Pt.locs, Pt.cells, Pt.slots] at X19 l19 y19 z19 st19 hQ19
  rw [l19, y19, z19] at X19
  obtain ⟨rfl, Nq19, Kq19⟩ := hQ19
  have N19 := Fr.app N14 Nq19
  obtain ⟨_, _, ⟨T28, L28, k28, n28⟩, -, X28, ⟨Lc28, hQ28, l28, y28, z28⟩, st28⟩ := Jvm.LawKit.callS X19 hx (y := m_28) hown (mvT hZ (w_76 hw)) (mvT hZ (w_77 hw)) (mvT hZ (w_62 hw)) (mvT hZ (w_78 hw)) (by decide) (backOf (W := 0) (rm_pkn l Z a0 hw [] p0 b5 b12 T14.heap n0 (by omega) q0) hZ (w_78 hw) (w_62 hw) (by decide) (by decide)) (g := (mkF m 43 #[vI p0, vI p1, vI p2, vA b2, vA b5, vA b12, vI 1, vI 1, .unset] [(.int 1), (.ref b12), (.ref b5), (.int p0)])) rfl (by rw [hml]; rfl) (argsL := [(.int p0), (.ref b5), (.ref b12), (.int 1)]) (rest := []) (lenOf pd_15 rfl) rfl (Nat.le_of_eq rfl) (hb hby at_43) (fun _ _ => ⟨rfl, Kq19, (by decide : 5 + 0 ≤ _), (by decide : 5517 + 0 ≤ _)⟩)
  dsimp only [Pt.U, Pt.locs, Pt.cells, Pt.slots] at X28 l28 y28 z28 st28 hQ28
  rw [l28, y28, z28] at X28
  obtain ⟨rfl, Nq28, Kq28⟩ := hQ28
  have N28 := Fr.app N19 Nq28
  obtain ⟨cq29, kq29, qa29, qb29, qc29⟩ := isOf hZ Kq28 f23
  obtain ⟨_, _, ⟨T29, L29, k29, n29⟩, -, X29, ⟨Lc29, hQ29, l29, y29, z29⟩, st29⟩ := X28.virtualBack hx (y := m_27) (z := m_27) hown (mvT hZ (w_79 hw)) (mvT hZ (w_80 hw)) (notFace_of_selects (args := #[]) (mvT hZ (w_82 hw))) (mvT hZ (w_82 hw)) (mvT hZ (w_81 hw)) (by decide) (backOf (W := 0) (rm_fan l Z a0 hw [] b2 T14.heap n0 (by omega) f23 f27 (by omega)) hZ (w_83 hw) (w_2 hw) (by decide) (by decide)) qa29 qc29 (g := (mkF m 51 #[vI p0, vI p1, vI p2, vA b2, vA b5, vA b12, vI 1, vI 1, .val .null] [.null, (.ref b2)])) rfl (by rw [hml]; rfl) (Steps.refl _) (argsL := [.null]) (rest := []) (lenOf pd_13 rfl) rfl (Nat.le_of_eq rfl) (hb hby at_51) (fun _ _ => ⟨rfl, Kq28, (by decide : 5 + 0 ≤ _), (by decide : 5517 + 0 ≤ _)⟩)
  dsimp only [Pt.U, Pt.locs, Pt.cells, Pt.slots] at X29 l29 y29 z29 st29 hQ29
  rw [l29, y29, z29] at X29
  obtain ⟨rfl, Nq29, Kq29, r29_0, r29_1⟩ := hQ29
  have N29 := Fr.app N28 Nq29
  have z29' := Kq29.1
  have lt30 := own_l r29_0.lt
  have lt31 := own_l r29_1.lt
  obtain ⟨_, _, ⟨T32, L32, k32, n32⟩, -, X32, ⟨Lc32, hQ32, l32, y32, z32⟩, st32⟩ := Jvm.LawKit.callS X29 hx (y := m_26) hown (mvT hZ (w_60 hw)) (mvT hZ (w_61 hw)) (mvT hZ (w_62 hw)) (mvT hZ (w_63 hw)) (by decide) (backOf (W := 0) (rm_agn l Z a0 hw [] b2 T29.heap n0 (by omega) r29_0 r29_1) hZ (w_63 hw) (w_62 hw) (by decide) (by decide)) (g := (mkF m 79 #[vI p0, vI p1, vI p2, vA b2, vA b5, vA b12, vI 1, vI 1, .val .null] [(.int 1), (.ref b2)])) rfl (by rw [hml]; rfl) (argsL := [(.ref b2), (.int 1)]) (rest := []) (lenOf pd_14 rfl) rfl (Nat.le_of_eq rfl) (hb hby at_79) (fun _ _ => ⟨rfl, rfl, (by decide : 5 + 0 ≤ _), (by decide : 5517 + 0 ≤ _)⟩)
  dsimp only [Pt.U, Pt.locs, Pt.cells, Pt.slots] at X32 l32 y32 z32 st32 hQ32
  rw [l32, y32, z32] at X32
  obtain ⟨rfl, Nq32, Kq32⟩ := hQ32
  have N32 := Fr.app N29 Nq32
  obtain ⟨_, _, ⟨T33, L33, k33, n33⟩, -, X33, ⟨Lc33, hQ33, l33, y33, z33⟩, st33⟩ := Jvm.LawKit.callS X32 hx (y := m_28) hown (mvT hZ (w_76 hw)) (mvT hZ (w_77 hw)) (mvT hZ (w_62 hw)) (mvT hZ (w_78 hw)) (by decide) (backOf (W := 0) (rm_pkn l Z a0 hw [] p1 b5 b12 T29.heap n0 (by omega) q1) hZ (w_78 hw) (w_62 hw) (by decide) (by decide)) (g := (mkF m 99 #[vI p0, vI p1, vI p2, vA b2, vA b5, vA b12, vI 1, vI 1, .val .null] [(.int 1), (.ref b12), (.ref b5), (.int p1)])) rfl (by rw [hml]; rfl) (argsL := [(.int p1), (.ref b5), (.ref b12), (.int 1)]) (rest := []) (lenOf pd_15 rfl) rfl (Nat.le_of_eq rfl) (hb hby at_99) (fun _ _ => ⟨rfl, Kq32, (by decide : 5 + 0 ≤ _), (by decide : 5517 + 0 ≤ _)⟩)
  dsimp only [Pt.U, Pt.locs, Pt.cells, Pt.slots] at X33 l33 y33 z33 st33 hQ33
  rw [l33, y33, z33] at X33
  obtain ⟨rfl, Nq33, Kq33⟩ := hQ33
  have N33 := Fr.app N32 Nq33
  obtain ⟨cq34, kq34, qa34, qb34, qc34⟩ := isOf hZ Kq33 r29_0
  obtain ⟨_, _, ⟨T34, L34, k34, n34⟩, -, X34, ⟨Lc34, hQ34, l34, y34, z34⟩, st34⟩ := X33.virtualBack hx (y := m_27) (z := m_27) hown (mvT hZ (w_79 hw)) (mvT hZ (w_80 hw)) (notFace_of_selects (args := #[]) (mvT hZ (w_82 hw))) (mvT hZ (w_82 hw)) (mvT hZ (w_81 hw)) (by decide) (backOf (W := 0) (rm_fan l Z a0 hw [] b2 T29.heap n0 (by omega) r29_0 r29_1 (by omega)) hZ (w_83 hw) (w_2 hw) (by decide) (by decide)) qa34 qc34 (g := (mkF m 107 #[vI p0, vI p1, vI p2, vA b2, vA b5, vA b12, vI 1, vI 1, .val .null] [.null, (.ref b2)])) rfl (by rw [hml]; rfl) (Steps.refl _) (argsL := [.null]) (rest := []) (lenOf pd_13 rfl) rfl (Nat.le_of_eq rfl) (hb hby at_107) (fun _ _ => ⟨rfl, Kq33, (by decide : 5 + 0 ≤ _), (by decide : 5517 + 0 ≤ _)⟩)
  dsimp only [Pt.U, Pt.locs, Pt.cells, Pt.slots] at X34 l34 y34 z34 st34 hQ34
  rw [l34, y34, z34] at X34
  obtain ⟨rfl, Nq34, Kq34, r34_0, r34_1⟩ := hQ34
  have N34 := Fr.app N33 Nq34
  have z34' := Kq34.1
  have lt35 := own_l r34_0.lt
  have lt36 := own_l r34_1.lt
  obtain ⟨_, _, ⟨T37, L37, k37, n37⟩, -, X37, ⟨Lc37, hQ37, l37, y37, z37⟩, st37⟩ := Jvm.LawKit.callS X34 hx (y := m_26) hown (mvT hZ (w_60 hw)) (mvT hZ (w_61 hw)) (mvT hZ (w_62 hw)) (mvT hZ (w_63 hw)) (by decide) (backOf (W := 0) (rm_agn l Z a0 hw [] b2 T34.heap n0 (by omega) r34_0 r34_1) hZ (w_63 hw) (w_62 hw) (by decide) (by decide)) (g := (mkF m 135 #[vI p0, vI p1, vI p2, vA b2, vA b5, vA b12, vI 1, vI 1, .val .null] [(.int 1), (.ref b2)])) rfl (by rw [hml]; rfl) (argsL := [(.ref b2), (.int 1)]) (rest := []) (lenOf pd_14 rfl) rfl (Nat.le_of_eq rfl) (hb hby at_135) (fun _ _ => ⟨rfl, rfl, (by decide : 5 + 0 ≤ _), (by decide : 5517 + 0 ≤ _)⟩)
  dsimp only [Pt.U, Pt.locs, Pt.cells, Pt.slots] at X37 l37 y37 z37 st37 hQ37
  rw [l37, y37, z37] at X37
  obtain ⟨rfl, Nq37, Kq37⟩ := hQ37
  have N37 := Fr.app N34 Nq37
  obtain ⟨_, _, ⟨T38, L38, k38, n38⟩, -, X38, ⟨Lc38, hQ38, l38, y38, z38⟩, st38⟩ := Jvm.LawKit.callS X37 hx (y := m_28) hown (mvT hZ (w_76 hw)) (mvT hZ (w_77 hw)) (mvT hZ (w_62 hw)) (mvT hZ (w_78 hw)) (by decide) (backOf (W := 0) (rm_pkn l Z a0 hw [] p2 b5 b12 T34.heap n0 (by omega) q2) hZ (w_78 hw) (w_62 hw) (by decide) (by decide)) (g := (mkF m 155 #[vI p0, vI p1, vI p2, vA b2, vA b5, vA b12, vI 1, vI 1, .val .null] [(.int 1), (.ref b12), (.ref b5), (.int p2)])) rfl (by rw [hml]; rfl) (argsL := [(.int p2), (.ref b5), (.ref b12), (.int 1)]) (rest := []) (lenOf pd_15 rfl) rfl (Nat.le_of_eq rfl) (hb hby at_155) (fun _ _ => ⟨rfl, Kq37, (by decide : 5 + 0 ≤ _), (by decide : 5517 + 0 ≤ _)⟩)
  dsimp only [Pt.U, Pt.locs, Pt.cells, Pt.slots] at X38 l38 y38 z38 st38 hQ38
  rw [l38, y38, z38] at X38
  obtain ⟨rfl, Nq38, Kq38⟩ := hQ38
  have N38 := Fr.app N37 Nq38
  obtain ⟨cq39, kq39, qa39, qb39, qc39⟩ := isOf hZ Kq38 r34_0
  obtain ⟨_, _, ⟨T39, L39, k39, n39⟩, -, X39, ⟨Lc39, hQ39, l39, y39, z39⟩, st39⟩ := X38.virtualBack hx (y := m_27) (z := m_27) hown (mvT hZ (w_79 hw)) (mvT hZ (w_80 hw)) (notFace_of_selects (args := #[]) (mvT hZ (w_82 hw))) (mvT hZ (w_82 hw)) (mvT hZ (w_81 hw)) (by decide) (backOf (W := 0) (rm_fan l Z a0 hw [] b2 T34.heap n0 (by omega) r34_0 r34_1 (by omega)) hZ (w_83 hw) (w_2 hw) (by decide) (by decide)) qa39 qc39 (g := (mkF m 163 #[vI p0, vI p1, vI p2, vA b2, vA b5, vA b12, vI 1, vI 1, .val .null] [.null, (.ref b2)])) rfl (by rw [hml]; rfl) (Steps.refl _) (argsL := [.null]) (rest := []) (lenOf pd_13 rfl) rfl (Nat.le_of_eq rfl) (hb hby at_163) (fun _ _ => ⟨rfl, Kq38, (by decide : 5 + 0 ≤ _), (by decide : 5517 + 0 ≤ _)⟩)
  dsimp only [Pt.U, Pt.locs, Pt.cells, Pt.slots] at X39 l39 y39 z39 st39 hQ39
  rw [l39, y39, z39] at X39
  obtain ⟨rfl, Nq39, Kq39, r39_0, r39_1⟩ := hQ39
  have N39 := Fr.app N38 Nq39
  have z39' := Kq39.1
  have lt40 := own_l r39_0.lt
  have lt41 := own_l r39_1.lt
  obtain ⟨_, _, ⟨T42, L42, k42, n42⟩, -, X42, ⟨Lc42, hQ42, l42, y42, z42⟩, st42⟩ := Jvm.LawKit.callS X39 hx (y := m_26) hown (mvT hZ (w_60 hw)) (mvT hZ (w_61 hw)) (mvT hZ (w_62 hw)) (mvT hZ (w_63 hw)) (by decide) (backOf (W := 0) (rm_agn l Z a0 hw [] b2 T39.heap n0 (by omega) r39_0 r39_1) hZ (w_63 hw) (w_62 hw) (by decide) (by decide)) (g := (mkF m 191 #[vI p0, vI p1, vI p2, vA b2, vA b5, vA b12, vI 1, vI 1, .val .null] [(.int 1), (.ref b2)])) rfl (by rw [hml]; rfl) (argsL := [(.ref b2), (.int 1)]) (rest := []) (lenOf pd_14 rfl) rfl (Nat.le_of_eq rfl) (hb hby at_191) (fun _ _ => ⟨rfl, rfl, (by decide : 5 + 0 ≤ _), (by decide : 5517 + 0 ≤ _)⟩)
  dsimp only [Pt.U, Pt.locs, Pt.cells, Pt.slots] at X42 l42 y42 z42 st42 hQ42
  rw [l42, y42, z42] at X42
  obtain ⟨rfl, Nq42, Kq42⟩ := hQ42
  have N42 := Fr.app N39 Nq42
  obtain ⟨fs, hr, hrun, hended, hEnd⟩ := X42.leaveW hS0 (by first | omega | (rw [(Kq42 : T42.heap = T39.heap)]; omega)) (v := some (.int 1)) (fun h => by rw [Bd.returns] at h; cases h)
  refine ⟨_, _, castTop (ef_10 m p0 p1 p2) ?_, hrun, hended, _, _, rfl, ?_, hEnd.1, hEnd.2.1, hEnd.2.2.1, hEnd.2.2.2.mono (by decide) (by decide)⟩
  · show Steps _ _ _ (s₁.setTop (mkF m 0 #[vI p0, vI p1, vI p2, .unset, .unset, .unset, .unset, .unset, .unset] [])) _
    refine st2 _ ?_
    show Steps _ _ _ (T2.setTop (mkF m 3 #[vI p0, vI p1, vI p2, .unset, .unset, .unset, .unset, .unset, .unset] [(.ref b2)])) _
    refine XS.dup X2.here hx rfl (hb hby at_3) rfl rfl ?_
    refine st4.trans ?_
    show Steps _ _ _ (T4.setTop (mkF m 7 #[vI p0, vI p1, vI p2, .unset, .unset, .unset, .unset, .unset, .unset] [(.ref b2)])) _
    refine XS.astoreN X4.here hx rfl (hb hby at_7) rfl rfl (l' := #[vI p0, vI p1, vI p2, vA b2, .unset, .unset, .unset, .unset, .unset]) rfl ?_
    refine st5 _ ?_
    show Steps _ _ _ (T5.setTop (mkF m 11 #[vI p0, vI p1, vI p2, vA b2, .unset, .unset, .unset, .unset, .unset] [(.ref b5)])) _
    refine XS.dup X5.here hx rfl (hb hby at_11) rfl rfl ?_
    refine st7.trans ?_
    show Steps _ _ _ (T7.setTop (mkF m 15 #[vI p0, vI p1, vI p2, vA b2, .unset, .unset, .unset, .unset, .unset] [(.ref b5)])) _
    refine XS.astore X7.here hx rfl (hb hby at_15) rfl rfl (l' := #[vI p0, vI p1, vI p2, vA b2, vA b5, .unset, .unset, .unset, .unset]) rfl ?_
    refine st12 _ ?_
    show Steps _ _ _ (T12.setTop (mkF m 20 #[vI p0, vI p1, vI p2, vA b2, vA b5, .unset, .unset, .unset, .unset] [(.ref b12)])) _
    refine XS.dup X12.here hx rfl (hb hby at_20) rfl rfl ?_
    refine st14.trans ?_
    show Steps _ _ _ (T14.setTop (mkF m 24 #[vI p0, vI p1, vI p2, vA b2, vA b5, .unset, .unset, .unset, .unset] [(.ref b12)])) _
    refine XS.astore X14.here hx rfl (hb hby at_24) rfl rfl (l' := #[vI p0, vI p1, vI p2, vA b2, vA b5, vA b12, .unset, .unset, .unset]) rfl ?_
    refine XS.aloadN X14.here hx rfl (hb hby at_26) rfl rfl ?_
    refine XS.iconst X14.here hx rfl (hb hby at_27) ?_
    refine st19 _ ?_
    show Steps _ _ _ (T19.setTop (mkF m 31 #[vI p0, vI p1, vI p2, vA b2, vA b5, vA b12, .unset, .unset, .unset] [(.int 1)])) _
    refine XS.istore X19.here hx rfl (hb hby at_31) rfl (l' := #[vI p0, vI p1, vI p2, vA b2, vA b5, vA b12, vI 1, .unset, .unset]) rfl ?_
    refine XS.iconst X19.here hx rfl (hb hby at_33) ?_
    refine XS.istore X19.here hx rfl (hb hby at_34) rfl (l' := #[vI p0, vI p1, vI p2, vA b2, vA b5, vA b12, vI 1, vI 1, .unset]) rfl ?_
    refine XS.iloadN X19.here hx rfl (hb hby at_36) rfl ?_
    refine XS.aload X19.here hx rfl (hb hby at_37) rfl rfl ?_
    refine XS.aload X19.here hx rfl (hb hby at_39) rfl rfl ?_
    refine XS.iload X19.here hx rfl (hb hby at_41) rfl ?_
    refine st28 _ ?_
    show Steps _ _ _ (T28.setTop (mkF m 46 #[vI p0, vI p1, vI p2, vA b2, vA b5, vA b12, vI 1, vI 1, .unset] [.null])) _
    refine XS.astore X28.here hx rfl (hb hby at_46) rfl rfl (l' := #[vI p0, vI p1, vI p2, vA b2, vA b5, vA b12, vI 1, vI 1, .val .null]) rfl ?_
    refine XS.aloadN X28.here hx rfl (hb hby at_48) rfl rfl ?_
    refine XS.aload X28.here hx rfl (hb hby at_49) rfl rfl ?_
    refine st29.trans ?_
    show Steps _ _ _ (T29.setTop (mkF m 54 #[vI p0, vI p1, vI p2, vA b2, vA b5, vA b12, vI 1, vI 1, .val .null] [])) _
    refine XS.iload X29.here hx rfl (hb hby at_54) rfl ?_
    refine XS.ifNo X29.here hx rfl (hb hby at_56) rfl ((if0 _ _).trans (feq ((by decide) : ¬ ((1 : Int32) = (0 : Int32)))).1) ?_
    refine XS.aload X29.here hx rfl (hb hby at_59) rfl rfl ?_
    refine XS.ifnonnullNo X29.here hx rfl (hb hby at_61) rfl ?_
    refine XS.iconst X29.here hx rfl (hb hby at_64) ?_
    refine XS.goto X29.here hx rfl (pc0 := 65) (pc' := 69) rfl (hb hby at_65) (by decide) (by decide) ?_
    refine XS.istore X29.here hx rfl (hb hby at_69) rfl (l' := #[vI p0, vI p1, vI p2, vA b2, vA b5, vA b12, vI 1, vI 1, .val .null]) rfl ?_
    refine XS.iload X29.here hx rfl (hb hby at_71) rfl ?_
    refine XS.ifNo X29.here hx rfl (hb hby at_73) rfl ((if0 _ _).trans (feq ((by decide) : ¬ ((1 : Int32) = (0 : Int32)))).1) ?_
    refine XS.aloadN X29.here hx rfl (hb hby at_76) rfl rfl ?_
    refine XS.iload X29.here hx rfl (hb hby at_77) rfl ?_
    refine st32 _ ?_
    show Steps _ _ _ (T32.setTop (mkF m 82 #[vI p0, vI p1, vI p2, vA b2, vA b5, vA b12, vI 1, vI 1, .val .null] [(.int 1)])) _
    refine XS.ifNo X32.here hx rfl (hb hby at_82) rfl ((if0 _ _).trans (feq ((by decide) : ¬ ((1 : Int32) = (0 : Int32)))).1) ?_
    refine XS.iconst X32.here hx rfl (hb hby at_85) ?_
    refine XS.goto X32.here hx rfl (pc0 := 86) (pc' := 90) rfl (hb hby at_86) (by decide) (by decide) ?_
    refine XS.istore X32.here hx rfl (hb hby at_90) rfl (l' := #[vI p0, vI p1, vI p2, vA b2, vA b5, vA b12, vI 1, vI 1, .val .null]) rfl ?_
    refine XS.iloadN X32.here hx rfl (hb hby at_92) rfl ?_
    refine XS.aload X32.here hx rfl (hb hby at_93) rfl rfl ?_
    refine XS.aload X32.here hx rfl (hb hby at_95) rfl rfl ?_
    refine XS.iload X32.here hx rfl (hb hby at_97) rfl ?_
    refine st33 _ ?_
    show Steps _ _ _ (T33.setTop (mkF m 102 #[vI p0, vI p1, vI p2, vA b2, vA b5, vA b12, vI 1, vI 1, .val .null] [.null])) _
    refine XS.astore X33.here hx rfl (hb hby at_102) rfl rfl (l' := #[vI p0, vI p1, vI p2, vA b2, vA b5, vA b12, vI 1, vI 1, .val .null]) rfl ?_
    refine XS.aloadN X33.here hx rfl (hb hby at_104) rfl rfl ?_
    refine XS.aload X33.here hx rfl (hb hby at_105) rfl rfl ?_
    refine st34.trans ?_
    show Steps _ _ _ (T34.setTop (mkF m 110 #[vI p0, vI p1, vI p2, vA b2, vA b5, vA b12, vI 1, vI 1, .val .null] [])) _
    refine XS.iload X34.here hx rfl (hb hby at_110) rfl ?_
    refine XS.ifNo X34.here hx rfl (hb hby at_112) rfl ((if0 _ _).trans (feq ((by decide) : ¬ ((1 : Int32) = (0 : Int32)))).1) ?_
    refine XS.aload X34.here hx rfl (hb hby at_115) rfl rfl ?_
    refine XS.ifnonnullNo X34.here hx rfl (hb hby at_117) rfl ?_
    refine XS.iconst X34.here hx rfl (hb hby at_120) ?_
    refine XS.goto X34.here hx rfl (pc0 := 121) (pc' := 125) rfl (hb hby at_121) (by decide) (by decide) ?_
    refine XS.istore X34.here hx rfl (hb hby at_125) rfl (l' := #[vI p0, vI p1, vI p2, vA b2, vA b5, vA b12, vI 1, vI 1, .val .null]) rfl ?_
    refine XS.iload X34.here hx rfl (hb hby at_127) rfl ?_
    refine XS.ifNo X34.here hx rfl (hb hby at_129) rfl ((if0 _ _).trans (feq ((by decide) : ¬ ((1 : Int32) = (0 : Int32)))).1) ?_
    refine XS.aloadN X34.here hx rfl (hb hby at_132) rfl rfl ?_
    refine XS.iload X34.here hx rfl (hb hby at_133) rfl ?_
    refine st37 _ ?_
    show Steps _ _ _ (T37.setTop (mkF m 138 #[vI p0, vI p1, vI p2, vA b2, vA b5, vA b12, vI 1, vI 1, .val .null] [(.int 1)])) _
    refine XS.ifNo X37.here hx rfl (hb hby at_138) rfl ((if0 _ _).trans (feq ((by decide) : ¬ ((1 : Int32) = (0 : Int32)))).1) ?_
    refine XS.iconst X37.here hx rfl (hb hby at_141) ?_
    refine XS.goto X37.here hx rfl (pc0 := 142) (pc' := 146) rfl (hb hby at_142) (by decide) (by decide) ?_
    refine XS.istore X37.here hx rfl (hb hby at_146) rfl (l' := #[vI p0, vI p1, vI p2, vA b2, vA b5, vA b12, vI 1, vI 1, .val .null]) rfl ?_
    refine XS.iloadN X37.here hx rfl (hb hby at_148) rfl ?_
    refine XS.aload X37.here hx rfl (hb hby at_149) rfl rfl ?_
    refine XS.aload X37.here hx rfl (hb hby at_151) rfl rfl ?_
    refine XS.iload X37.here hx rfl (hb hby at_153) rfl ?_
    refine st38 _ ?_
    show Steps _ _ _ (T38.setTop (mkF m 158 #[vI p0, vI p1, vI p2, vA b2, vA b5, vA b12, vI 1, vI 1, .val .null] [.null])) _
    refine XS.astore X38.here hx rfl (hb hby at_158) rfl rfl (l' := #[vI p0, vI p1, vI p2, vA b2, vA b5, vA b12, vI 1, vI 1, .val .null]) rfl ?_
    refine XS.aloadN X38.here hx rfl (hb hby at_160) rfl rfl ?_
    refine XS.aload X38.here hx rfl (hb hby at_161) rfl rfl ?_
    refine st39.trans ?_
    show Steps _ _ _ (T39.setTop (mkF m 166 #[vI p0, vI p1, vI p2, vA b2, vA b5, vA b12, vI 1, vI 1, .val .null] [])) _
    refine XS.iload X39.here hx rfl (hb hby at_166) rfl ?_
    refine XS.ifNo X39.here hx rfl (hb hby at_168) rfl ((if0 _ _).trans (feq ((by decide) : ¬ ((1 : Int32) = (0 : Int32)))).1) ?_
    refine XS.aload X39.here hx rfl (hb hby at_171) rfl rfl ?_
    refine XS.ifnonnullNo X39.here hx rfl (hb hby at_173) rfl ?_
    refine XS.iconst X39.here hx rfl (hb hby at_176) ?_
    refine XS.goto X39.here hx rfl (pc0 := 177) (pc' := 181) rfl (hb hby at_177) (by decide) (by decide) ?_
    refine XS.istore X39.here hx rfl (hb hby at_181) rfl (l' := #[vI p0, vI p1, vI p2, vA b2, vA b5, vA b12, vI 1, vI 1, .val .null]) rfl ?_
    refine XS.iload X39.here hx rfl (hb hby at_183) rfl ?_
    refine XS.ifNo X39.here hx rfl (hb hby at_185) rfl ((if0 _ _).trans (feq ((by decide) : ¬ ((1 : Int32) = (0 : Int32)))).1) ?_
    refine XS.aloadN X39.here hx rfl (hb hby at_188) rfl rfl ?_
    refine XS.iload X39.here hx rfl (hb hby at_189) rfl ?_
    refine st42 _ ?_
    show Steps _ _ _ (T42.setTop (mkF m 194 #[vI p0, vI p1, vI p2, vA b2, vA b5, vA b12, vI 1, vI 1, .val .null] [(.int 1)])) _
    refine XS.ifNo X42.here hx rfl (hb hby at_194) rfl ((if0 _ _).trans (feq ((by decide) : ¬ ((1 : Int32) = (0 : Int32)))).1) ?_
    refine XS.iconst X42.here hx rfl (hb hby at_197) ?_
    refine XS.goto X42.here hx rfl (pc0 := 198) (pc' := 202) rfl (hb hby at_198) (by decide) (by decide) ?_
    refine XS.istore X42.here hx rfl (hb hby at_202) rfl (l' := #[vI p0, vI p1, vI p2, vA b2, vA b5, vA b12, vI 1, vI 1, .val .null]) rfl ?_
    refine XS.iload X42.here hx rfl (hb hby at_204) rfl ?_
    exact retN X42 hx (t := .boolean) Bd.returns (by simp) (hb hby at_206) hr
  · show Q_law Z p0 p1 p2 su sn mo h0 n0 _ T42.heap _
    rw [(Kq42 : T42.heap = T39.heap)]
    exact ⟨rfl, N42⟩
theorem rm_law_nn1 (l : Launch) (Z : State) (a0 : Array Value) (hw : HW Z a0) (ws : List Jvm.Cond) (p0 : Int32) (p1 : Int32) (p2 : Int32) (su : Addr) (sn : Addr) (mo : Addr) (h0 : Heap) (n0 : Nat) (Z0 : n0 ≤ h0.size) (P0 : Old Z n0 h0) (P1 : sta0 Z (.ref su)) (P2 : sta1 Z (.ref sn)) (P3 : Mi Z "[Ljava/lang/Object;" mo) (P4 : Exa Z h0 sn "java/util/Collections$EmptyList") (hst : l.stackTraces = true) (q0 : (p0 &&& (3 : Int32)) = (0 : Int32)) (q1 : (p1 &&& (3 : Int32)) = (0 : Int32)) (q2 : ¬ ((p2 &&& (3 : Int32)) = (0 : Int32))) (w2 : ¬ ((p2 &&& (3 : Int32)) = (2 : Int32))) :
    MetFree l x (head1 (Jvm.Cond.code x code maxLocals ret :: ws) room_1) (fun as' U => as' = #[(.int p0), (.int p1), (.int p2)] ∧ Z.Warmed39 U.vm ∧ U.heap = h0) (fun _ _ bl s _ => s.vm.MethodsKnown ∧ s.vm.FramesKnown bl) (fun _ U o U' => ∃ v L, o = .returned v ∧ Q_law Z p0 p1 p2 su sn mo h0 n0 v U'.heap L ∧ ReturnedEndW U o U' L room_1.cells room_1.slots) := by
  refine MetFree.of_bodySF (plainFor_of_name pn_12) hisR ?_
  intro p e s m args below meth c s₁ Bd hml0 hP hK
  obtain ⟨hTK, hBl⟩ := hK
  obtain ⟨rfl, hZ, hh⟩ := hP
  have hx := Bd.exec
  have hby := Bd.bytes
  have hml : c.maxLocals = 9 := hml0
  have hown : (s.setVm s.vm).vm.findClass "com/example/maat/maat/FailuresIsEmptyPinLaw" = some m.cls := findClass_of_methodNamed Bd.named
  have hnm := (name_of_methodNamed Bd.named Bd.method).1
  have X0 : Stand p l e room_1 (s.setVm s.vm) m #[(.int p0), (.int p1), (.int p2)] below meth c s₁ [] 0 0 := Stand.of_body Bd
  have e0 : s₁.heap = h0 := by rw [← hh, Bd.state]; rfl
  have N0 := Fr.nil n0
  have hZ : Z.Warmed39 (s.setVm s.vm).vm := hZ
  have hS0 : s.Since s.vm h0.size := (State.WarmedH.refl s).since _
  have hk0 : h0.size ≤ h0.size := Nat.le_refl _
  have lt1 := own_l P4.lt
  obtain ⟨T2, h2, X2, e2, E2, A2, D2, -, st2⟩ := newO X0 hx hZ hown (w_0 hw) (w_1 hw) (w_2 hw) e0 (g := (mkF m 0 #[vI p0, vI p1, vI p2, .unset, .unset, .unset, .unset, .unset, .unset] [])) rfl (hb hby at_0) (by decide) (by decide)
  obtain ⟨b2, g2⟩ : ∃ z, z = h0.size := ⟨_, rfl⟩
  rw [← g2] at A2 D2 st2
  have z2 := E2.1
  have lt3 := own_l A2.lt
  have F2_70 : Fld Z h2 b2 "com/example/maat/maat/Failures" "first" "Ljava/lang/Throwable;" .null := D2 (Or.inl (w_70 hw)) (ty := (.object "java/lang/Throwable")) (by decide)
  obtain ⟨_, _, ⟨T4, L4, k4, n4⟩, -, X4, ⟨Lc4, hQ4, l4, y4, z4⟩, st4⟩ := X2.specialBack hx (y := m_23) rfl hown (mvT hZ (w_3 hw)) (mvT hZ (w_4 hw)) (mvT hZ (w_5 hw)) (by decide) (backOf (W := 1) (rm_fin l Z a0 hw [] b2 h2 n0 (by omega) ) hZ (w_5 hw) (w_2 hw) (by decide) (by decide)) (g := (mkF m 4 #[vI p0, vI p1, vI p2, .unset, .unset, .unset, .unset, .unset, .unset] [(.ref b2), (.ref b2)])) rfl (by rw [hml]; rfl) (Steps.refl _) (a := b2) (argsL := []) (rest := [(.ref b2)]) (lenOf pd_0 rfl) rfl (Nat.le_of_eq rfl) (hb hby at_4) (fun _ _ => ⟨rfl, e2, (by decide : 1 + 0 ≤ _), (by decide : 1 + 0 ≤ _)⟩)
  dsimp only [Pt.U, Pt.locs, Pt.cells, Pt.slots] at X4 l4 y4 z4 st4 hQ4
  rw [l4, y4, z4] at X4
  obtain ⟨rfl, Nq4, Kq4⟩ := hQ4
  have N4 := Fr.app N0 Nq4
  obtain ⟨T5, h5, X5, e5, E5, A5, D5, U5, st5⟩ := newO X4 hx hZ hown (w_9 hw) (w_10 hw) (w_11 hw) Kq4 (g := (mkF m 8 #[vI p0, vI p1, vI p2, vA b2, .unset, .unset, .unset, .unset, .unset] [])) rfl (hb hby at_8) (by decide) (by decide)
  obtain ⟨b5, g5⟩ : ∃ z, z = h2.size := ⟨_, rfl⟩
  rw [← g5] at A5 D5 U5 st5
  have z5 := E5.1
  have lt6 := own_l A5.lt
  replace U5 : Unt h5 b5 := U5
  have F5_29 : Fld Z h5 b5 "java/lang/Throwable" "cause" "Ljava/lang/Throwable;" .null := D5 (Or.inl (w_29 hw)) (ty := (.object "java/lang/Throwable")) (by decide)
  have F5_32 : Fld Z h5 b5 "java/lang/Throwable" "stackTrace" "[Ljava/lang/StackTraceElement;" .null := D5 (Or.inl (w_32 hw)) (ty := (.array (.object "java/lang/StackTraceElement"))) (by decide)
  have F5_35 : Fld Z h5 b5 "java/lang/Throwable" "suppressedExceptions" "Ljava/util/List;" .null := D5 (Or.inl (w_35 hw)) (ty := (.object "java/util/List")) (by decide)
  have F5_56 : Fld Z h5 b5 "java/lang/Throwable" "detailMessage" "Ljava/lang/String;" .null := D5 (Or.inl (w_56 hw)) (ty := (.object "java/lang/String")) (by decide)
  have F5_57 : Fld Z h5 b5 "java/lang/Throwable" "backtrace" "Ljava/lang/Object;" .null := D5 (Or.inl (w_57 hw)) (ty := (.object "java/lang/Object")) (by decide)
  have F5_58 : Fld Z h5 b5 "java/lang/Throwable" "depth" "I" (.int 0) := D5 (Or.inl (w_58 hw)) (ty := .int) (by decide)
  have f8 := P0.ext E2
  have f9 := f8.ext E5
  obtain ⟨_, _, ⟨T7, L7, k7, n7⟩, -, X7, ⟨Lc7, hQ7, l7, y7, z7⟩, st7⟩ := X5.specialBack hx (y := m_5) rfl hown (mvT hZ (w_12 hw)) (mvT hZ (w_13 hw)) (mvT hZ (w_14 hw)) (by decide) (backOfKL (W := 1) (rm_rti l Z a0 hw [] b5 su sn h5 n0 (by omega) f9 P1 P2 A5 U5 F5_29 F5_32 F5_35 F5_57 F5_58 (by omega) hst) hZ (w_14 hw) (w_11 hw) (by decide) (by decide) hTK hBl) (g := (mkF m 12 #[vI p0, vI p1, vI p2, vA b2, .unset, .unset, .unset, .unset, .unset] [(.ref b5), (.ref b5)])) rfl (by rw [hml]; rfl) (Steps.refl _) (a := b5) (argsL := []) (rest := [(.ref b5)]) (lenOf pd_0 rfl) rfl (Nat.le_of_eq rfl) (hb hby at_12) (fun _ _ => ⟨rfl, e5, (by decide : 2 + 1 ≤ _), (by decide : 7 + 2752 ≤ _)⟩)
  dsimp only [Pt.U, Pt.locs, Pt.cells, Pt.slots] at X7 l7 y7 z7 st7 hQ7
  rw [l7, y7, z7] at X7
  obtain ⟨rfl, Nq7, Kq7, r7_0, r7_1, r7_2⟩ := hQ7
  have N7 := Fr.app N4 Nq7
  have z7' := Kq7.1
  have lt10 := own_l r7_0.lt
  have lt11 := own_l r7_2.lt
  obtain ⟨T12, h12, X12, e12, E12, A12, D12, U12, st12⟩ := newO X7 hx hZ hown (w_9 hw) (w_10 hw) (w_11 hw) rfl (g := (mkF m 17 #[vI p0, vI p1, vI p2, vA b2, vA b5, .unset, .unset, .unset, .unset] [])) rfl (hb hby at_17) (by decide) (by decide)
  obtain ⟨b12, g12⟩ : ∃ z, z = T7.heap.size := ⟨_, rfl⟩
  rw [← g12] at A12 D12 U12 st12
  have z12 := E12.1
  have lt13 := own_l A12.lt
  replace U12 : Unt h12 b12 := U12
  have F12_29 : Fld Z h12 b12 "java/lang/Throwable" "cause" "Ljava/lang/Throwable;" .null := D12 (Or.inl (w_29 hw)) (ty := (.object "java/lang/Throwable")) (by decide)
  have F12_32 : Fld Z h12 b12 "java/lang/Throwable" "stackTrace" "[Ljava/lang/StackTraceElement;" .null := D12 (Or.inl (w_32 hw)) (ty := (.array (.object "java/lang/StackTraceElement"))) (by decide)
  have F12_35 : Fld Z h12 b12 "java/lang/Throwable" "suppressedExceptions" "Ljava/util/List;" .null := D12 (Or.inl (w_35 hw)) (ty := (.object "java/util/List")) (by decide)
  have F12_56 : Fld Z h12 b12 "java/lang/Throwable" "detailMessage" "Ljava/lang/String;" .null := D12 (Or.inl (w_56 hw)) (ty := (.object "java/lang/String")) (by decide)
  have F12_57 : Fld Z h12 b12 "java/lang/Throwable" "backtrace" "Ljava/lang/Object;" .null := D12 (Or.inl (w_57 hw)) (ty := (.object "java/lang/Object")) (by decide)
  have F12_58 : Fld Z h12 b12 "java/lang/Throwable" "depth" "I" (.int 0) := D12 (Or.inl (w_58 hw)) (ty := .int) (by decide)
  have f15 := f9.keep Kq7 (allS (by omega) all0)
  have f16 := f15.ext E12
  obtain ⟨_, _, ⟨T14, L14, k14, n14⟩, -, X14, ⟨Lc14, hQ14, l14, y14, z14⟩, st14⟩ := X12.specialBack hx (y := m_5) rfl hown (mvT hZ (w_12 hw)) (mvT hZ (w_13 hw)) (mvT hZ (w_14 hw)) (by decide) (backOfKL (W := 1) (rm_rti l Z a0 hw [] b12 su sn h12 n0 (by omega) f16 P1 P2 A12 U12 F12_29 F12_32 F12_35 F12_57 F12_58 (by omega) hst) hZ (w_14 hw) (w_11 hw) (by decide) (by decide) hTK hBl) (g := (mkF m 21 #[vI p0, vI p1, vI p2, vA b2, vA b5, .unset, .unset, .unset, .unset] [(.ref b12), (.ref b12)])) rfl (by rw [hml]; rfl) (Steps.refl _) (a := b12) (argsL := []) (rest := [(.ref b12)]) (lenOf pd_0 rfl) rfl (Nat.le_of_eq rfl) (hb hby at_21) (fun _ _ => ⟨rfl, e12, (by decide : 4 + 1 ≤ _), (by decide : 2765 + 2752 ≤ _)⟩)
  dsimp only [Pt.U, Pt.locs, Pt.cells, Pt.slots] at X14 l14 y14 z14 st14 hQ14
  rw [l14, y14, z14] at X14
  obtain ⟨rfl, Nq14, Kq14, r14_0, r14_1, r14_2⟩ := hQ14
  have N14 := Fr.app N7 Nq14
  have z14' := Kq14.1
  have lt17 := own_l r14_0.lt
  have lt18 := own_l r14_2.lt
  have f20 := A2.ext E5
  have f21 := f20.keep Kq7
  have f22 := f21.ext E12
  have f23 := f22.keep Kq14
  have f24 := F2_70.ext E5
  have f25 := f24.keep Kq7 (ninS (own_ne (by omega)) nin0)
  have f26 := f25.ext E12
  have f27 := f26.keep Kq14 (ninS (own_ne (by omega)) nin0)
  obtain ⟨_, _, ⟨T19, L19, k19, n19⟩, -, X19, ⟨Lc19, hQ19, l19, y19, z19⟩, st19⟩ := Jvm.LawKit.callS X14 hx (y := m_26) hown (mvT hZ (w_60 hw)) (mvT hZ (w_61 hw)) (mvT hZ (w_62 hw)) (mvT hZ (w_63 hw)) (by decide) (backOf (W := 0) (rm_agn l Z a0 hw [] b2 T14.heap n0 (by omega) f23 f27) hZ (w_63 hw) (w_62 hw) (by decide) (by decide)) (g := (mkF m 28 #[vI p0, vI p1, vI p2, vA b2, vA b5, vA b12, .unset, .unset, .unset] [(.int 1), (.ref b2)])) rfl (by rw [hml]; rfl) (argsL := [(.ref b2), (.int 1)]) (rest := []) (lenOf pd_14 rfl) rfl (Nat.le_of_eq rfl) (hb hby at_28) (fun _ _ => ⟨rfl, rfl, (by decide : 5 + 0 ≤ _), (by decide : 5517 + 0 ≤ _)⟩)
  dsimp only [Pt.U, Pt.locs, Pt.cells, Pt.slots] at X19 l19 y19 z19 st19 hQ19
  rw [l19, y19, z19] at X19
  obtain ⟨rfl, Nq19, Kq19⟩ := hQ19
  have N19 := Fr.app N14 Nq19
  obtain ⟨_, _, ⟨T28, L28, k28, n28⟩, -, X28, ⟨Lc28, hQ28, l28, y28, z28⟩, st28⟩ := Jvm.LawKit.callS X19 hx (y := m_28) hown (mvT hZ (w_76 hw)) (mvT hZ (w_77 hw)) (mvT hZ (w_62 hw)) (mvT hZ (w_78 hw)) (by decide) (backOf (W := 0) (rm_pkn l Z a0 hw [] p0 b5 b12 T14.heap n0 (by omega) q0) hZ (w_78 hw) (w_62 hw) (by decide) (by decide)) (g := (mkF m 43 #[vI p0, vI p1, vI p2, vA b2, vA b5, vA b12, vI 1, vI 1, .unset] [(.int 1), (.ref b12), (.ref b5), (.int p0)])) rfl (by rw [hml]; rfl) (argsL := [(.int p0), (.ref b5), (.ref b12), (.int 1)]) (rest := []) (lenOf pd_15 rfl) rfl (Nat.le_of_eq rfl) (hb hby at_43) (fun _ _ => ⟨rfl, Kq19, (by decide : 5 + 0 ≤ _), (by decide : 5517 + 0 ≤ _)⟩)
  dsimp only [Pt.U, Pt.locs, Pt.cells, Pt.slots] at X28 l28 y28 z28 st28 hQ28
  rw [l28, y28, z28] at X28
  obtain ⟨rfl, Nq28, Kq28⟩ := hQ28
  have N28 := Fr.app N19 Nq28
  obtain ⟨cq29, kq29, qa29, qb29, qc29⟩ := isOf hZ Kq28 f23
  obtain ⟨_, _, ⟨T29, L29, k29, n29⟩, -, X29, ⟨Lc29, hQ29, l29, y29, z29⟩, st29⟩ := X28.virtualBack hx (y := m_27) (z := m_27) hown (mvT hZ (w_79 hw)) (mvT hZ (w_80 hw)) (notFace_of_selects (args := #[]) (mvT hZ (w_82 hw))) (mvT hZ (w_82 hw)) (mvT hZ (w_81 hw)) (by decide) (backOf (W := 0) (rm_fan l Z a0 hw [] b2 T14.heap n0 (by omega) f23 f27 (by omega)) hZ (w_83 hw) (w_2 hw) (by decide) (by decide)) qa29 qc29 (g := (mkF m 51 #[vI p0, vI p1, vI p2, vA b2, vA b5, vA b12, vI 1, vI 1, .val .null] [.null, (.ref b2)])) rfl (by rw [hml]; rfl) (Steps.refl _) (argsL := [.null]) (rest := []) (lenOf pd_13 rfl) rfl (Nat.le_of_eq rfl) (hb hby at_51) (fun _ _ => ⟨rfl, Kq28, (by decide : 5 + 0 ≤ _), (by decide : 5517 + 0 ≤ _)⟩)
  dsimp only [Pt.U, Pt.locs, Pt.cells, Pt.slots] at X29 l29 y29 z29 st29 hQ29
  rw [l29, y29, z29] at X29
  obtain ⟨rfl, Nq29, Kq29, r29_0, r29_1⟩ := hQ29
  have N29 := Fr.app N28 Nq29
  have z29' := Kq29.1
  have lt30 := own_l r29_0.lt
  have lt31 := own_l r29_1.lt
  obtain ⟨_, _, ⟨T32, L32, k32, n32⟩, -, X32, ⟨Lc32, hQ32, l32, y32, z32⟩, st32⟩ := Jvm.LawKit.callS X29 hx (y := m_26) hown (mvT hZ (w_60 hw)) (mvT hZ (w_61 hw)) (mvT hZ (w_62 hw)) (mvT hZ (w_63 hw)) (by decide) (backOf (W := 0) (rm_agn l Z a0 hw [] b2 T29.heap n0 (by omega) r29_0 r29_1) hZ (w_63 hw) (w_62 hw) (by decide) (by decide)) (g := (mkF m 79 #[vI p0, vI p1, vI p2, vA b2, vA b5, vA b12, vI 1, vI 1, .val .null] [(.int 1), (.ref b2)])) rfl (by rw [hml]; rfl) (argsL := [(.ref b2), (.int 1)]) (rest := []) (lenOf pd_14 rfl) rfl (Nat.le_of_eq rfl) (hb hby at_79) (fun _ _ => ⟨rfl, rfl, (by decide : 5 + 0 ≤ _), (by decide : 5517 + 0 ≤ _)⟩)
  dsimp only [Pt.U, Pt.locs, Pt.cells, Pt.slots] at X32 l32 y32 z32 st32 hQ32
  rw [l32, y32, z32] at X32
  obtain ⟨rfl, Nq32, Kq32⟩ := hQ32
  have N32 := Fr.app N29 Nq32
  obtain ⟨_, _, ⟨T33, L33, k33, n33⟩, -, X33, ⟨Lc33, hQ33, l33, y33, z33⟩, st33⟩ := Jvm.LawKit.callS X32 hx (y := m_28) hown (mvT hZ (w_76 hw)) (mvT hZ (w_77 hw)) (mvT hZ (w_62 hw)) (mvT hZ (w_78 hw)) (by decide) (backOf (W := 0) (rm_pkn l Z a0 hw [] p1 b5 b12 T29.heap n0 (by omega) q1) hZ (w_78 hw) (w_62 hw) (by decide) (by decide)) (g := (mkF m 99 #[vI p0, vI p1, vI p2, vA b2, vA b5, vA b12, vI 1, vI 1, .val .null] [(.int 1), (.ref b12), (.ref b5), (.int p1)])) rfl (by rw [hml]; rfl) (argsL := [(.int p1), (.ref b5), (.ref b12), (.int 1)]) (rest := []) (lenOf pd_15 rfl) rfl (Nat.le_of_eq rfl) (hb hby at_99) (fun _ _ => ⟨rfl, Kq32, (by decide : 5 + 0 ≤ _), (by decide : 5517 + 0 ≤ _)⟩)
  dsimp only [Pt.U, Pt.locs, Pt.cells, Pt.slots] at X33 l33 y33 z33 st33 hQ33
  rw [l33, y33, z33] at X33
  obtain ⟨rfl, Nq33, Kq33⟩ := hQ33
  have N33 := Fr.app N32 Nq33
  obtain ⟨cq34, kq34, qa34, qb34, qc34⟩ := isOf hZ Kq33 r29_0
  obtain ⟨_, _, ⟨T34, L34, k34, n34⟩, -, X34, ⟨Lc34, hQ34, l34, y34, z34⟩, st34⟩ := X33.virtualBack hx (y := m_27) (z := m_27) hown (mvT hZ (w_79 hw)) (mvT hZ (w_80 hw)) (notFace_of_selects (args := #[]) (mvT hZ (w_82 hw))) (mvT hZ (w_82 hw)) (mvT hZ (w_81 hw)) (by decide) (backOf (W := 0) (rm_fan l Z a0 hw [] b2 T29.heap n0 (by omega) r29_0 r29_1 (by omega)) hZ (w_83 hw) (w_2 hw) (by decide) (by decide)) qa34 qc34 (g := (mkF m 107 #[vI p0, vI p1, vI p2, vA b2, vA b5, vA b12, vI 1, vI 1, .val .null] [.null, (.ref b2)])) rfl (by rw [hml]; rfl) (Steps.refl _) (argsL := [.null]) (rest := []) (lenOf pd_13 rfl) rfl (Nat.le_of_eq rfl) (hb hby at_107) (fun _ _ => ⟨rfl, Kq33, (by decide : 5 + 0 ≤ _), (by decide : 5517 + 0 ≤ _)⟩)
  dsimp only [Pt.U, Pt.locs, Pt.cells, Pt.slots] at X34 l34 y34 z34 st34 hQ34
  rw [l34, y34, z34] at X34
  obtain ⟨rfl, Nq34, Kq34, r34_0, r34_1⟩ := hQ34
  have N34 := Fr.app N33 Nq34
  have z34' := Kq34.1
  have lt35 := own_l r34_0.lt
  have lt36 := own_l r34_1.lt
  obtain ⟨_, _, ⟨T37, L37, k37, n37⟩, -, X37, ⟨Lc37, hQ37, l37, y37, z37⟩, st37⟩ := Jvm.LawKit.callS X34 hx (y := m_26) hown (mvT hZ (w_60 hw)) (mvT hZ (w_61 hw)) (mvT hZ (w_62 hw)) (mvT hZ (w_63 hw)) (by decide) (backOf (W := 0) (rm_agn l Z a0 hw [] b2 T34.heap n0 (by omega) r34_0 r34_1) hZ (w_63 hw) (w_62 hw) (by decide) (by decide)) (g := (mkF m 135 #[vI p0, vI p1, vI p2, vA b2, vA b5, vA b12, vI 1, vI 1, .val .null] [(.int 1), (.ref b2)])) rfl (by rw [hml]; rfl) (argsL := [(.ref b2), (.int 1)]) (rest := []) (lenOf pd_14 rfl) rfl (Nat.le_of_eq rfl) (hb hby at_135) (fun _ _ => ⟨rfl, rfl, (by decide : 5 + 0 ≤ _), (by decide : 5517 + 0 ≤ _)⟩)
  dsimp only [Pt.U, Pt.locs, Pt.cells, Pt.slots] at X37 l37 y37 z37 st37 hQ37
  rw [l37, y37, z37] at X37
  obtain ⟨rfl, Nq37, Kq37⟩ := hQ37
  have N37 := Fr.app N34 Nq37
  obtain ⟨_, _, ⟨T38, L38, k38, n38⟩, -, X38, ⟨Lc38, hQ38, l38, y38, z38⟩, st38⟩ := Jvm.LawKit.callS X37 hx (y := m_28) hown (mvT hZ (w_76 hw)) (mvT hZ (w_77 hw)) (mvT hZ (w_62 hw)) (mvT hZ (w_78 hw)) (by decide) (backOf (W := 0) (rm_pk1e l Z a0 hw [] p2 b5 b12 T34.heap n0 (by omega) q2 w2) hZ (w_78 hw) (w_62 hw) (by decide) (by decide)) (g := (mkF m 155 #[vI p0, vI p1, vI p2, vA b2, vA b5, vA b12, vI 1, vI 1, .val .null] [(.int 1), (.ref b12), (.ref b5), (.int p2)])) rfl (by rw [hml]; rfl) (argsL := [(.int p2), (.ref b5), (.ref b12), (.int 1)]) (rest := []) (lenOf pd_15 rfl) rfl (Nat.le_of_eq rfl) (hb hby at_155) (fun _ _ => ⟨rfl, Kq37, (by decide : 5 + 0 ≤ _), (by decide : 5517 + 0 ≤ _)⟩)
  dsimp only [Pt.U, Pt.locs, Pt.cells, Pt.slots] at X38 l38 y38 z38 st38 hQ38
  rw [l38, y38, z38] at X38
  obtain ⟨rfl, Nq38, Kq38⟩ := hQ38
  have N38 := Fr.app N37 Nq38
  obtain ⟨cq39, kq39, qa39, qb39, qc39⟩ := isOf hZ Kq38 r34_0
  obtain ⟨_, _, ⟨T39, L39, k39, n39⟩, -, X39, ⟨Lc39, hQ39, l39, y39, z39⟩, st39⟩ := X38.virtualBack hx (y := m_27) (z := m_27) hown (mvT hZ (w_79 hw)) (mvT hZ (w_80 hw)) (notFace_of_selects (args := #[]) (mvT hZ (w_82 hw))) (mvT hZ (w_82 hw)) (mvT hZ (w_81 hw)) (by decide) (backOf (W := 0) (rm_far l Z a0 hw [] b2 b5 T34.heap n0 (by omega) r34_0 r34_1 (by omega)) hZ (w_83 hw) (w_2 hw) (by decide) (by decide)) qa39 qc39 (g := (mkF m 163 #[vI p0, vI p1, vI p2, vA b2, vA b5, vA b12, vI 1, vI 1, vA b5] [(.ref b5), (.ref b2)])) rfl (by rw [hml]; rfl) (Steps.refl _) (argsL := [(.ref b5)]) (rest := []) (lenOf pd_13 rfl) rfl (Nat.le_of_eq rfl) (hb hby at_163) (fun _ _ => ⟨rfl, Kq38, (by decide : 5 + 0 ≤ _), (by decide : 5517 + 0 ≤ _)⟩)
  dsimp only [Pt.U, Pt.locs, Pt.cells, Pt.slots] at X39 l39 y39 z39 st39 hQ39
  rw [l39, y39, z39] at X39
  obtain ⟨rfl, Nq39, Kq39, r39_0, r39_1⟩ := hQ39
  have N39 := Fr.app N38 Nq39
  have z39' := Kq39.1
  have lt40 := own_l r39_0.lt
  have lt41 := own_l r39_1.lt
  obtain ⟨_, _, ⟨T42, L42, k42, n42⟩, -, X42, ⟨Lc42, hQ42, l42, y42, z42⟩, st42⟩ := Jvm.LawKit.callS X39 hx (y := m_26) hown (mvT hZ (w_60 hw)) (mvT hZ (w_61 hw)) (mvT hZ (w_62 hw)) (mvT hZ (w_63 hw)) (by decide) (backOf (W := 0) (rm_agr l Z a0 hw [] b2 b5 T39.heap n0 (by omega) r39_0 r39_1) hZ (w_63 hw) (w_62 hw) (by decide) (by decide)) (g := (mkF m 191 #[vI p0, vI p1, vI p2, vA b2, vA b5, vA b12, vI 1, vI 0, vA b5] [(.int 0), (.ref b2)])) rfl (by rw [hml]; rfl) (argsL := [(.ref b2), (.int 0)]) (rest := []) (lenOf pd_14 rfl) rfl (Nat.le_of_eq rfl) (hb hby at_191) (fun _ _ => ⟨rfl, rfl, (by decide : 5 + 0 ≤ _), (by decide : 5517 + 0 ≤ _)⟩)
  dsimp only [Pt.U, Pt.locs, Pt.cells, Pt.slots] at X42 l42 y42 z42 st42 hQ42
  rw [l42, y42, z42] at X42
  obtain ⟨rfl, Nq42, Kq42⟩ := hQ42
  have N42 := Fr.app N39 Nq42
  obtain ⟨fs, hr, hrun, hended, hEnd⟩ := X42.leaveW hS0 (by first | omega | (rw [(Kq42 : T42.heap = T39.heap)]; omega)) (v := some (.int 1)) (fun h => by rw [Bd.returns] at h; cases h)
  refine ⟨_, _, castTop (ef_10 m p0 p1 p2) ?_, hrun, hended, _, _, rfl, ?_, hEnd.1, hEnd.2.1, hEnd.2.2.1, hEnd.2.2.2.mono (by decide) (by decide)⟩
  · show Steps _ _ _ (s₁.setTop (mkF m 0 #[vI p0, vI p1, vI p2, .unset, .unset, .unset, .unset, .unset, .unset] [])) _
    refine st2 _ ?_
    show Steps _ _ _ (T2.setTop (mkF m 3 #[vI p0, vI p1, vI p2, .unset, .unset, .unset, .unset, .unset, .unset] [(.ref b2)])) _
    refine XS.dup X2.here hx rfl (hb hby at_3) rfl rfl ?_
    refine st4.trans ?_
    show Steps _ _ _ (T4.setTop (mkF m 7 #[vI p0, vI p1, vI p2, .unset, .unset, .unset, .unset, .unset, .unset] [(.ref b2)])) _
    refine XS.astoreN X4.here hx rfl (hb hby at_7) rfl rfl (l' := #[vI p0, vI p1, vI p2, vA b2, .unset, .unset, .unset, .unset, .unset]) rfl ?_
    refine st5 _ ?_
    show Steps _ _ _ (T5.setTop (mkF m 11 #[vI p0, vI p1, vI p2, vA b2, .unset, .unset, .unset, .unset, .unset] [(.ref b5)])) _
    refine XS.dup X5.here hx rfl (hb hby at_11) rfl rfl ?_
    refine st7.trans ?_
    show Steps _ _ _ (T7.setTop (mkF m 15 #[vI p0, vI p1, vI p2, vA b2, .unset, .unset, .unset, .unset, .unset] [(.ref b5)])) _
    refine XS.astore X7.here hx rfl (hb hby at_15) rfl rfl (l' := #[vI p0, vI p1, vI p2, vA b2, vA b5, .unset, .unset, .unset, .unset]) rfl ?_
    refine st12 _ ?_
    show Steps _ _ _ (T12.setTop (mkF m 20 #[vI p0, vI p1, vI p2, vA b2, vA b5, .unset, .unset, .unset, .unset] [(.ref b12)])) _
    refine XS.dup X12.here hx rfl (hb hby at_20) rfl rfl ?_
    refine st14.trans ?_
    show Steps _ _ _ (T14.setTop (mkF m 24 #[vI p0, vI p1, vI p2, vA b2, vA b5, .unset, .unset, .unset, .unset] [(.ref b12)])) _
    refine XS.astore X14.here hx rfl (hb hby at_24) rfl rfl (l' := #[vI p0, vI p1, vI p2, vA b2, vA b5, vA b12, .unset, .unset, .unset]) rfl ?_
    refine XS.aloadN X14.here hx rfl (hb hby at_26) rfl rfl ?_
    refine XS.iconst X14.here hx rfl (hb hby at_27) ?_
    refine st19 _ ?_
    show Steps _ _ _ (T19.setTop (mkF m 31 #[vI p0, vI p1, vI p2, vA b2, vA b5, vA b12, .unset, .unset, .unset] [(.int 1)])) _
    refine XS.istore X19.here hx rfl (hb hby at_31) rfl (l' := #[vI p0, vI p1, vI p2, vA b2, vA b5, vA b12, vI 1, .unset, .unset]) rfl ?_
    refine XS.iconst X19.here hx rfl (hb hby at_33) ?_
    refine XS.istore X19.here hx rfl (hb hby at_34) rfl (l' := #[vI p0, vI p1, vI p2, vA b2, vA b5, vA b12, vI 1, vI 1, .unset]) rfl ?_
    refine XS.iloadN X19.here hx rfl (hb hby at_36) rfl ?_
    refine XS.aload X19.here hx rfl (hb hby at_37) rfl rfl ?_
    refine XS.aload X19.here hx rfl (hb hby at_39) rfl rfl ?_
    refine XS.iload X19.here hx rfl (hb hby at_41) rfl ?_
    refine st28 _ ?_
    show Steps _ _ _ (T28.setTop (mkF m 46 #[vI p0, vI p1, vI p2, vA b2, vA b5, vA b12, vI 1, vI 1, .unset] [.null])) _
    refine XS.astore X28.here hx rfl (hb hby at_46) rfl rfl (l' := #[vI p0, vI p1, vI p2, vA b2, vA b5, vA b12, vI 1, vI 1, .val .null]) rfl ?_
    refine XS.aloadN X28.here hx rfl (hb hby at_48) rfl rfl ?_
    refine XS.aload X28.here hx rfl (hb hby at_49) rfl rfl ?_
    refine st29.trans ?_
    show Steps _ _ _ (T29.setTop (mkF m 54 #[vI p0, vI p1, vI p2, vA b2, vA b5, vA b12, vI 1, vI 1, .val .null] [])) _
    refine XS.iload X29.here hx rfl (hb hby at_54) rfl ?_
    refine XS.ifNo X29.here hx rfl (hb hby at_56) rfl ((if0 _ _).trans (feq ((by decide) : ¬ ((1 : Int32) = (0 : Int32)))).1) ?_
    refine XS.aload X29.here hx rfl (hb hby at_59) rfl rfl ?_
    refine XS.ifnonnullNo X29.here hx rfl (hb hby at_61) rfl ?_
    refine XS.iconst X29.here hx rfl (hb hby at_64) ?_
    refine XS.goto X29.here hx rfl (pc0 := 65) (pc' := 69) rfl (hb hby at_65) (by decide) (by decide) ?_
    refine XS.istore X29.here hx rfl (hb hby at_69) rfl (l' := #[vI p0, vI p1, vI p2, vA b2, vA b5, vA b12, vI 1, vI 1, .val .null]) rfl ?_
    refine XS.iload X29.here hx rfl (hb hby at_71) rfl ?_
    refine XS.ifNo X29.here hx rfl (hb hby at_73) rfl ((if0 _ _).trans (feq ((by decide) : ¬ ((1 : Int32) = (0 : Int32)))).1) ?_
    refine XS.aloadN X29.here hx rfl (hb hby at_76) rfl rfl ?_
    refine XS.iload X29.here hx rfl (hb hby at_77) rfl ?_
    refine st32 _ ?_
    show Steps _ _ _ (T32.setTop (mkF m 82 #[vI p0, vI p1, vI p2, vA b2, vA b5, vA b12, vI 1, vI 1, .val .null] [(.int 1)])) _
    refine XS.ifNo X32.here hx rfl (hb hby at_82) rfl ((if0 _ _).trans (feq ((by decide) : ¬ ((1 : Int32) = (0 : Int32)))).1) ?_
    refine XS.iconst X32.here hx rfl (hb hby at_85) ?_
    refine XS.goto X32.here hx rfl (pc0 := 86) (pc' := 90) rfl (hb hby at_86) (by decide) (by decide) ?_
    refine XS.istore X32.here hx rfl (hb hby at_90) rfl (l' := #[vI p0, vI p1, vI p2, vA b2, vA b5, vA b12, vI 1, vI 1, .val .null]) rfl ?_
    refine XS.iloadN X32.here hx rfl (hb hby at_92) rfl ?_
    refine XS.aload X32.here hx rfl (hb hby at_93) rfl rfl ?_
    refine XS.aload X32.here hx rfl (hb hby at_95) rfl rfl ?_
    refine XS.iload X32.here hx rfl (hb hby at_97) rfl ?_
    refine st33 _ ?_
    show Steps _ _ _ (T33.setTop (mkF m 102 #[vI p0, vI p1, vI p2, vA b2, vA b5, vA b12, vI 1, vI 1, .val .null] [.null])) _
    refine XS.astore X33.here hx rfl (hb hby at_102) rfl rfl (l' := #[vI p0, vI p1, vI p2, vA b2, vA b5, vA b12, vI 1, vI 1, .val .null]) rfl ?_
    refine XS.aloadN X33.here hx rfl (hb hby at_104) rfl rfl ?_
    refine XS.aload X33.here hx rfl (hb hby at_105) rfl rfl ?_
    refine st34.trans ?_
    show Steps _ _ _ (T34.setTop (mkF m 110 #[vI p0, vI p1, vI p2, vA b2, vA b5, vA b12, vI 1, vI 1, .val .null] [])) _
    refine XS.iload X34.here hx rfl (hb hby at_110) rfl ?_
    refine XS.ifNo X34.here hx rfl (hb hby at_112) rfl ((if0 _ _).trans (feq ((by decide) : ¬ ((1 : Int32) = (0 : Int32)))).1) ?_
    refine XS.aload X34.here hx rfl (hb hby at_115) rfl rfl ?_
    refine XS.ifnonnullNo X34.here hx rfl (hb hby at_117) rfl ?_
    refine XS.iconst X34.here hx rfl (hb hby at_120) ?_
    refine XS.goto X34.here hx rfl (pc0 := 121) (pc' := 125) rfl (hb hby at_121) (by decide) (by decide) ?_
    refine XS.istore X34.here hx rfl (hb hby at_125) rfl (l' := #[vI p0, vI p1, vI p2, vA b2, vA b5, vA b12, vI 1, vI 1, .val .null]) rfl ?_
    refine XS.iload X34.here hx rfl (hb hby at_127) rfl ?_
    refine XS.ifNo X34.here hx rfl (hb hby at_129) rfl ((if0 _ _).trans (feq ((by decide) : ¬ ((1 : Int32) = (0 : Int32)))).1) ?_
    refine XS.aloadN X34.here hx rfl (hb hby at_132) rfl rfl ?_
    refine XS.iload X34.here hx rfl (hb hby at_133) rfl ?_
    refine st37 _ ?_
    show Steps _ _ _ (T37.setTop (mkF m 138 #[vI p0, vI p1, vI p2, vA b2, vA b5, vA b12, vI 1, vI 1, .val .null] [(.int 1)])) _
    refine XS.ifNo X37.here hx rfl (hb hby at_138) rfl ((if0 _ _).trans (feq ((by decide) : ¬ ((1 : Int32) = (0 : Int32)))).1) ?_
    refine XS.iconst X37.here hx rfl (hb hby at_141) ?_
    refine XS.goto X37.here hx rfl (pc0 := 142) (pc' := 146) rfl (hb hby at_142) (by decide) (by decide) ?_
    refine XS.istore X37.here hx rfl (hb hby at_146) rfl (l' := #[vI p0, vI p1, vI p2, vA b2, vA b5, vA b12, vI 1, vI 1, .val .null]) rfl ?_
    refine XS.iloadN X37.here hx rfl (hb hby at_148) rfl ?_
    refine XS.aload X37.here hx rfl (hb hby at_149) rfl rfl ?_
    refine XS.aload X37.here hx rfl (hb hby at_151) rfl rfl ?_
    refine XS.iload X37.here hx rfl (hb hby at_153) rfl ?_
    refine st38 _ ?_
    show Steps _ _ _ (T38.setTop (mkF m 158 #[vI p0, vI p1, vI p2, vA b2, vA b5, vA b12, vI 1, vI 1, .val .null] [(.ref b5)])) _
    refine XS.astore X38.here hx rfl (hb hby at_158) rfl rfl (l' := #[vI p0, vI p1, vI p2, vA b2, vA b5, vA b12, vI 1, vI 1, vA b5]) rfl ?_
    refine XS.aloadN X38.here hx rfl (hb hby at_160) rfl rfl ?_
    refine XS.aload X38.here hx rfl (hb hby at_161) rfl rfl ?_
    refine st39.trans ?_
    show Steps _ _ _ (T39.setTop (mkF m 166 #[vI p0, vI p1, vI p2, vA b2, vA b5, vA b12, vI 1, vI 1, vA b5] [])) _
    refine XS.iload X39.here hx rfl (hb hby at_166) rfl ?_
    refine XS.ifNo X39.here hx rfl (hb hby at_168) rfl ((if0 _ _).trans (feq ((by decide) : ¬ ((1 : Int32) = (0 : Int32)))).1) ?_
    refine XS.aload X39.here hx rfl (hb hby at_171) rfl rfl ?_
    refine XS.ifnonnullYes X39.here hx rfl (pc0 := 173) (pc' := 180) rfl (hb hby at_173) rfl (by decide) (by decide) ?_
    refine XS.iconst X39.here hx rfl (hb hby at_180) ?_
    refine XS.istore X39.here hx rfl (hb hby at_181) rfl (l' := #[vI p0, vI p1, vI p2, vA b2, vA b5, vA b12, vI 1, vI 0, vA b5]) rfl ?_
    refine XS.iload X39.here hx rfl (hb hby at_183) rfl ?_
    refine XS.ifNo X39.here hx rfl (hb hby at_185) rfl ((if0 _ _).trans (feq ((by decide) : ¬ ((1 : Int32) = (0 : Int32)))).1) ?_
    refine XS.aloadN X39.here hx rfl (hb hby at_188) rfl rfl ?_
    refine XS.iload X39.here hx rfl (hb hby at_189) rfl ?_
    refine st42 _ ?_
    show Steps _ _ _ (T42.setTop (mkF m 194 #[vI p0, vI p1, vI p2, vA b2, vA b5, vA b12, vI 1, vI 0, vA b5] [(.int 1)])) _
    refine XS.ifNo X42.here hx rfl (hb hby at_194) rfl ((if0 _ _).trans (feq ((by decide) : ¬ ((1 : Int32) = (0 : Int32)))).1) ?_
    refine XS.iconst X42.here hx rfl (hb hby at_197) ?_
    refine XS.goto X42.here hx rfl (pc0 := 198) (pc' := 202) rfl (hb hby at_198) (by decide) (by decide) ?_
    refine XS.istore X42.here hx rfl (hb hby at_202) rfl (l' := #[vI p0, vI p1, vI p2, vA b2, vA b5, vA b12, vI 1, vI 0, vA b5]) rfl ?_
    refine XS.iload X42.here hx rfl (hb hby at_204) rfl ?_
    exact retN X42 hx (t := .boolean) Bd.returns (by simp) (hb hby at_206) hr
  · show Q_law Z p0 p1 p2 su sn mo h0 n0 _ T42.heap _
    rw [(Kq42 : T42.heap = T39.heap)]
    exact ⟨rfl, N42⟩
theorem rm_law_nn2 (l : Launch) (Z : State) (a0 : Array Value) (hw : HW Z a0) (ws : List Jvm.Cond) (p0 : Int32) (p1 : Int32) (p2 : Int32) (su : Addr) (sn : Addr) (mo : Addr) (h0 : Heap) (n0 : Nat) (Z0 : n0 ≤ h0.size) (P0 : Old Z n0 h0) (P1 : sta0 Z (.ref su)) (P2 : sta1 Z (.ref sn)) (P3 : Mi Z "[Ljava/lang/Object;" mo) (P4 : Exa Z h0 sn "java/util/Collections$EmptyList") (hst : l.stackTraces = true) (q0 : (p0 &&& (3 : Int32)) = (0 : Int32)) (q1 : (p1 &&& (3 : Int32)) = (0 : Int32)) (q2 : ¬ ((p2 &&& (3 : Int32)) = (0 : Int32))) (w2 : (p2 &&& (3 : Int32)) = (2 : Int32)) :
    MetFree l x (head1 (Jvm.Cond.code x code maxLocals ret :: ws) room_1) (fun as' U => as' = #[(.int p0), (.int p1), (.int p2)] ∧ Z.Warmed39 U.vm ∧ U.heap = h0) (fun _ _ bl s _ => s.vm.MethodsKnown ∧ s.vm.FramesKnown bl) (fun _ U o U' => ∃ v L, o = .returned v ∧ Q_law Z p0 p1 p2 su sn mo h0 n0 v U'.heap L ∧ ReturnedEndW U o U' L room_1.cells room_1.slots) := by
  refine MetFree.of_bodySF (plainFor_of_name pn_12) hisR ?_
  intro p e s m args below meth c s₁ Bd hml0 hP hK
  obtain ⟨hTK, hBl⟩ := hK
  obtain ⟨rfl, hZ, hh⟩ := hP
  have hx := Bd.exec
  have hby := Bd.bytes
  have hml : c.maxLocals = 9 := hml0
  have hown : (s.setVm s.vm).vm.findClass "com/example/maat/maat/FailuresIsEmptyPinLaw" = some m.cls := findClass_of_methodNamed Bd.named
  have hnm := (name_of_methodNamed Bd.named Bd.method).1
  have X0 : Stand p l e room_1 (s.setVm s.vm) m #[(.int p0), (.int p1), (.int p2)] below meth c s₁ [] 0 0 := Stand.of_body Bd
  have e0 : s₁.heap = h0 := by rw [← hh, Bd.state]; rfl
  have N0 := Fr.nil n0
  have hZ : Z.Warmed39 (s.setVm s.vm).vm := hZ
  have hS0 : s.Since s.vm h0.size := (State.WarmedH.refl s).since _
  have hk0 : h0.size ≤ h0.size := Nat.le_refl _
  have lt1 := own_l P4.lt
  obtain ⟨T2, h2, X2, e2, E2, A2, D2, -, st2⟩ := newO X0 hx hZ hown (w_0 hw) (w_1 hw) (w_2 hw) e0 (g := (mkF m 0 #[vI p0, vI p1, vI p2, .unset, .unset, .unset, .unset, .unset, .unset] [])) rfl (hb hby at_0) (by decide) (by decide)
  obtain ⟨b2, g2⟩ : ∃ z, z = h0.size := ⟨_, rfl⟩
  rw [← g2] at A2 D2 st2
  have z2 := E2.1
  have lt3 := own_l A2.lt
  have F2_70 : Fld Z h2 b2 "com/example/maat/maat/Failures" "first" "Ljava/lang/Throwable;" .null := D2 (Or.inl (w_70 hw)) (ty := (.object "java/lang/Throwable")) (by decide)
  obtain ⟨_, _, ⟨T4, L4, k4, n4⟩, -, X4, ⟨Lc4, hQ4, l4, y4, z4⟩, st4⟩ := X2.specialBack hx (y := m_23) rfl hown (mvT hZ (w_3 hw)) (mvT hZ (w_4 hw)) (mvT hZ (w_5 hw)) (by decide) (backOf (W := 1) (rm_fin l Z a0 hw [] b2 h2 n0 (by omega) ) hZ (w_5 hw) (w_2 hw) (by decide) (by decide)) (g := (mkF m 4 #[vI p0, vI p1, vI p2, .unset, .unset, .unset, .unset, .unset, .unset] [(.ref b2), (.ref b2)])) rfl (by rw [hml]; rfl) (Steps.refl _) (a := b2) (argsL := []) (rest := [(.ref b2)]) (lenOf pd_0 rfl) rfl (Nat.le_of_eq rfl) (hb hby at_4) (fun _ _ => ⟨rfl, e2, (by decide : 1 + 0 ≤ _), (by decide : 1 + 0 ≤ _)⟩)
  dsimp only [Pt.U, Pt.locs, Pt.cells, Pt.slots] at X4 l4 y4 z4 st4 hQ4
  rw [l4, y4, z4] at X4
  obtain ⟨rfl, Nq4, Kq4⟩ := hQ4
  have N4 := Fr.app N0 Nq4
  obtain ⟨T5, h5, X5, e5, E5, A5, D5, U5, st5⟩ := newO X4 hx hZ hown (w_9 hw) (w_10 hw) (w_11 hw) Kq4 (g := (mkF m 8 #[vI p0, vI p1, vI p2, vA b2, .unset, .unset, .unset, .unset, .unset] [])) rfl (hb hby at_8) (by decide) (by decide)
  obtain ⟨b5, g5⟩ : ∃ z, z = h2.size := ⟨_, rfl⟩
  rw [← g5] at A5 D5 U5 st5
  have z5 := E5.1
  have lt6 := own_l A5.lt
  replace U5 : Unt h5 b5 := U5
  have F5_29 : Fld Z h5 b5 "java/lang/Throwable" "cause" "Ljava/lang/Throwable;" .null := D5 (Or.inl (w_29 hw)) (ty := (.object "java/lang/Throwable")) (by decide)
  have F5_32 : Fld Z h5 b5 "java/lang/Throwable" "stackTrace" "[Ljava/lang/StackTraceElement;" .null := D5 (Or.inl (w_32 hw)) (ty := (.array (.object "java/lang/StackTraceElement"))) (by decide)
  have F5_35 : Fld Z h5 b5 "java/lang/Throwable" "suppressedExceptions" "Ljava/util/List;" .null := D5 (Or.inl (w_35 hw)) (ty := (.object "java/util/List")) (by decide)
  have F5_56 : Fld Z h5 b5 "java/lang/Throwable" "detailMessage" "Ljava/lang/String;" .null := D5 (Or.inl (w_56 hw)) (ty := (.object "java/lang/String")) (by decide)
  have F5_57 : Fld Z h5 b5 "java/lang/Throwable" "backtrace" "Ljava/lang/Object;" .null := D5 (Or.inl (w_57 hw)) (ty := (.object "java/lang/Object")) (by decide)
  have F5_58 : Fld Z h5 b5 "java/lang/Throwable" "depth" "I" (.int 0) := D5 (Or.inl (w_58 hw)) (ty := .int) (by decide)
  have f8 := P0.ext E2
  have f9 := f8.ext E5
  obtain ⟨_, _, ⟨T7, L7, k7, n7⟩, -, X7, ⟨Lc7, hQ7, l7, y7, z7⟩, st7⟩ := X5.specialBack hx (y := m_5) rfl hown (mvT hZ (w_12 hw)) (mvT hZ (w_13 hw)) (mvT hZ (w_14 hw)) (by decide) (backOfKL (W := 1) (rm_rti l Z a0 hw [] b5 su sn h5 n0 (by omega) f9 P1 P2 A5 U5 F5_29 F5_32 F5_35 F5_57 F5_58 (by omega) hst) hZ (w_14 hw) (w_11 hw) (by decide) (by decide) hTK hBl) (g := (mkF m 12 #[vI p0, vI p1, vI p2, vA b2, .unset, .unset, .unset, .unset, .unset] [(.ref b5), (.ref b5)])) rfl (by rw [hml]; rfl) (Steps.refl _) (a := b5) (argsL := []) (rest := [(.ref b5)]) (lenOf pd_0 rfl) rfl (Nat.le_of_eq rfl) (hb hby at_12) (fun _ _ => ⟨rfl, e5, (by decide : 2 + 1 ≤ _), (by decide : 7 + 2752 ≤ _)⟩)
  dsimp only [Pt.U, Pt.locs, Pt.cells, Pt.slots] at X7 l7 y7 z7 st7 hQ7
  rw [l7, y7, z7] at X7
  obtain ⟨rfl, Nq7, Kq7, r7_0, r7_1, r7_2⟩ := hQ7
  have N7 := Fr.app N4 Nq7
  have z7' := Kq7.1
  have lt10 := own_l r7_0.lt
  have lt11 := own_l r7_2.lt
  obtain ⟨T12, h12, X12, e12, E12, A12, D12, U12, st12⟩ := newO X7 hx hZ hown (w_9 hw) (w_10 hw) (w_11 hw) rfl (g := (mkF m 17 #[vI p0, vI p1, vI p2, vA b2, vA b5, .unset, .unset, .unset, .unset] [])) rfl (hb hby at_17) (by decide) (by decide)
  obtain ⟨b12, g12⟩ : ∃ z, z = T7.heap.size := ⟨_, rfl⟩
  rw [← g12] at A12 D12 U12 st12
  have z12 := E12.1
  have lt13 := own_l A12.lt
  replace U12 : Unt h12 b12 := U12
  have F12_29 : Fld Z h12 b12 "java/lang/Throwable" "cause" "Ljava/lang/Throwable;" .null := D12 (Or.inl (w_29 hw)) (ty := (.object "java/lang/Throwable")) (by decide)
  have F12_32 : Fld Z h12 b12 "java/lang/Throwable" "stackTrace" "[Ljava/lang/StackTraceElement;" .null := D12 (Or.inl (w_32 hw)) (ty := (.array (.object "java/lang/StackTraceElement"))) (by decide)
  have F12_35 : Fld Z h12 b12 "java/lang/Throwable" "suppressedExceptions" "Ljava/util/List;" .null := D12 (Or.inl (w_35 hw)) (ty := (.object "java/util/List")) (by decide)
  have F12_56 : Fld Z h12 b12 "java/lang/Throwable" "detailMessage" "Ljava/lang/String;" .null := D12 (Or.inl (w_56 hw)) (ty := (.object "java/lang/String")) (by decide)
  have F12_57 : Fld Z h12 b12 "java/lang/Throwable" "backtrace" "Ljava/lang/Object;" .null := D12 (Or.inl (w_57 hw)) (ty := (.object "java/lang/Object")) (by decide)
  have F12_58 : Fld Z h12 b12 "java/lang/Throwable" "depth" "I" (.int 0) := D12 (Or.inl (w_58 hw)) (ty := .int) (by decide)
  have f15 := f9.keep Kq7 (allS (by omega) all0)
  have f16 := f15.ext E12
  obtain ⟨_, _, ⟨T14, L14, k14, n14⟩, -, X14, ⟨Lc14, hQ14, l14, y14, z14⟩, st14⟩ := X12.specialBack hx (y := m_5) rfl hown (mvT hZ (w_12 hw)) (mvT hZ (w_13 hw)) (mvT hZ (w_14 hw)) (by decide) (backOfKL (W := 1) (rm_rti l Z a0 hw [] b12 su sn h12 n0 (by omega) f16 P1 P2 A12 U12 F12_29 F12_32 F12_35 F12_57 F12_58 (by omega) hst) hZ (w_14 hw) (w_11 hw) (by decide) (by decide) hTK hBl) (g := (mkF m 21 #[vI p0, vI p1, vI p2, vA b2, vA b5, .unset, .unset, .unset, .unset] [(.ref b12), (.ref b12)])) rfl (by rw [hml]; rfl) (Steps.refl _) (a := b12) (argsL := []) (rest := [(.ref b12)]) (lenOf pd_0 rfl) rfl (Nat.le_of_eq rfl) (hb hby at_21) (fun _ _ => ⟨rfl, e12, (by decide : 4 + 1 ≤ _), (by decide : 2765 + 2752 ≤ _)⟩)
  dsimp only [Pt.U, Pt.locs, Pt.cells, Pt.slots] at X14 l14 y14 z14 st14 hQ14
  rw [l14, y14, z14] at X14
  obtain ⟨rfl, Nq14, Kq14, r14_0, r14_1, r14_2⟩ := hQ14
  have N14 := Fr.app N7 Nq14
  have z14' := Kq14.1
  have lt17 := own_l r14_0.lt
  have lt18 := own_l r14_2.lt
  have f20 := A2.ext E5
  have f21 := f20.keep Kq7
  have f22 := f21.ext E12
  have f23 := f22.keep Kq14
  have f24 := F2_70.ext E5
  have f25 := f24.keep Kq7 (ninS (own_ne (by omega)) nin0)
  have f26 := f25.ext E12
  have f27 := f26.keep Kq14 (ninS (own_ne (by omega)) nin0)
  obtain ⟨_, _, ⟨T19, L19, k19, n19⟩, -, X19, ⟨Lc19, hQ19, l19, y19, z19⟩, st19⟩ := Jvm.LawKit.callS X14 hx (y := m_26) hown (mvT hZ (w_60 hw)) (mvT hZ (w_61 hw)) (mvT hZ (w_62 hw)) (mvT hZ (w_63 hw)) (by decide) (backOf (W := 0) (rm_agn l Z a0 hw [] b2 T14.heap n0 (by omega) f23 f27) hZ (w_63 hw) (w_62 hw) (by decide) (by decide)) (g := (mkF m 28 #[vI p0, vI p1, vI p2, vA b2, vA b5, vA b12, .unset, .unset, .unset] [(.int 1), (.ref b2)])) rfl (by rw [hml]; rfl) (argsL := [(.ref b2), (.int 1)]) (rest := []) (lenOf pd_14 rfl) rfl (Nat.le_of_eq rfl) (hb hby at_28) (fun _ _ => ⟨rfl, rfl, (by decide : 5 + 0 ≤ _), (by decide : 5517 + 0 ≤ _)⟩)
  dsimp only [Pt.U, Pt.locs, Pt.cells, Pt.slots] at X19 l19 y19 z19 st19 hQ19
  rw [l19, y19, z19] at X19
  obtain ⟨rfl, Nq19, Kq19⟩ := hQ19
  have N19 := Fr.app N14 Nq19
  obtain ⟨_, _, ⟨T28, L28, k28, n28⟩, -, X28, ⟨Lc28, hQ28, l28, y28, z28⟩, st28⟩ := Jvm.LawKit.callS X19 hx (y := m_28) hown (mvT hZ (w_76 hw)) (mvT hZ (w_77 hw)) (mvT hZ (w_62 hw)) (mvT hZ (w_78 hw)) (by decide) (backOf (W := 0) (rm_pkn l Z a0 hw [] p0 b5 b12 T14.heap n0 (by omega) q0) hZ (w_78 hw) (w_62 hw) (by decide) (by decide)) (g := (mkF m 43 #[vI p0, vI p1, vI p2, vA b2, vA b5, vA b12, vI 1, vI 1, .unset] [(.int 1), (.ref b12), (.ref b5), (.int p0)])) rfl (by rw [hml]; rfl) (argsL := [(.int p0), (.ref b5), (.ref b12), (.int 1)]) (rest := []) (lenOf pd_15 rfl) rfl (Nat.le_of_eq rfl) (hb hby at_43) (fun _ _ => ⟨rfl, Kq19, (by decide : 5 + 0 ≤ _), (by decide : 5517 + 0 ≤ _)⟩)
  dsimp only [Pt.U, Pt.locs, Pt.cells, Pt.slots] at X28 l28 y28 z28 st28 hQ28
  rw [l28, y28, z28] at X28
  obtain ⟨rfl, Nq28, Kq28⟩ := hQ28
  have N28 := Fr.app N19 Nq28
  obtain ⟨cq29, kq29, qa29, qb29, qc29⟩ := isOf hZ Kq28 f23
  obtain ⟨_, _, ⟨T29, L29, k29, n29⟩, -, X29, ⟨Lc29, hQ29, l29, y29, z29⟩, st29⟩ := X28.virtualBack hx (y := m_27) (z := m_27) hown (mvT hZ (w_79 hw)) (mvT hZ (w_80 hw)) (notFace_of_selects (args := #[]) (mvT hZ (w_82 hw))) (mvT hZ (w_82 hw)) (mvT hZ (w_81 hw)) (by decide) (backOf (W := 0) (rm_fan l Z a0 hw [] b2 T14.heap n0 (by omega) f23 f27 (by omega)) hZ (w_83 hw) (w_2 hw) (by decide) (by decide)) qa29 qc29 (g := (mkF m 51 #[vI p0, vI p1, vI p2, vA b2, vA b5, vA b12, vI 1, vI 1, .val .null] [.null, (.ref b2)])) rfl (by rw [hml]; rfl) (Steps.refl _) (argsL := [.null]) (rest := []) (lenOf pd_13 rfl) rfl (Nat.le_of_eq rfl) (hb hby at_51) (fun _ _ => ⟨rfl, Kq28, (by decide : 5 + 0 ≤ _), (by decide : 5517 + 0 ≤ _)⟩)
  dsimp only [Pt.U, Pt.locs, Pt.cells, Pt.slots] at X29 l29 y29 z29 st29 hQ29
  rw [l29, y29, z29] at X29
  obtain ⟨rfl, Nq29, Kq29, r29_0, r29_1⟩ := hQ29
  have N29 := Fr.app N28 Nq29
  have z29' := Kq29.1
  have lt30 := own_l r29_0.lt
  have lt31 := own_l r29_1.lt
  obtain ⟨_, _, ⟨T32, L32, k32, n32⟩, -, X32, ⟨Lc32, hQ32, l32, y32, z32⟩, st32⟩ := Jvm.LawKit.callS X29 hx (y := m_26) hown (mvT hZ (w_60 hw)) (mvT hZ (w_61 hw)) (mvT hZ (w_62 hw)) (mvT hZ (w_63 hw)) (by decide) (backOf (W := 0) (rm_agn l Z a0 hw [] b2 T29.heap n0 (by omega) r29_0 r29_1) hZ (w_63 hw) (w_62 hw) (by decide) (by decide)) (g := (mkF m 79 #[vI p0, vI p1, vI p2, vA b2, vA b5, vA b12, vI 1, vI 1, .val .null] [(.int 1), (.ref b2)])) rfl (by rw [hml]; rfl) (argsL := [(.ref b2), (.int 1)]) (rest := []) (lenOf pd_14 rfl) rfl (Nat.le_of_eq rfl) (hb hby at_79) (fun _ _ => ⟨rfl, rfl, (by decide : 5 + 0 ≤ _), (by decide : 5517 + 0 ≤ _)⟩)
  dsimp only [Pt.U, Pt.locs, Pt.cells, Pt.slots] at X32 l32 y32 z32 st32 hQ32
  rw [l32, y32, z32] at X32
  obtain ⟨rfl, Nq32, Kq32⟩ := hQ32
  have N32 := Fr.app N29 Nq32
  obtain ⟨_, _, ⟨T33, L33, k33, n33⟩, -, X33, ⟨Lc33, hQ33, l33, y33, z33⟩, st33⟩ := Jvm.LawKit.callS X32 hx (y := m_28) hown (mvT hZ (w_76 hw)) (mvT hZ (w_77 hw)) (mvT hZ (w_62 hw)) (mvT hZ (w_78 hw)) (by decide) (backOf (W := 0) (rm_pkn l Z a0 hw [] p1 b5 b12 T29.heap n0 (by omega) q1) hZ (w_78 hw) (w_62 hw) (by decide) (by decide)) (g := (mkF m 99 #[vI p0, vI p1, vI p2, vA b2, vA b5, vA b12, vI 1, vI 1, .val .null] [(.int 1), (.ref b12), (.ref b5), (.int p1)])) rfl (by rw [hml]; rfl) (argsL := [(.int p1), (.ref b5), (.ref b12), (.int 1)]) (rest := []) (lenOf pd_15 rfl) rfl (Nat.le_of_eq rfl) (hb hby at_99) (fun _ _ => ⟨rfl, Kq32, (by decide : 5 + 0 ≤ _), (by decide : 5517 + 0 ≤ _)⟩)
  dsimp only [Pt.U, Pt.locs, Pt.cells, Pt.slots] at X33 l33 y33 z33 st33 hQ33
  rw [l33, y33, z33] at X33
  obtain ⟨rfl, Nq33, Kq33⟩ := hQ33
  have N33 := Fr.app N32 Nq33
  obtain ⟨cq34, kq34, qa34, qb34, qc34⟩ := isOf hZ Kq33 r29_0
  obtain ⟨_, _, ⟨T34, L34, k34, n34⟩, -, X34, ⟨Lc34, hQ34, l34, y34, z34⟩, st34⟩ := X33.virtualBack hx (y := m_27) (z := m_27) hown (mvT hZ (w_79 hw)) (mvT hZ (w_80 hw)) (notFace_of_selects (args := #[]) (mvT hZ (w_82 hw))) (mvT hZ (w_82 hw)) (mvT hZ (w_81 hw)) (by decide) (backOf (W := 0) (rm_fan l Z a0 hw [] b2 T29.heap n0 (by omega) r29_0 r29_1 (by omega)) hZ (w_83 hw) (w_2 hw) (by decide) (by decide)) qa34 qc34 (g := (mkF m 107 #[vI p0, vI p1, vI p2, vA b2, vA b5, vA b12, vI 1, vI 1, .val .null] [.null, (.ref b2)])) rfl (by rw [hml]; rfl) (Steps.refl _) (argsL := [.null]) (rest := []) (lenOf pd_13 rfl) rfl (Nat.le_of_eq rfl) (hb hby at_107) (fun _ _ => ⟨rfl, Kq33, (by decide : 5 + 0 ≤ _), (by decide : 5517 + 0 ≤ _)⟩)
  dsimp only [Pt.U, Pt.locs, Pt.cells, Pt.slots] at X34 l34 y34 z34 st34 hQ34
  rw [l34, y34, z34] at X34
  obtain ⟨rfl, Nq34, Kq34, r34_0, r34_1⟩ := hQ34
  have N34 := Fr.app N33 Nq34
  have z34' := Kq34.1
  have lt35 := own_l r34_0.lt
  have lt36 := own_l r34_1.lt
  obtain ⟨_, _, ⟨T37, L37, k37, n37⟩, -, X37, ⟨Lc37, hQ37, l37, y37, z37⟩, st37⟩ := Jvm.LawKit.callS X34 hx (y := m_26) hown (mvT hZ (w_60 hw)) (mvT hZ (w_61 hw)) (mvT hZ (w_62 hw)) (mvT hZ (w_63 hw)) (by decide) (backOf (W := 0) (rm_agn l Z a0 hw [] b2 T34.heap n0 (by omega) r34_0 r34_1) hZ (w_63 hw) (w_62 hw) (by decide) (by decide)) (g := (mkF m 135 #[vI p0, vI p1, vI p2, vA b2, vA b5, vA b12, vI 1, vI 1, .val .null] [(.int 1), (.ref b2)])) rfl (by rw [hml]; rfl) (argsL := [(.ref b2), (.int 1)]) (rest := []) (lenOf pd_14 rfl) rfl (Nat.le_of_eq rfl) (hb hby at_135) (fun _ _ => ⟨rfl, rfl, (by decide : 5 + 0 ≤ _), (by decide : 5517 + 0 ≤ _)⟩)
  dsimp only [Pt.U, Pt.locs, Pt.cells, Pt.slots] at X37 l37 y37 z37 st37 hQ37
  rw [l37, y37, z37] at X37
  obtain ⟨rfl, Nq37, Kq37⟩ := hQ37
  have N37 := Fr.app N34 Nq37
  obtain ⟨_, _, ⟨T38, L38, k38, n38⟩, -, X38, ⟨Lc38, hQ38, l38, y38, z38⟩, st38⟩ := Jvm.LawKit.callS X37 hx (y := m_28) hown (mvT hZ (w_76 hw)) (mvT hZ (w_77 hw)) (mvT hZ (w_62 hw)) (mvT hZ (w_78 hw)) (by decide) (backOf (W := 0) (rm_pk2e l Z a0 hw [] p2 b5 b12 T34.heap n0 (by omega) q2 w2) hZ (w_78 hw) (w_62 hw) (by decide) (by decide)) (g := (mkF m 155 #[vI p0, vI p1, vI p2, vA b2, vA b5, vA b12, vI 1, vI 1, .val .null] [(.int 1), (.ref b12), (.ref b5), (.int p2)])) rfl (by rw [hml]; rfl) (argsL := [(.int p2), (.ref b5), (.ref b12), (.int 1)]) (rest := []) (lenOf pd_15 rfl) rfl (Nat.le_of_eq rfl) (hb hby at_155) (fun _ _ => ⟨rfl, Kq37, (by decide : 5 + 0 ≤ _), (by decide : 5517 + 0 ≤ _)⟩)
  dsimp only [Pt.U, Pt.locs, Pt.cells, Pt.slots] at X38 l38 y38 z38 st38 hQ38
  rw [l38, y38, z38] at X38
  obtain ⟨rfl, Nq38, Kq38⟩ := hQ38
  have N38 := Fr.app N37 Nq38
  obtain ⟨cq39, kq39, qa39, qb39, qc39⟩ := isOf hZ Kq38 r34_0
  obtain ⟨_, _, ⟨T39, L39, k39, n39⟩, -, X39, ⟨Lc39, hQ39, l39, y39, z39⟩, st39⟩ := X38.virtualBack hx (y := m_27) (z := m_27) hown (mvT hZ (w_79 hw)) (mvT hZ (w_80 hw)) (notFace_of_selects (args := #[]) (mvT hZ (w_82 hw))) (mvT hZ (w_82 hw)) (mvT hZ (w_81 hw)) (by decide) (backOf (W := 0) (rm_far l Z a0 hw [] b2 b12 T34.heap n0 (by omega) r34_0 r34_1 (by omega)) hZ (w_83 hw) (w_2 hw) (by decide) (by decide)) qa39 qc39 (g := (mkF m 163 #[vI p0, vI p1, vI p2, vA b2, vA b5, vA b12, vI 1, vI 1, vA b12] [(.ref b12), (.ref b2)])) rfl (by rw [hml]; rfl) (Steps.refl _) (argsL := [(.ref b12)]) (rest := []) (lenOf pd_13 rfl) rfl (Nat.le_of_eq rfl) (hb hby at_163) (fun _ _ => ⟨rfl, Kq38, (by decide : 5 + 0 ≤ _), (by decide : 5517 + 0 ≤ _)⟩)
  dsimp only [Pt.U, Pt.locs, Pt.cells, Pt.slots] at X39 l39 y39 z39 st39 hQ39
  rw [l39, y39, z39] at X39
  obtain ⟨rfl, Nq39, Kq39, r39_0, r39_1⟩ := hQ39
  have N39 := Fr.app N38 Nq39
  have z39' := Kq39.1
  have lt40 := own_l r39_0.lt
  have lt41 := own_l r39_1.lt
  obtain ⟨_, _, ⟨T42, L42, k42, n42⟩, -, X42, ⟨Lc42, hQ42, l42, y42, z42⟩, st42⟩ := Jvm.LawKit.callS X39 hx (y := m_26) hown (mvT hZ (w_60 hw)) (mvT hZ (w_61 hw)) (mvT hZ (w_62 hw)) (mvT hZ (w_63 hw)) (by decide) (backOf (W := 0) (rm_agr l Z a0 hw [] b2 b12 T39.heap n0 (by omega) r39_0 r39_1) hZ (w_63 hw) (w_62 hw) (by decide) (by decide)) (g := (mkF m 191 #[vI p0, vI p1, vI p2, vA b2, vA b5, vA b12, vI 1, vI 0, vA b12] [(.int 0), (.ref b2)])) rfl (by rw [hml]; rfl) (argsL := [(.ref b2), (.int 0)]) (rest := []) (lenOf pd_14 rfl) rfl (Nat.le_of_eq rfl) (hb hby at_191) (fun _ _ => ⟨rfl, rfl, (by decide : 5 + 0 ≤ _), (by decide : 5517 + 0 ≤ _)⟩)
  dsimp only [Pt.U, Pt.locs, Pt.cells, Pt.slots] at X42 l42 y42 z42 st42 hQ42
  rw [l42, y42, z42] at X42
  obtain ⟨rfl, Nq42, Kq42⟩ := hQ42
  have N42 := Fr.app N39 Nq42
  obtain ⟨fs, hr, hrun, hended, hEnd⟩ := X42.leaveW hS0 (by first | omega | (rw [(Kq42 : T42.heap = T39.heap)]; omega)) (v := some (.int 1)) (fun h => by rw [Bd.returns] at h; cases h)
  refine ⟨_, _, castTop (ef_10 m p0 p1 p2) ?_, hrun, hended, _, _, rfl, ?_, hEnd.1, hEnd.2.1, hEnd.2.2.1, hEnd.2.2.2.mono (by decide) (by decide)⟩
  · show Steps _ _ _ (s₁.setTop (mkF m 0 #[vI p0, vI p1, vI p2, .unset, .unset, .unset, .unset, .unset, .unset] [])) _
    refine st2 _ ?_
    show Steps _ _ _ (T2.setTop (mkF m 3 #[vI p0, vI p1, vI p2, .unset, .unset, .unset, .unset, .unset, .unset] [(.ref b2)])) _
    refine XS.dup X2.here hx rfl (hb hby at_3) rfl rfl ?_
    refine st4.trans ?_
    show Steps _ _ _ (T4.setTop (mkF m 7 #[vI p0, vI p1, vI p2, .unset, .unset, .unset, .unset, .unset, .unset] [(.ref b2)])) _
    refine XS.astoreN X4.here hx rfl (hb hby at_7) rfl rfl (l' := #[vI p0, vI p1, vI p2, vA b2, .unset, .unset, .unset, .unset, .unset]) rfl ?_
    refine st5 _ ?_
    show Steps _ _ _ (T5.setTop (mkF m 11 #[vI p0, vI p1, vI p2, vA b2, .unset, .unset, .unset, .unset, .unset] [(.ref b5)])) _
    refine XS.dup X5.here hx rfl (hb hby at_11) rfl rfl ?_
    refine st7.trans ?_
    show Steps _ _ _ (T7.setTop (mkF m 15 #[vI p0, vI p1, vI p2, vA b2, .unset, .unset, .unset, .unset, .unset] [(.ref b5)])) _
    refine XS.astore X7.here hx rfl (hb hby at_15) rfl rfl (l' := #[vI p0, vI p1, vI p2, vA b2, vA b5, .unset, .unset, .unset, .unset]) rfl ?_
    refine st12 _ ?_
    show Steps _ _ _ (T12.setTop (mkF m 20 #[vI p0, vI p1, vI p2, vA b2, vA b5, .unset, .unset, .unset, .unset] [(.ref b12)])) _
    refine XS.dup X12.here hx rfl (hb hby at_20) rfl rfl ?_
    refine st14.trans ?_
    show Steps _ _ _ (T14.setTop (mkF m 24 #[vI p0, vI p1, vI p2, vA b2, vA b5, .unset, .unset, .unset, .unset] [(.ref b12)])) _
    refine XS.astore X14.here hx rfl (hb hby at_24) rfl rfl (l' := #[vI p0, vI p1, vI p2, vA b2, vA b5, vA b12, .unset, .unset, .unset]) rfl ?_
    refine XS.aloadN X14.here hx rfl (hb hby at_26) rfl rfl ?_
    refine XS.iconst X14.here hx rfl (hb hby at_27) ?_
    refine st19 _ ?_
    show Steps _ _ _ (T19.setTop (mkF m 31 #[vI p0, vI p1, vI p2, vA b2, vA b5, vA b12, .unset, .unset, .unset] [(.int 1)])) _
    refine XS.istore X19.here hx rfl (hb hby at_31) rfl (l' := #[vI p0, vI p1, vI p2, vA b2, vA b5, vA b12, vI 1, .unset, .unset]) rfl ?_
    refine XS.iconst X19.here hx rfl (hb hby at_33) ?_
    refine XS.istore X19.here hx rfl (hb hby at_34) rfl (l' := #[vI p0, vI p1, vI p2, vA b2, vA b5, vA b12, vI 1, vI 1, .unset]) rfl ?_
    refine XS.iloadN X19.here hx rfl (hb hby at_36) rfl ?_
    refine XS.aload X19.here hx rfl (hb hby at_37) rfl rfl ?_
    refine XS.aload X19.here hx rfl (hb hby at_39) rfl rfl ?_
    refine XS.iload X19.here hx rfl (hb hby at_41) rfl ?_
    refine st28 _ ?_
    show Steps _ _ _ (T28.setTop (mkF m 46 #[vI p0, vI p1, vI p2, vA b2, vA b5, vA b12, vI 1, vI 1, .unset] [.null])) _
    refine XS.astore X28.here hx rfl (hb hby at_46) rfl rfl (l' := #[vI p0, vI p1, vI p2, vA b2, vA b5, vA b12, vI 1, vI 1, .val .null]) rfl ?_
    refine XS.aloadN X28.here hx rfl (hb hby at_48) rfl rfl ?_
    refine XS.aload X28.here hx rfl (hb hby at_49) rfl rfl ?_
    refine st29.trans ?_
    show Steps _ _ _ (T29.setTop (mkF m 54 #[vI p0, vI p1, vI p2, vA b2, vA b5, vA b12, vI 1, vI 1, .val .null] [])) _
    refine XS.iload X29.here hx rfl (hb hby at_54) rfl ?_
    refine XS.ifNo X29.here hx rfl (hb hby at_56) rfl ((if0 _ _).trans (feq ((by decide) : ¬ ((1 : Int32) = (0 : Int32)))).1) ?_
    refine XS.aload X29.here hx rfl (hb hby at_59) rfl rfl ?_
    refine XS.ifnonnullNo X29.here hx rfl (hb hby at_61) rfl ?_
    refine XS.iconst X29.here hx rfl (hb hby at_64) ?_
    refine XS.goto X29.here hx rfl (pc0 := 65) (pc' := 69) rfl (hb hby at_65) (by decide) (by decide) ?_
    refine XS.istore X29.here hx rfl (hb hby at_69) rfl (l' := #[vI p0, vI p1, vI p2, vA b2, vA b5, vA b12, vI 1, vI 1, .val .null]) rfl ?_
    refine XS.iload X29.here hx rfl (hb hby at_71) rfl ?_
    refine XS.ifNo X29.here hx rfl (hb hby at_73) rfl ((if0 _ _).trans (feq ((by decide) : ¬ ((1 : Int32) = (0 : Int32)))).1) ?_
    refine XS.aloadN X29.here hx rfl (hb hby at_76) rfl rfl ?_
    refine XS.iload X29.here hx rfl (hb hby at_77) rfl ?_
    refine st32 _ ?_
    show Steps _ _ _ (T32.setTop (mkF m 82 #[vI p0, vI p1, vI p2, vA b2, vA b5, vA b12, vI 1, vI 1, .val .null] [(.int 1)])) _
    refine XS.ifNo X32.here hx rfl (hb hby at_82) rfl ((if0 _ _).trans (feq ((by decide) : ¬ ((1 : Int32) = (0 : Int32)))).1) ?_
    refine XS.iconst X32.here hx rfl (hb hby at_85) ?_
    refine XS.goto X32.here hx rfl (pc0 := 86) (pc' := 90) rfl (hb hby at_86) (by decide) (by decide) ?_
    refine XS.istore X32.here hx rfl (hb hby at_90) rfl (l' := #[vI p0, vI p1, vI p2, vA b2, vA b5, vA b12, vI 1, vI 1, .val .null]) rfl ?_
    refine XS.iloadN X32.here hx rfl (hb hby at_92) rfl ?_
    refine XS.aload X32.here hx rfl (hb hby at_93) rfl rfl ?_
    refine XS.aload X32.here hx rfl (hb hby at_95) rfl rfl ?_
    refine XS.iload X32.here hx rfl (hb hby at_97) rfl ?_
    refine st33 _ ?_
    show Steps _ _ _ (T33.setTop (mkF m 102 #[vI p0, vI p1, vI p2, vA b2, vA b5, vA b12, vI 1, vI 1, .val .null] [.null])) _
    refine XS.astore X33.here hx rfl (hb hby at_102) rfl rfl (l' := #[vI p0, vI p1, vI p2, vA b2, vA b5, vA b12, vI 1, vI 1, .val .null]) rfl ?_
    refine XS.aloadN X33.here hx rfl (hb hby at_104) rfl rfl ?_
    refine XS.aload X33.here hx rfl (hb hby at_105) rfl rfl ?_
    refine st34.trans ?_
    show Steps _ _ _ (T34.setTop (mkF m 110 #[vI p0, vI p1, vI p2, vA b2, vA b5, vA b12, vI 1, vI 1, .val .null] [])) _
    refine XS.iload X34.here hx rfl (hb hby at_110) rfl ?_
    refine XS.ifNo X34.here hx rfl (hb hby at_112) rfl ((if0 _ _).trans (feq ((by decide) : ¬ ((1 : Int32) = (0 : Int32)))).1) ?_
    refine XS.aload X34.here hx rfl (hb hby at_115) rfl rfl ?_
    refine XS.ifnonnullNo X34.here hx rfl (hb hby at_117) rfl ?_
    refine XS.iconst X34.here hx rfl (hb hby at_120) ?_
    refine XS.goto X34.here hx rfl (pc0 := 121) (pc' := 125) rfl (hb hby at_121) (by decide) (by decide) ?_
    refine XS.istore X34.here hx rfl (hb hby at_125) rfl (l' := #[vI p0, vI p1, vI p2, vA b2, vA b5, vA b12, vI 1, vI 1, .val .null]) rfl ?_
    refine XS.iload X34.here hx rfl (hb hby at_127) rfl ?_
    refine XS.ifNo X34.here hx rfl (hb hby at_129) rfl ((if0 _ _).trans (feq ((by decide) : ¬ ((1 : Int32) = (0 : Int32)))).1) ?_
    refine XS.aloadN X34.here hx rfl (hb hby at_132) rfl rfl ?_
    refine XS.iload X34.here hx rfl (hb hby at_133) rfl ?_
    refine st37 _ ?_
    show Steps _ _ _ (T37.setTop (mkF m 138 #[vI p0, vI p1, vI p2, vA b2, vA b5, vA b12, vI 1, vI 1, .val .null] [(.int 1)])) _
    refine XS.ifNo X37.here hx rfl (hb hby at_138) rfl ((if0 _ _).trans (feq ((by decide) : ¬ ((1 : Int32) = (0 : Int32)))).1) ?_
    refine XS.iconst X37.here hx rfl (hb hby at_141) ?_
    refine XS.goto X37.here hx rfl (pc0 := 142) (pc' := 146) rfl (hb hby at_142) (by decide) (by decide) ?_
    refine XS.istore X37.here hx rfl (hb hby at_146) rfl (l' := #[vI p0, vI p1, vI p2, vA b2, vA b5, vA b12, vI 1, vI 1, .val .null]) rfl ?_
    refine XS.iloadN X37.here hx rfl (hb hby at_148) rfl ?_
    refine XS.aload X37.here hx rfl (hb hby at_149) rfl rfl ?_
    refine XS.aload X37.here hx rfl (hb hby at_151) rfl rfl ?_
    refine XS.iload X37.here hx rfl (hb hby at_153) rfl ?_
    refine st38 _ ?_
    show Steps _ _ _ (T38.setTop (mkF m 158 #[vI p0, vI p1, vI p2, vA b2, vA b5, vA b12, vI 1, vI 1, .val .null] [(.ref b12)])) _
    refine XS.astore X38.here hx rfl (hb hby at_158) rfl rfl (l' := #[vI p0, vI p1, vI p2, vA b2, vA b5, vA b12, vI 1, vI 1, vA b12]) rfl ?_
    refine XS.aloadN X38.here hx rfl (hb hby at_160) rfl rfl ?_
    refine XS.aload X38.here hx rfl (hb hby at_161) rfl rfl ?_
    refine st39.trans ?_
    show Steps _ _ _ (T39.setTop (mkF m 166 #[vI p0, vI p1, vI p2, vA b2, vA b5, vA b12, vI 1, vI 1, vA b12] [])) _
    refine XS.iload X39.here hx rfl (hb hby at_166) rfl ?_
    refine XS.ifNo X39.here hx rfl (hb hby at_168) rfl ((if0 _ _).trans (feq ((by decide) : ¬ ((1 : Int32) = (0 : Int32)))).1) ?_
    refine XS.aload X39.here hx rfl (hb hby at_171) rfl rfl ?_
    refine XS.ifnonnullYes X39.here hx rfl (pc0 := 173) (pc' := 180) rfl (hb hby at_173) rfl (by decide) (by decide) ?_
    refine XS.iconst X39.here hx rfl (hb hby at_180) ?_
    refine XS.istore X39.here hx rfl (hb hby at_181) rfl (l' := #[vI p0, vI p1, vI p2, vA b2, vA b5, vA b12, vI 1, vI 0, vA b12]) rfl ?_
    refine XS.iload X39.here hx rfl (hb hby at_183) rfl ?_
    refine XS.ifNo X39.here hx rfl (hb hby at_185) rfl ((if0 _ _).trans (feq ((by decide) : ¬ ((1 : Int32) = (0 : Int32)))).1) ?_
    refine XS.aloadN X39.here hx rfl (hb hby at_188) rfl rfl ?_
    refine XS.iload X39.here hx rfl (hb hby at_189) rfl ?_
    refine st42 _ ?_
    show Steps _ _ _ (T42.setTop (mkF m 194 #[vI p0, vI p1, vI p2, vA b2, vA b5, vA b12, vI 1, vI 0, vA b12] [(.int 1)])) _
    refine XS.ifNo X42.here hx rfl (hb hby at_194) rfl ((if0 _ _).trans (feq ((by decide) : ¬ ((1 : Int32) = (0 : Int32)))).1) ?_
    refine XS.iconst X42.here hx rfl (hb hby at_197) ?_
    refine XS.goto X42.here hx rfl (pc0 := 198) (pc' := 202) rfl (hb hby at_198) (by decide) (by decide) ?_
    refine XS.istore X42.here hx rfl (hb hby at_202) rfl (l' := #[vI p0, vI p1, vI p2, vA b2, vA b5, vA b12, vI 1, vI 0, vA b12]) rfl ?_
    refine XS.iload X42.here hx rfl (hb hby at_204) rfl ?_
    exact retN X42 hx (t := .boolean) Bd.returns (by simp) (hb hby at_206) hr
  · show Q_law Z p0 p1 p2 su sn mo h0 n0 _ T42.heap _
    rw [(Kq42 : T42.heap = T39.heap)]
    exact ⟨rfl, N42⟩
theorem rm_law_n11 (l : Launch) (Z : State) (a0 : Array Value) (hw : HW Z a0) (ws : List Jvm.Cond) (p0 : Int32) (p1 : Int32) (p2 : Int32) (su : Addr) (sn : Addr) (mo : Addr) (h0 : Heap) (n0 : Nat) (Z0 : n0 ≤ h0.size) (P0 : Old Z n0 h0) (P1 : sta0 Z (.ref su)) (P2 : sta1 Z (.ref sn)) (P3 : Mi Z "[Ljava/lang/Object;" mo) (P4 : Exa Z h0 sn "java/util/Collections$EmptyList") (hst : l.stackTraces = true) (q0 : (p0 &&& (3 : Int32)) = (0 : Int32)) (q1 : ¬ ((p1 &&& (3 : Int32)) = (0 : Int32))) (w1 : ¬ ((p1 &&& (3 : Int32)) = (2 : Int32))) (w2 : ¬ ((p2 &&& (3 : Int32)) = (2 : Int32))) :
    MetFree l x (head1 (Jvm.Cond.code x code maxLocals ret :: ws) room_1) (fun as' U => as' = #[(.int p0), (.int p1), (.int p2)] ∧ Z.Warmed39 U.vm ∧ U.heap = h0) (fun _ _ bl s _ => s.vm.MethodsKnown ∧ s.vm.FramesKnown bl) (fun _ U o U' => ∃ v L, o = .returned v ∧ Q_law Z p0 p1 p2 su sn mo h0 n0 v U'.heap L ∧ ReturnedEndW U o U' L room_1.cells room_1.slots) := by
  refine MetFree.of_bodySF (plainFor_of_name pn_12) hisR ?_
  intro p e s m args below meth c s₁ Bd hml0 hP hK
  obtain ⟨hTK, hBl⟩ := hK
  obtain ⟨rfl, hZ, hh⟩ := hP
  have hx := Bd.exec
  have hby := Bd.bytes
  have hml : c.maxLocals = 9 := hml0
  have hown : (s.setVm s.vm).vm.findClass "com/example/maat/maat/FailuresIsEmptyPinLaw" = some m.cls := findClass_of_methodNamed Bd.named
  have hnm := (name_of_methodNamed Bd.named Bd.method).1
  have X0 : Stand p l e room_1 (s.setVm s.vm) m #[(.int p0), (.int p1), (.int p2)] below meth c s₁ [] 0 0 := Stand.of_body Bd
  have e0 : s₁.heap = h0 := by rw [← hh, Bd.state]; rfl
  have N0 := Fr.nil n0
  have hZ : Z.Warmed39 (s.setVm s.vm).vm := hZ
  have hS0 : s.Since s.vm h0.size := (State.WarmedH.refl s).since _
  have hk0 : h0.size ≤ h0.size := Nat.le_refl _
  have lt1 := own_l P4.lt
  obtain ⟨T2, h2, X2, e2, E2, A2, D2, -, st2⟩ := newO X0 hx hZ hown (w_0 hw) (w_1 hw) (w_2 hw) e0 (g := (mkF m 0 #[vI p0, vI p1, vI p2, .unset, .unset, .unset, .unset, .unset, .unset] [])) rfl (hb hby at_0) (by decide) (by decide)
  obtain ⟨b2, g2⟩ : ∃ z, z = h0.size := ⟨_, rfl⟩
  rw [← g2] at A2 D2 st2
  have z2 := E2.1
  have lt3 := own_l A2.lt
  have F2_70 : Fld Z h2 b2 "com/example/maat/maat/Failures" "first" "Ljava/lang/Throwable;" .null := D2 (Or.inl (w_70 hw)) (ty := (.object "java/lang/Throwable")) (by decide)
  obtain ⟨_, _, ⟨T4, L4, k4, n4⟩, -, X4, ⟨Lc4, hQ4, l4, y4, z4⟩, st4⟩ := X2.specialBack hx (y := m_23) rfl hown (mvT hZ (w_3 hw)) (mvT hZ (w_4 hw)) (mvT hZ (w_5 hw)) (by decide) (backOf (W := 1) (rm_fin l Z a0 hw [] b2 h2 n0 (by omega) ) hZ (w_5 hw) (w_2 hw) (by decide) (by decide)) (g := (mkF m 4 #[vI p0, vI p1, vI p2, .unset, .unset, .unset, .unset, .unset, .unset] [(.ref b2), (.ref b2)])) rfl (by rw [hml]; rfl) (Steps.refl _) (a := b2) (argsL := []) (rest := [(.ref b2)]) (lenOf pd_0 rfl) rfl (Nat.le_of_eq rfl) (hb hby at_4) (fun _ _ => ⟨rfl, e2, (by decide : 1 + 0 ≤ _), (by decide : 1 + 0 ≤ _)⟩)
  dsimp only [Pt.U, Pt.locs, Pt.cells, Pt.slots] at X4 l4 y4 z4 st4 hQ4
  rw [l4, y4, z4] at X4
  obtain ⟨rfl, Nq4, Kq4⟩ := hQ4
  have N4 := Fr.app N0 Nq4
  obtain ⟨T5, h5, X5, e5, E5, A5, D5, U5, st5⟩ := newO X4 hx hZ hown (w_9 hw) (w_10 hw) (w_11 hw) Kq4 (g := (mkF m 8 #[vI p0, vI p1, vI p2, vA b2, .unset, .unset, .unset, .unset, .unset] [])) rfl (hb hby at_8) (by decide) (by decide)
  obtain ⟨b5, g5⟩ : ∃ z, z = h2.size := ⟨_, rfl⟩
  rw [← g5] at A5 D5 U5 st5
  have z5 := E5.1
  have lt6 := own_l A5.lt
  replace U5 : Unt h5 b5 := U5
  have F5_29 : Fld Z h5 b5 "java/lang/Throwable" "cause" "Ljava/lang/Throwable;" .null := D5 (Or.inl (w_29 hw)) (ty := (.object "java/lang/Throwable")) (by decide)
  have F5_32 : Fld Z h5 b5 "java/lang/Throwable" "stackTrace" "[Ljava/lang/StackTraceElement;" .null := D5 (Or.inl (w_32 hw)) (ty := (.array (.object "java/lang/StackTraceElement"))) (by decide)
  have F5_35 : Fld Z h5 b5 "java/lang/Throwable" "suppressedExceptions" "Ljava/util/List;" .null := D5 (Or.inl (w_35 hw)) (ty := (.object "java/util/List")) (by decide)
  have F5_56 : Fld Z h5 b5 "java/lang/Throwable" "detailMessage" "Ljava/lang/String;" .null := D5 (Or.inl (w_56 hw)) (ty := (.object "java/lang/String")) (by decide)
  have F5_57 : Fld Z h5 b5 "java/lang/Throwable" "backtrace" "Ljava/lang/Object;" .null := D5 (Or.inl (w_57 hw)) (ty := (.object "java/lang/Object")) (by decide)
  have F5_58 : Fld Z h5 b5 "java/lang/Throwable" "depth" "I" (.int 0) := D5 (Or.inl (w_58 hw)) (ty := .int) (by decide)
  have f8 := P0.ext E2
  have f9 := f8.ext E5
  obtain ⟨_, _, ⟨T7, L7, k7, n7⟩, -, X7, ⟨Lc7, hQ7, l7, y7, z7⟩, st7⟩ := X5.specialBack hx (y := m_5) rfl hown (mvT hZ (w_12 hw)) (mvT hZ (w_13 hw)) (mvT hZ (w_14 hw)) (by decide) (backOfKL (W := 1) (rm_rti l Z a0 hw [] b5 su sn h5 n0 (by omega) f9 P1 P2 A5 U5 F5_29 F5_32 F5_35 F5_57 F5_58 (by omega) hst) hZ (w_14 hw) (w_11 hw) (by decide) (by decide) hTK hBl) (g := (mkF m 12 #[vI p0, vI p1, vI p2, vA b2, .unset, .unset, .unset, .unset, .unset] [(.ref b5), (.ref b5)])) rfl (by rw [hml]; rfl) (Steps.refl _) (a := b5) (argsL := []) (rest := [(.ref b5)]) (lenOf pd_0 rfl) rfl (Nat.le_of_eq rfl) (hb hby at_12) (fun _ _ => ⟨rfl, e5, (by decide : 2 + 1 ≤ _), (by decide : 7 + 2752 ≤ _)⟩)
  dsimp only [Pt.U, Pt.locs, Pt.cells, Pt.slots] at X7 l7 y7 z7 st7 hQ7
  rw [l7, y7, z7] at X7
  obtain ⟨rfl, Nq7, Kq7, r7_0, r7_1, r7_2⟩ := hQ7
  have N7 := Fr.app N4 Nq7
  have z7' := Kq7.1
  have lt10 := own_l r7_0.lt
  have lt11 := own_l r7_2.lt
  obtain ⟨T12, h12, X12, e12, E12, A12, D12, U12, st12⟩ := newO X7 hx hZ hown (w_9 hw) (w_10 hw) (w_11 hw) rfl (g := (mkF m 17 #[vI p0, vI p1, vI p2, vA b2, vA b5, .unset, .unset, .unset, .unset] [])) rfl (hb hby at_17) (by decide) (by decide)
  obtain ⟨b12, g12⟩ : ∃ z, z = T7.heap.size := ⟨_, rfl⟩
  rw [← g12] at A12 D12 U12 st12
  have z12 := E12.1
  have lt13 := own_l A12.lt
  replace U12 : Unt h12 b12 := U12
  have F12_29 : Fld Z h12 b12 "java/lang/Throwable" "cause" "Ljava/lang/Throwable;" .null := D12 (Or.inl (w_29 hw)) (ty := (.object "java/lang/Throwable")) (by decide)
  have F12_32 : Fld Z h12 b12 "java/lang/Throwable" "stackTrace" "[Ljava/lang/StackTraceElement;" .null := D12 (Or.inl (w_32 hw)) (ty := (.array (.object "java/lang/StackTraceElement"))) (by decide)
  have F12_35 : Fld Z h12 b12 "java/lang/Throwable" "suppressedExceptions" "Ljava/util/List;" .null := D12 (Or.inl (w_35 hw)) (ty := (.object "java/util/List")) (by decide)
  have F12_56 : Fld Z h12 b12 "java/lang/Throwable" "detailMessage" "Ljava/lang/String;" .null := D12 (Or.inl (w_56 hw)) (ty := (.object "java/lang/String")) (by decide)
  have F12_57 : Fld Z h12 b12 "java/lang/Throwable" "backtrace" "Ljava/lang/Object;" .null := D12 (Or.inl (w_57 hw)) (ty := (.object "java/lang/Object")) (by decide)
  have F12_58 : Fld Z h12 b12 "java/lang/Throwable" "depth" "I" (.int 0) := D12 (Or.inl (w_58 hw)) (ty := .int) (by decide)
  have f15 := f9.keep Kq7 (allS (by omega) all0)
  have f16 := f15.ext E12
  obtain ⟨_, _, ⟨T14, L14, k14, n14⟩, -, X14, ⟨Lc14, hQ14, l14, y14, z14⟩, st14⟩ := X12.specialBack hx (y := m_5) rfl hown (mvT hZ (w_12 hw)) (mvT hZ (w_13 hw)) (mvT hZ (w_14 hw)) (by decide) (backOfKL (W := 1) (rm_rti l Z a0 hw [] b12 su sn h12 n0 (by omega) f16 P1 P2 A12 U12 F12_29 F12_32 F12_35 F12_57 F12_58 (by omega) hst) hZ (w_14 hw) (w_11 hw) (by decide) (by decide) hTK hBl) (g := (mkF m 21 #[vI p0, vI p1, vI p2, vA b2, vA b5, .unset, .unset, .unset, .unset] [(.ref b12), (.ref b12)])) rfl (by rw [hml]; rfl) (Steps.refl _) (a := b12) (argsL := []) (rest := [(.ref b12)]) (lenOf pd_0 rfl) rfl (Nat.le_of_eq rfl) (hb hby at_21) (fun _ _ => ⟨rfl, e12, (by decide : 4 + 1 ≤ _), (by decide : 2765 + 2752 ≤ _)⟩)
  dsimp only [Pt.U, Pt.locs, Pt.cells, Pt.slots] at X14 l14 y14 z14 st14 hQ14
  rw [l14, y14, z14] at X14
  obtain ⟨rfl, Nq14, Kq14, r14_0, r14_1, r14_2⟩ := hQ14
  have N14 := Fr.app N7 Nq14
  have z14' := Kq14.1
  have lt17 := own_l r14_0.lt
  have lt18 := own_l r14_2.lt
  have f20 := A2.ext E5
  have f21 := f20.keep Kq7
  have f22 := f21.ext E12
  have f23 := f22.keep Kq14
  have f24 := F2_70.ext E5
  have f25 := f24.keep Kq7 (ninS (own_ne (by omega)) nin0)
  have f26 := f25.ext E12
  have f27 := f26.keep Kq14 (ninS (own_ne (by omega)) nin0)
  obtain ⟨_, _, ⟨T19, L19, k19, n19⟩, -, X19, ⟨Lc19, hQ19, l19, y19, z19⟩, st19⟩ := Jvm.LawKit.callS X14 hx (y := m_26) hown (mvT hZ (w_60 hw)) (mvT hZ (w_61 hw)) (mvT hZ (w_62 hw)) (mvT hZ (w_63 hw)) (by decide) (backOf (W := 0) (rm_agn l Z a0 hw [] b2 T14.heap n0 (by omega) f23 f27) hZ (w_63 hw) (w_62 hw) (by decide) (by decide)) (g := (mkF m 28 #[vI p0, vI p1, vI p2, vA b2, vA b5, vA b12, .unset, .unset, .unset] [(.int 1), (.ref b2)])) rfl (by rw [hml]; rfl) (argsL := [(.ref b2), (.int 1)]) (rest := []) (lenOf pd_14 rfl) rfl (Nat.le_of_eq rfl) (hb hby at_28) (fun _ _ => ⟨rfl, rfl, (by decide : 5 + 0 ≤ _), (by decide : 5517 + 0 ≤ _)⟩)
  dsimp only [Pt.U, Pt.locs, Pt.cells, Pt.slots] at X19 l19 y19 z19 st19 hQ19
  rw [l19, y19, z19] at X19
  obtain ⟨rfl, Nq19, Kq19⟩ := hQ19
  have N19 := Fr.app N14 Nq19
  obtain ⟨_, _, ⟨T28, L28, k28, n28⟩, -, X28, ⟨Lc28, hQ28, l28, y28, z28⟩, st28⟩ := Jvm.LawKit.callS X19 hx (y := m_28) hown (mvT hZ (w_76 hw)) (mvT hZ (w_77 hw)) (mvT hZ (w_62 hw)) (mvT hZ (w_78 hw)) (by decide) (backOf (W := 0) (rm_pkn l Z a0 hw [] p0 b5 b12 T14.heap n0 (by omega) q0) hZ (w_78 hw) (w_62 hw) (by decide) (by decide)) (g := (mkF m 43 #[vI p0, vI p1, vI p2, vA b2, vA b5, vA b12, vI 1, vI 1, .unset] [(.int 1), (.ref b12), (.ref b5), (.int p0)])) rfl (by rw [hml]; rfl) (argsL := [(.int p0), (.ref b5), (.ref b12), (.int 1)]) (rest := []) (lenOf pd_15 rfl) rfl (Nat.le_of_eq rfl) (hb hby at_43) (fun _ _ => ⟨rfl, Kq19, (by decide : 5 + 0 ≤ _), (by decide : 5517 + 0 ≤ _)⟩)
  dsimp only [Pt.U, Pt.locs, Pt.cells, Pt.slots] at X28 l28 y28 z28 st28 hQ28
  rw [l28, y28, z28] at X28
  obtain ⟨rfl, Nq28, Kq28⟩ := hQ28
  have N28 := Fr.app N19 Nq28
  obtain ⟨cq29, kq29, qa29, qb29, qc29⟩ := isOf hZ Kq28 f23
  obtain ⟨_, _, ⟨T29, L29, k29, n29⟩, -, X29, ⟨Lc29, hQ29, l29, y29, z29⟩, st29⟩ := X28.virtualBack hx (y := m_27) (z := m_27) hown (mvT hZ (w_79 hw)) (mvT hZ (w_80 hw)) (notFace_of_selects (args := #[]) (mvT hZ (w_82 hw))) (mvT hZ (w_82 hw)) (mvT hZ (w_81 hw)) (by decide) (backOf (W := 0) (rm_fan l Z a0 hw [] b2 T14.heap n0 (by omega) f23 f27 (by omega)) hZ (w_83 hw) (w_2 hw) (by decide) (by decide)) qa29 qc29 (g := (mkF m 51 #[vI p0, vI p1, vI p2, vA b2, vA b5, vA b12, vI 1, vI 1, .val .null] [.null, (.ref b2)])) rfl (by rw [hml]; rfl) (Steps.refl _) (argsL := [.null]) (rest := []) (lenOf pd_13 rfl) rfl (Nat.le_of_eq rfl) (hb hby at_51) (fun _ _ => ⟨rfl, Kq28, (by decide : 5 + 0 ≤ _), (by decide : 5517 + 0 ≤ _)⟩)
  dsimp only [Pt.U, Pt.locs, Pt.cells, Pt.slots] at X29 l29 y29 z29 st29 hQ29
  rw [l29, y29, z29] at X29
  obtain ⟨rfl, Nq29, Kq29, r29_0, r29_1⟩ := hQ29
  have N29 := Fr.app N28 Nq29
  have z29' := Kq29.1
  have lt30 := own_l r29_0.lt
  have lt31 := own_l r29_1.lt
  obtain ⟨_, _, ⟨T32, L32, k32, n32⟩, -, X32, ⟨Lc32, hQ32, l32, y32, z32⟩, st32⟩ := Jvm.LawKit.callS X29 hx (y := m_26) hown (mvT hZ (w_60 hw)) (mvT hZ (w_61 hw)) (mvT hZ (w_62 hw)) (mvT hZ (w_63 hw)) (by decide) (backOf (W := 0) (rm_agn l Z a0 hw [] b2 T29.heap n0 (by omega) r29_0 r29_1) hZ (w_63 hw) (w_62 hw) (by decide) (by decide)) (g := (mkF m 79 #[vI p0, vI p1, vI p2, vA b2, vA b5, vA b12, vI 1, vI 1, .val .null] [(.int 1), (.ref b2)])) rfl (by rw [hml]; rfl) (argsL := [(.ref b2), (.int 1)]) (rest := []) (lenOf pd_14 rfl) rfl (Nat.le_of_eq rfl) (hb hby at_79) (fun _ _ => ⟨rfl, rfl, (by decide : 5 + 0 ≤ _), (by decide : 5517 + 0 ≤ _)⟩)
  dsimp only [Pt.U, Pt.locs, Pt.cells, Pt.slots] at X32 l32 y32 z32 st32 hQ32
  rw [l32, y32, z32] at X32
  obtain ⟨rfl, Nq32, Kq32⟩ := hQ32
  have N32 := Fr.app N29 Nq32
  obtain ⟨_, _, ⟨T33, L33, k33, n33⟩, -, X33, ⟨Lc33, hQ33, l33, y33, z33⟩, st33⟩ := Jvm.LawKit.callS X32 hx (y := m_28) hown (mvT hZ (w_76 hw)) (mvT hZ (w_77 hw)) (mvT hZ (w_62 hw)) (mvT hZ (w_78 hw)) (by decide) (backOf (W := 0) (rm_pk1e l Z a0 hw [] p1 b5 b12 T29.heap n0 (by omega) q1 w1) hZ (w_78 hw) (w_62 hw) (by decide) (by decide)) (g := (mkF m 99 #[vI p0, vI p1, vI p2, vA b2, vA b5, vA b12, vI 1, vI 1, .val .null] [(.int 1), (.ref b12), (.ref b5), (.int p1)])) rfl (by rw [hml]; rfl) (argsL := [(.int p1), (.ref b5), (.ref b12), (.int 1)]) (rest := []) (lenOf pd_15 rfl) rfl (Nat.le_of_eq rfl) (hb hby at_99) (fun _ _ => ⟨rfl, Kq32, (by decide : 5 + 0 ≤ _), (by decide : 5517 + 0 ≤ _)⟩)
  dsimp only [Pt.U, Pt.locs, Pt.cells, Pt.slots] at X33 l33 y33 z33 st33 hQ33
  rw [l33, y33, z33] at X33
  obtain ⟨rfl, Nq33, Kq33⟩ := hQ33
  have N33 := Fr.app N32 Nq33
  obtain ⟨cq34, kq34, qa34, qb34, qc34⟩ := isOf hZ Kq33 r29_0
  obtain ⟨_, _, ⟨T34, L34, k34, n34⟩, -, X34, ⟨Lc34, hQ34, l34, y34, z34⟩, st34⟩ := X33.virtualBack hx (y := m_27) (z := m_27) hown (mvT hZ (w_79 hw)) (mvT hZ (w_80 hw)) (notFace_of_selects (args := #[]) (mvT hZ (w_82 hw))) (mvT hZ (w_82 hw)) (mvT hZ (w_81 hw)) (by decide) (backOf (W := 0) (rm_far l Z a0 hw [] b2 b5 T29.heap n0 (by omega) r29_0 r29_1 (by omega)) hZ (w_83 hw) (w_2 hw) (by decide) (by decide)) qa34 qc34 (g := (mkF m 107 #[vI p0, vI p1, vI p2, vA b2, vA b5, vA b12, vI 1, vI 1, vA b5] [(.ref b5), (.ref b2)])) rfl (by rw [hml]; rfl) (Steps.refl _) (argsL := [(.ref b5)]) (rest := []) (lenOf pd_13 rfl) rfl (Nat.le_of_eq rfl) (hb hby at_107) (fun _ _ => ⟨rfl, Kq33, (by decide : 5 + 0 ≤ _), (by decide : 5517 + 0 ≤ _)⟩)
  dsimp only [Pt.U, Pt.locs, Pt.cells, Pt.slots] at X34 l34 y34 z34 st34 hQ34
  rw [l34, y34, z34] at X34
  obtain ⟨rfl, Nq34, Kq34, r34_0, r34_1⟩ := hQ34
  have N34 := Fr.app N33 Nq34
  have z34' := Kq34.1
  have lt35 := own_l r34_0.lt
  have lt36 := own_l r34_1.lt
  obtain ⟨_, _, ⟨T37, L37, k37, n37⟩, -, X37, ⟨Lc37, hQ37, l37, y37, z37⟩, st37⟩ := Jvm.LawKit.callS X34 hx (y := m_26) hown (mvT hZ (w_60 hw)) (mvT hZ (w_61 hw)) (mvT hZ (w_62 hw)) (mvT hZ (w_63 hw)) (by decide) (backOf (W := 0) (rm_agr l Z a0 hw [] b2 b5 T34.heap n0 (by omega) r34_0 r34_1) hZ (w_63 hw) (w_62 hw) (by decide) (by decide)) (g := (mkF m 135 #[vI p0, vI p1, vI p2, vA b2, vA b5, vA b12, vI 1, vI 0, vA b5] [(.int 0), (.ref b2)])) rfl (by rw [hml]; rfl) (argsL := [(.ref b2), (.int 0)]) (rest := []) (lenOf pd_14 rfl) rfl (Nat.le_of_eq rfl) (hb hby at_135) (fun _ _ => ⟨rfl, rfl, (by decide : 5 + 0 ≤ _), (by decide : 5517 + 0 ≤ _)⟩)
  dsimp only [Pt.U, Pt.locs, Pt.cells, Pt.slots] at X37 l37 y37 z37 st37 hQ37
  rw [l37, y37, z37] at X37
  obtain ⟨rfl, Nq37, Kq37⟩ := hQ37
  have N37 := Fr.app N34 Nq37
  obtain ⟨_, _, ⟨T38, L38, k38, n38⟩, -, X38, ⟨Lc38, hQ38, l38, y38, z38⟩, st38⟩ := Jvm.LawKit.callS X37 hx (y := m_28) hown (mvT hZ (w_76 hw)) (mvT hZ (w_77 hw)) (mvT hZ (w_62 hw)) (mvT hZ (w_78 hw)) (by decide) (backOf (W := 0) (rm_pk1 l Z a0 hw [] p2 b5 b12 T34.heap n0 (by omega) w2) hZ (w_78 hw) (w_62 hw) (by decide) (by decide)) (g := (mkF m 155 #[vI p0, vI p1, vI p2, vA b2, vA b5, vA b12, vI 1, vI 0, vA b5] [(.int 0), (.ref b12), (.ref b5), (.int p2)])) rfl (by rw [hml]; rfl) (argsL := [(.int p2), (.ref b5), (.ref b12), (.int 0)]) (rest := []) (lenOf pd_15 rfl) rfl (Nat.le_of_eq rfl) (hb hby at_155) (fun _ _ => ⟨rfl, Kq37, (by decide : 5 + 0 ≤ _), (by decide : 5517 + 0 ≤ _)⟩)
  dsimp only [Pt.U, Pt.locs, Pt.cells, Pt.slots] at X38 l38 y38 z38 st38 hQ38
  rw [l38, y38, z38] at X38
  obtain ⟨rfl, Nq38, Kq38⟩ := hQ38
  have N38 := Fr.app N37 Nq38
  obtain ⟨cq39, kq39, qa39, qb39, qc39⟩ := isOf hZ Kq38 r34_0
  obtain ⟨_, _, ⟨T39, L39, k39, n39⟩, -, X39, ⟨Lc39, hQ39, l39, y39, z39⟩, st39⟩ := X38.virtualBack hx (y := m_27) (z := m_27) hown (mvT hZ (w_79 hw)) (mvT hZ (w_80 hw)) (notFace_of_selects (args := #[]) (mvT hZ (w_82 hw))) (mvT hZ (w_82 hw)) (mvT hZ (w_81 hw)) (by decide) (backOf (W := 0) (rm_fas l Z a0 hw [] b2 b5 T34.heap n0 (by omega) r34_0 r34_1) hZ (w_83 hw) (w_2 hw) (by decide) (by decide)) qa39 qc39 (g := (mkF m 163 #[vI p0, vI p1, vI p2, vA b2, vA b5, vA b12, vI 1, vI 0, vA b5] [(.ref b5), (.ref b2)])) rfl (by rw [hml]; rfl) (Steps.refl _) (argsL := [(.ref b5)]) (rest := []) (lenOf pd_13 rfl) rfl (Nat.le_of_eq rfl) (hb hby at_163) (fun _ _ => ⟨rfl, Kq38, (by decide : 5 + 0 ≤ _), (by decide : 5517 + 0 ≤ _)⟩)
  dsimp only [Pt.U, Pt.locs, Pt.cells, Pt.slots] at X39 l39 y39 z39 st39 hQ39
  rw [l39, y39, z39] at X39
  obtain ⟨rfl, Nq39, Kq39⟩ := hQ39
  have N39 := Fr.app N38 Nq39
  obtain ⟨_, _, ⟨T40, L40, k40, n40⟩, -, X40, ⟨Lc40, hQ40, l40, y40, z40⟩, st40⟩ := Jvm.LawKit.callS X39 hx (y := m_26) hown (mvT hZ (w_60 hw)) (mvT hZ (w_61 hw)) (mvT hZ (w_62 hw)) (mvT hZ (w_63 hw)) (by decide) (backOf (W := 0) (rm_agr l Z a0 hw [] b2 b5 T34.heap n0 (by omega) r34_0 r34_1) hZ (w_63 hw) (w_62 hw) (by decide) (by decide)) (g := (mkF m 191 #[vI p0, vI p1, vI p2, vA b2, vA b5, vA b12, vI 1, vI 0, vA b5] [(.int 0), (.ref b2)])) rfl (by rw [hml]; rfl) (argsL := [(.ref b2), (.int 0)]) (rest := []) (lenOf pd_14 rfl) rfl (Nat.le_of_eq rfl) (hb hby at_191) (fun _ _ => ⟨rfl, Kq39, (by decide : 5 + 0 ≤ _), (by decide : 5517 + 0 ≤ _)⟩)
  dsimp only [Pt.U, Pt.locs, Pt.cells, Pt.slots] at X40 l40 y40 z40 st40 hQ40
  rw [l40, y40, z40] at X40
  obtain ⟨rfl, Nq40, Kq40⟩ := hQ40
  have N40 := Fr.app N39 Nq40
  obtain ⟨fs, hr, hrun, hended, hEnd⟩ := X40.leaveW hS0 (by first | omega | (rw [(Kq40 : T40.heap = T34.heap)]; omega)) (v := some (.int 1)) (fun h => by rw [Bd.returns] at h; cases h)
  refine ⟨_, _, castTop (ef_10 m p0 p1 p2) ?_, hrun, hended, _, _, rfl, ?_, hEnd.1, hEnd.2.1, hEnd.2.2.1, hEnd.2.2.2.mono (by decide) (by decide)⟩
  · show Steps _ _ _ (s₁.setTop (mkF m 0 #[vI p0, vI p1, vI p2, .unset, .unset, .unset, .unset, .unset, .unset] [])) _
    refine st2 _ ?_
    show Steps _ _ _ (T2.setTop (mkF m 3 #[vI p0, vI p1, vI p2, .unset, .unset, .unset, .unset, .unset, .unset] [(.ref b2)])) _
    refine XS.dup X2.here hx rfl (hb hby at_3) rfl rfl ?_
    refine st4.trans ?_
    show Steps _ _ _ (T4.setTop (mkF m 7 #[vI p0, vI p1, vI p2, .unset, .unset, .unset, .unset, .unset, .unset] [(.ref b2)])) _
    refine XS.astoreN X4.here hx rfl (hb hby at_7) rfl rfl (l' := #[vI p0, vI p1, vI p2, vA b2, .unset, .unset, .unset, .unset, .unset]) rfl ?_
    refine st5 _ ?_
    show Steps _ _ _ (T5.setTop (mkF m 11 #[vI p0, vI p1, vI p2, vA b2, .unset, .unset, .unset, .unset, .unset] [(.ref b5)])) _
    refine XS.dup X5.here hx rfl (hb hby at_11) rfl rfl ?_
    refine st7.trans ?_
    show Steps _ _ _ (T7.setTop (mkF m 15 #[vI p0, vI p1, vI p2, vA b2, .unset, .unset, .unset, .unset, .unset] [(.ref b5)])) _
    refine XS.astore X7.here hx rfl (hb hby at_15) rfl rfl (l' := #[vI p0, vI p1, vI p2, vA b2, vA b5, .unset, .unset, .unset, .unset]) rfl ?_
    refine st12 _ ?_
    show Steps _ _ _ (T12.setTop (mkF m 20 #[vI p0, vI p1, vI p2, vA b2, vA b5, .unset, .unset, .unset, .unset] [(.ref b12)])) _
    refine XS.dup X12.here hx rfl (hb hby at_20) rfl rfl ?_
    refine st14.trans ?_
    show Steps _ _ _ (T14.setTop (mkF m 24 #[vI p0, vI p1, vI p2, vA b2, vA b5, .unset, .unset, .unset, .unset] [(.ref b12)])) _
    refine XS.astore X14.here hx rfl (hb hby at_24) rfl rfl (l' := #[vI p0, vI p1, vI p2, vA b2, vA b5, vA b12, .unset, .unset, .unset]) rfl ?_
    refine XS.aloadN X14.here hx rfl (hb hby at_26) rfl rfl ?_
    refine XS.iconst X14.here hx rfl (hb hby at_27) ?_
    refine st19 _ ?_
    show Steps _ _ _ (T19.setTop (mkF m 31 #[vI p0, vI p1, vI p2, vA b2, vA b5, vA b12, .unset, .unset, .unset] [(.int 1)])) _
    refine XS.istore X19.here hx rfl (hb hby at_31) rfl (l' := #[vI p0, vI p1, vI p2, vA b2, vA b5, vA b12, vI 1, .unset, .unset]) rfl ?_
    refine XS.iconst X19.here hx rfl (hb hby at_33) ?_
    refine XS.istore X19.here hx rfl (hb hby at_34) rfl (l' := #[vI p0, vI p1, vI p2, vA b2, vA b5, vA b12, vI 1, vI 1, .unset]) rfl ?_
    refine XS.iloadN X19.here hx rfl (hb hby at_36) rfl ?_
    refine XS.aload X19.here hx rfl (hb hby at_37) rfl rfl ?_
    refine XS.aload X19.here hx rfl (hb hby at_39) rfl rfl ?_
    refine XS.iload X19.here hx rfl (hb hby at_41) rfl ?_
    refine st28 _ ?_
    show Steps _ _ _ (T28.setTop (mkF m 46 #[vI p0, vI p1, vI p2, vA b2, vA b5, vA b12, vI 1, vI 1, .unset] [.null])) _
    refine XS.astore X28.here hx rfl (hb hby at_46) rfl rfl (l' := #[vI p0, vI p1, vI p2, vA b2, vA b5, vA b12, vI 1, vI 1, .val .null]) rfl ?_
    refine XS.aloadN X28.here hx rfl (hb hby at_48) rfl rfl ?_
    refine XS.aload X28.here hx rfl (hb hby at_49) rfl rfl ?_
    refine st29.trans ?_
    show Steps _ _ _ (T29.setTop (mkF m 54 #[vI p0, vI p1, vI p2, vA b2, vA b5, vA b12, vI 1, vI 1, .val .null] [])) _
    refine XS.iload X29.here hx rfl (hb hby at_54) rfl ?_
    refine XS.ifNo X29.here hx rfl (hb hby at_56) rfl ((if0 _ _).trans (feq ((by decide) : ¬ ((1 : Int32) = (0 : Int32)))).1) ?_
    refine XS.aload X29.here hx rfl (hb hby at_59) rfl rfl ?_
    refine XS.ifnonnullNo X29.here hx rfl (hb hby at_61) rfl ?_
    refine XS.iconst X29.here hx rfl (hb hby at_64) ?_
    refine XS.goto X29.here hx rfl (pc0 := 65) (pc' := 69) rfl (hb hby at_65) (by decide) (by decide) ?_
    refine XS.istore X29.here hx rfl (hb hby at_69) rfl (l' := #[vI p0, vI p1, vI p2, vA b2, vA b5, vA b12, vI 1, vI 1, .val .null]) rfl ?_
    refine XS.iload X29.here hx rfl (hb hby at_71) rfl ?_
    refine XS.ifNo X29.here hx rfl (hb hby at_73) rfl ((if0 _ _).trans (feq ((by decide) : ¬ ((1 : Int32) = (0 : Int32)))).1) ?_
    refine XS.aloadN X29.here hx rfl (hb hby at_76) rfl rfl ?_
    refine XS.iload X29.here hx rfl (hb hby at_77) rfl ?_
    refine st32 _ ?_
    show Steps _ _ _ (T32.setTop (mkF m 82 #[vI p0, vI p1, vI p2, vA b2, vA b5, vA b12, vI 1, vI 1, .val .null] [(.int 1)])) _
    refine XS.ifNo X32.here hx rfl (hb hby at_82) rfl ((if0 _ _).trans (feq ((by decide) : ¬ ((1 : Int32) = (0 : Int32)))).1) ?_
    refine XS.iconst X32.here hx rfl (hb hby at_85) ?_
    refine XS.goto X32.here hx rfl (pc0 := 86) (pc' := 90) rfl (hb hby at_86) (by decide) (by decide) ?_
    refine XS.istore X32.here hx rfl (hb hby at_90) rfl (l' := #[vI p0, vI p1, vI p2, vA b2, vA b5, vA b12, vI 1, vI 1, .val .null]) rfl ?_
    refine XS.iloadN X32.here hx rfl (hb hby at_92) rfl ?_
    refine XS.aload X32.here hx rfl (hb hby at_93) rfl rfl ?_
    refine XS.aload X32.here hx rfl (hb hby at_95) rfl rfl ?_
    refine XS.iload X32.here hx rfl (hb hby at_97) rfl ?_
    refine st33 _ ?_
    show Steps _ _ _ (T33.setTop (mkF m 102 #[vI p0, vI p1, vI p2, vA b2, vA b5, vA b12, vI 1, vI 1, .val .null] [(.ref b5)])) _
    refine XS.astore X33.here hx rfl (hb hby at_102) rfl rfl (l' := #[vI p0, vI p1, vI p2, vA b2, vA b5, vA b12, vI 1, vI 1, vA b5]) rfl ?_
    refine XS.aloadN X33.here hx rfl (hb hby at_104) rfl rfl ?_
    refine XS.aload X33.here hx rfl (hb hby at_105) rfl rfl ?_
    refine st34.trans ?_
    show Steps _ _ _ (T34.setTop (mkF m 110 #[vI p0, vI p1, vI p2, vA b2, vA b5, vA b12, vI 1, vI 1, vA b5] [])) _
    refine XS.iload X34.here hx rfl (hb hby at_110) rfl ?_
    refine XS.ifNo X34.here hx rfl (hb hby at_112) rfl ((if0 _ _).trans (feq ((by decide) : ¬ ((1 : Int32) = (0 : Int32)))).1) ?_
    refine XS.aload X34.here hx rfl (hb hby at_115) rfl rfl ?_
    refine XS.ifnonnullYes X34.here hx rfl (pc0 := 117) (pc' := 124) rfl (hb hby at_117) rfl (by decide) (by decide) ?_
    refine XS.iconst X34.here hx rfl (hb hby at_124) ?_
    refine XS.istore X34.here hx rfl (hb hby at_125) rfl (l' := #[vI p0, vI p1, vI p2, vA b2, vA b5, vA b12, vI 1, vI 0, vA b5]) rfl ?_
    refine XS.iload X34.here hx rfl (hb hby at_127) rfl ?_
    refine XS.ifNo X34.here hx rfl (hb hby at_129) rfl ((if0 _ _).trans (feq ((by decide) : ¬ ((1 : Int32) = (0 : Int32)))).1) ?_
    refine XS.aloadN X34.here hx rfl (hb hby at_132) rfl rfl ?_
    refine XS.iload X34.here hx rfl (hb hby at_133) rfl ?_
    refine st37 _ ?_
    show Steps _ _ _ (T37.setTop (mkF m 138 #[vI p0, vI p1, vI p2, vA b2, vA b5, vA b12, vI 1, vI 0, vA b5] [(.int 1)])) _
    refine XS.ifNo X37.here hx rfl (hb hby at_138) rfl ((if0 _ _).trans (feq ((by decide) : ¬ ((1 : Int32) = (0 : Int32)))).1) ?_
    refine XS.iconst X37.here hx rfl (hb hby at_141) ?_
    refine XS.goto X37.here hx rfl (pc0 := 142) (pc' := 146) rfl (hb hby at_142) (by decide) (by decide) ?_
    refine XS.istore X37.here hx rfl (hb hby at_146) rfl (l' := #[vI p0, vI p1, vI p2, vA b2, vA b5, vA b12, vI 1, vI 0, vA b5]) rfl ?_
    refine XS.iloadN X37.here hx rfl (hb hby at_148) rfl ?_
    refine XS.aload X37.here hx rfl (hb hby at_149) rfl rfl ?_
    refine XS.aload X37.here hx rfl (hb hby at_151) rfl rfl ?_
    refine XS.iload X37.here hx rfl (hb hby at_153) rfl ?_
    refine st38 _ ?_
    show Steps _ _ _ (T38.setTop (mkF m 158 #[vI p0, vI p1, vI p2, vA b2, vA b5, vA b12, vI 1, vI 0, vA b5] [(.ref b5)])) _
    refine XS.astore X38.here hx rfl (hb hby at_158) rfl rfl (l' := #[vI p0, vI p1, vI p2, vA b2, vA b5, vA b12, vI 1, vI 0, vA b5]) rfl ?_
    refine XS.aloadN X38.here hx rfl (hb hby at_160) rfl rfl ?_
    refine XS.aload X38.here hx rfl (hb hby at_161) rfl rfl ?_
    refine st39.trans ?_
    show Steps _ _ _ (T39.setTop (mkF m 166 #[vI p0, vI p1, vI p2, vA b2, vA b5, vA b12, vI 1, vI 0, vA b5] [])) _
    refine XS.iload X39.here hx rfl (hb hby at_166) rfl ?_
    refine XS.ifYes X39.here hx rfl (pc0 := 168) (pc' := 180) rfl (hb hby at_168) rfl ((if0 _ _).trans (teq ((by decide) : (0 : Int32) = (0 : Int32))).1) (by decide) (by decide) ?_
    refine XS.iconst X39.here hx rfl (hb hby at_180) ?_
    refine XS.istore X39.here hx rfl (hb hby at_181) rfl (l' := #[vI p0, vI p1, vI p2, vA b2, vA b5, vA b12, vI 1, vI 0, vA b5]) rfl ?_
    refine XS.iload X39.here hx rfl (hb hby at_183) rfl ?_
    refine XS.ifNo X39.here hx rfl (hb hby at_185) rfl ((if0 _ _).trans (feq ((by decide) : ¬ ((1 : Int32) = (0 : Int32)))).1) ?_
    refine XS.aloadN X39.here hx rfl (hb hby at_188) rfl rfl ?_
    refine XS.iload X39.here hx rfl (hb hby at_189) rfl ?_
    refine st40 _ ?_
    show Steps _ _ _ (T40.setTop (mkF m 194 #[vI p0, vI p1, vI p2, vA b2, vA b5, vA b12, vI 1, vI 0, vA b5] [(.int 1)])) _
    refine XS.ifNo X40.here hx rfl (hb hby at_194) rfl ((if0 _ _).trans (feq ((by decide) : ¬ ((1 : Int32) = (0 : Int32)))).1) ?_
    refine XS.iconst X40.here hx rfl (hb hby at_197) ?_
    refine XS.goto X40.here hx rfl (pc0 := 198) (pc' := 202) rfl (hb hby at_198) (by decide) (by decide) ?_
    refine XS.istore X40.here hx rfl (hb hby at_202) rfl (l' := #[vI p0, vI p1, vI p2, vA b2, vA b5, vA b12, vI 1, vI 0, vA b5]) rfl ?_
    refine XS.iload X40.here hx rfl (hb hby at_204) rfl ?_
    exact retN X40 hx (t := .boolean) Bd.returns (by simp) (hb hby at_206) hr
  · show Q_law Z p0 p1 p2 su sn mo h0 n0 _ T40.heap _
    rw [(Kq40 : T40.heap = T34.heap)]
    exact ⟨rfl, N40⟩
theorem rm_law_n12 (l : Launch) (Z : State) (a0 : Array Value) (hw : HW Z a0) (ws : List Jvm.Cond) (p0 : Int32) (p1 : Int32) (p2 : Int32) (su : Addr) (sn : Addr) (mo : Addr) (h0 : Heap) (n0 : Nat) (Z0 : n0 ≤ h0.size) (P0 : Old Z n0 h0) (P1 : sta0 Z (.ref su)) (P2 : sta1 Z (.ref sn)) (P3 : Mi Z "[Ljava/lang/Object;" mo) (P4 : Exa Z h0 sn "java/util/Collections$EmptyList") (hst : l.stackTraces = true) (q0 : (p0 &&& (3 : Int32)) = (0 : Int32)) (q1 : ¬ ((p1 &&& (3 : Int32)) = (0 : Int32))) (w1 : ¬ ((p1 &&& (3 : Int32)) = (2 : Int32))) (w2 : (p2 &&& (3 : Int32)) = (2 : Int32)) :
    MetFree l x (head1 (Jvm.Cond.code x code maxLocals ret :: ws) room_1) (fun as' U => as' = #[(.int p0), (.int p1), (.int p2)] ∧ Z.Warmed39 U.vm ∧ U.heap = h0) (fun _ _ bl s _ => s.vm.MethodsKnown ∧ s.vm.FramesKnown bl) (fun _ U o U' => ∃ v L, o = .returned v ∧ Q_law Z p0 p1 p2 su sn mo h0 n0 v U'.heap L ∧ ReturnedEndW U o U' L room_1.cells room_1.slots) := by
  refine MetFree.of_bodySF (plainFor_of_name pn_12) hisR ?_
  intro p e s m args below meth c s₁ Bd hml0 hP hK
  obtain ⟨hTK, hBl⟩ := hK
  obtain ⟨rfl, hZ, hh⟩ := hP
  have hx := Bd.exec
  have hby := Bd.bytes
  have hml : c.maxLocals = 9 := hml0
  have hown : (s.setVm s.vm).vm.findClass "com/example/maat/maat/FailuresIsEmptyPinLaw" = some m.cls := findClass_of_methodNamed Bd.named
  have hnm := (name_of_methodNamed Bd.named Bd.method).1
  have X0 : Stand p l e room_1 (s.setVm s.vm) m #[(.int p0), (.int p1), (.int p2)] below meth c s₁ [] 0 0 := Stand.of_body Bd
  have e0 : s₁.heap = h0 := by rw [← hh, Bd.state]; rfl
  have N0 := Fr.nil n0
  have hZ : Z.Warmed39 (s.setVm s.vm).vm := hZ
  have hS0 : s.Since s.vm h0.size := (State.WarmedH.refl s).since _
  have hk0 : h0.size ≤ h0.size := Nat.le_refl _
  have lt1 := own_l P4.lt
  obtain ⟨T2, h2, X2, e2, E2, A2, D2, -, st2⟩ := newO X0 hx hZ hown (w_0 hw) (w_1 hw) (w_2 hw) e0 (g := (mkF m 0 #[vI p0, vI p1, vI p2, .unset, .unset, .unset, .unset, .unset, .unset] [])) rfl (hb hby at_0) (by decide) (by decide)
  obtain ⟨b2, g2⟩ : ∃ z, z = h0.size := ⟨_, rfl⟩
  rw [← g2] at A2 D2 st2
  have z2 := E2.1
  have lt3 := own_l A2.lt
  have F2_70 : Fld Z h2 b2 "com/example/maat/maat/Failures" "first" "Ljava/lang/Throwable;" .null := D2 (Or.inl (w_70 hw)) (ty := (.object "java/lang/Throwable")) (by decide)
  obtain ⟨_, _, ⟨T4, L4, k4, n4⟩, -, X4, ⟨Lc4, hQ4, l4, y4, z4⟩, st4⟩ := X2.specialBack hx (y := m_23) rfl hown (mvT hZ (w_3 hw)) (mvT hZ (w_4 hw)) (mvT hZ (w_5 hw)) (by decide) (backOf (W := 1) (rm_fin l Z a0 hw [] b2 h2 n0 (by omega) ) hZ (w_5 hw) (w_2 hw) (by decide) (by decide)) (g := (mkF m 4 #[vI p0, vI p1, vI p2, .unset, .unset, .unset, .unset, .unset, .unset] [(.ref b2), (.ref b2)])) rfl (by rw [hml]; rfl) (Steps.refl _) (a := b2) (argsL := []) (rest := [(.ref b2)]) (lenOf pd_0 rfl) rfl (Nat.le_of_eq rfl) (hb hby at_4) (fun _ _ => ⟨rfl, e2, (by decide : 1 + 0 ≤ _), (by decide : 1 + 0 ≤ _)⟩)
  dsimp only [Pt.U, Pt.locs, Pt.cells, Pt.slots] at X4 l4 y4 z4 st4 hQ4
  rw [l4, y4, z4] at X4
  obtain ⟨rfl, Nq4, Kq4⟩ := hQ4
  have N4 := Fr.app N0 Nq4
  obtain ⟨T5, h5, X5, e5, E5, A5, D5, U5, st5⟩ := newO X4 hx hZ hown (w_9 hw) (w_10 hw) (w_11 hw) Kq4 (g := (mkF m 8 #[vI p0, vI p1, vI p2, vA b2, .unset, .unset, .unset, .unset, .unset] [])) rfl (hb hby at_8) (by decide) (by decide)
  obtain ⟨b5, g5⟩ : ∃ z, z = h2.size := ⟨_, rfl⟩
  rw [← g5] at A5 D5 U5 st5
  have z5 := E5.1
  have lt6 := own_l A5.lt
  replace U5 : Unt h5 b5 := U5
  have F5_29 : Fld Z h5 b5 "java/lang/Throwable" "cause" "Ljava/lang/Throwable;" .null := D5 (Or.inl (w_29 hw)) (ty := (.object "java/lang/Throwable")) (by decide)
  have F5_32 : Fld Z h5 b5 "java/lang/Throwable" "stackTrace" "[Ljava/lang/StackTraceElement;" .null := D5 (Or.inl (w_32 hw)) (ty := (.array (.object "java/lang/StackTraceElement"))) (by decide)
  have F5_35 : Fld Z h5 b5 "java/lang/Throwable" "suppressedExceptions" "Ljava/util/List;" .null := D5 (Or.inl (w_35 hw)) (ty := (.object "java/util/List")) (by decide)
  have F5_56 : Fld Z h5 b5 "java/lang/Throwable" "detailMessage" "Ljava/lang/String;" .null := D5 (Or.inl (w_56 hw)) (ty := (.object "java/lang/String")) (by decide)
  have F5_57 : Fld Z h5 b5 "java/lang/Throwable" "backtrace" "Ljava/lang/Object;" .null := D5 (Or.inl (w_57 hw)) (ty := (.object "java/lang/Object")) (by decide)
  have F5_58 : Fld Z h5 b5 "java/lang/Throwable" "depth" "I" (.int 0) := D5 (Or.inl (w_58 hw)) (ty := .int) (by decide)
  have f8 := P0.ext E2
  have f9 := f8.ext E5
  obtain ⟨_, _, ⟨T7, L7, k7, n7⟩, -, X7, ⟨Lc7, hQ7, l7, y7, z7⟩, st7⟩ := X5.specialBack hx (y := m_5) rfl hown (mvT hZ (w_12 hw)) (mvT hZ (w_13 hw)) (mvT hZ (w_14 hw)) (by decide) (backOfKL (W := 1) (rm_rti l Z a0 hw [] b5 su sn h5 n0 (by omega) f9 P1 P2 A5 U5 F5_29 F5_32 F5_35 F5_57 F5_58 (by omega) hst) hZ (w_14 hw) (w_11 hw) (by decide) (by decide) hTK hBl) (g := (mkF m 12 #[vI p0, vI p1, vI p2, vA b2, .unset, .unset, .unset, .unset, .unset] [(.ref b5), (.ref b5)])) rfl (by rw [hml]; rfl) (Steps.refl _) (a := b5) (argsL := []) (rest := [(.ref b5)]) (lenOf pd_0 rfl) rfl (Nat.le_of_eq rfl) (hb hby at_12) (fun _ _ => ⟨rfl, e5, (by decide : 2 + 1 ≤ _), (by decide : 7 + 2752 ≤ _)⟩)
  dsimp only [Pt.U, Pt.locs, Pt.cells, Pt.slots] at X7 l7 y7 z7 st7 hQ7
  rw [l7, y7, z7] at X7
  obtain ⟨rfl, Nq7, Kq7, r7_0, r7_1, r7_2⟩ := hQ7
  have N7 := Fr.app N4 Nq7
  have z7' := Kq7.1
  have lt10 := own_l r7_0.lt
  have lt11 := own_l r7_2.lt
  obtain ⟨T12, h12, X12, e12, E12, A12, D12, U12, st12⟩ := newO X7 hx hZ hown (w_9 hw) (w_10 hw) (w_11 hw) rfl (g := (mkF m 17 #[vI p0, vI p1, vI p2, vA b2, vA b5, .unset, .unset, .unset, .unset] [])) rfl (hb hby at_17) (by decide) (by decide)
  obtain ⟨b12, g12⟩ : ∃ z, z = T7.heap.size := ⟨_, rfl⟩
  rw [← g12] at A12 D12 U12 st12
  have z12 := E12.1
  have lt13 := own_l A12.lt
  replace U12 : Unt h12 b12 := U12
  have F12_29 : Fld Z h12 b12 "java/lang/Throwable" "cause" "Ljava/lang/Throwable;" .null := D12 (Or.inl (w_29 hw)) (ty := (.object "java/lang/Throwable")) (by decide)
  have F12_32 : Fld Z h12 b12 "java/lang/Throwable" "stackTrace" "[Ljava/lang/StackTraceElement;" .null := D12 (Or.inl (w_32 hw)) (ty := (.array (.object "java/lang/StackTraceElement"))) (by decide)
  have F12_35 : Fld Z h12 b12 "java/lang/Throwable" "suppressedExceptions" "Ljava/util/List;" .null := D12 (Or.inl (w_35 hw)) (ty := (.object "java/util/List")) (by decide)
  have F12_56 : Fld Z h12 b12 "java/lang/Throwable" "detailMessage" "Ljava/lang/String;" .null := D12 (Or.inl (w_56 hw)) (ty := (.object "java/lang/String")) (by decide)
  have F12_57 : Fld Z h12 b12 "java/lang/Throwable" "backtrace" "Ljava/lang/Object;" .null := D12 (Or.inl (w_57 hw)) (ty := (.object "java/lang/Object")) (by decide)
  have F12_58 : Fld Z h12 b12 "java/lang/Throwable" "depth" "I" (.int 0) := D12 (Or.inl (w_58 hw)) (ty := .int) (by decide)
  have f15 := f9.keep Kq7 (allS (by omega) all0)
  have f16 := f15.ext E12
  obtain ⟨_, _, ⟨T14, L14, k14, n14⟩, -, X14, ⟨Lc14, hQ14, l14, y14, z14⟩, st14⟩ := X12.specialBack hx (y := m_5) rfl hown (mvT hZ (w_12 hw)) (mvT hZ (w_13 hw)) (mvT hZ (w_14 hw)) (by decide) (backOfKL (W := 1) (rm_rti l Z a0 hw [] b12 su sn h12 n0 (by omega) f16 P1 P2 A12 U12 F12_29 F12_32 F12_35 F12_57 F12_58 (by omega) hst) hZ (w_14 hw) (w_11 hw) (by decide) (by decide) hTK hBl) (g := (mkF m 21 #[vI p0, vI p1, vI p2, vA b2, vA b5, .unset, .unset, .unset, .unset] [(.ref b12), (.ref b12)])) rfl (by rw [hml]; rfl) (Steps.refl _) (a := b12) (argsL := []) (rest := [(.ref b12)]) (lenOf pd_0 rfl) rfl (Nat.le_of_eq rfl) (hb hby at_21) (fun _ _ => ⟨rfl, e12, (by decide : 4 + 1 ≤ _), (by decide : 2765 + 2752 ≤ _)⟩)
  dsimp only [Pt.U, Pt.locs, Pt.cells, Pt.slots] at X14 l14 y14 z14 st14 hQ14
  rw [l14, y14, z14] at X14
  obtain ⟨rfl, Nq14, Kq14, r14_0, r14_1, r14_2⟩ := hQ14
  have N14 := Fr.app N7 Nq14
  have z14' := Kq14.1
  have lt17 := own_l r14_0.lt
  have lt18 := own_l r14_2.lt
  have f20 := A2.ext E5
  have f21 := f20.keep Kq7
  have f22 := f21.ext E12
  have f23 := f22.keep Kq14
  have f24 := F2_70.ext E5
  have f25 := f24.keep Kq7 (ninS (own_ne (by omega)) nin0)
  have f26 := f25.ext E12
  have f27 := f26.keep Kq14 (ninS (own_ne (by omega)) nin0)
  obtain ⟨_, _, ⟨T19, L19, k19, n19⟩, -, X19, ⟨Lc19, hQ19, l19, y19, z19⟩, st19⟩ := Jvm.LawKit.callS X14 hx (y := m_26) hown (mvT hZ (w_60 hw)) (mvT hZ (w_61 hw)) (mvT hZ (w_62 hw)) (mvT hZ (w_63 hw)) (by decide) (backOf (W := 0) (rm_agn l Z a0 hw [] b2 T14.heap n0 (by omega) f23 f27) hZ (w_63 hw) (w_62 hw) (by decide) (by decide)) (g := (mkF m 28 #[vI p0, vI p1, vI p2, vA b2, vA b5, vA b12, .unset, .unset, .unset] [(.int 1), (.ref b2)])) rfl (by rw [hml]; rfl) (argsL := [(.ref b2), (.int 1)]) (rest := []) (lenOf pd_14 rfl) rfl (Nat.le_of_eq rfl) (hb hby at_28) (fun _ _ => ⟨rfl, rfl, (by decide : 5 + 0 ≤ _), (by decide : 5517 + 0 ≤ _)⟩)
  dsimp only [Pt.U, Pt.locs, Pt.cells, Pt.slots] at X19 l19 y19 z19 st19 hQ19
  rw [l19, y19, z19] at X19
  obtain ⟨rfl, Nq19, Kq19⟩ := hQ19
  have N19 := Fr.app N14 Nq19
  obtain ⟨_, _, ⟨T28, L28, k28, n28⟩, -, X28, ⟨Lc28, hQ28, l28, y28, z28⟩, st28⟩ := Jvm.LawKit.callS X19 hx (y := m_28) hown (mvT hZ (w_76 hw)) (mvT hZ (w_77 hw)) (mvT hZ (w_62 hw)) (mvT hZ (w_78 hw)) (by decide) (backOf (W := 0) (rm_pkn l Z a0 hw [] p0 b5 b12 T14.heap n0 (by omega) q0) hZ (w_78 hw) (w_62 hw) (by decide) (by decide)) (g := (mkF m 43 #[vI p0, vI p1, vI p2, vA b2, vA b5, vA b12, vI 1, vI 1, .unset] [(.int 1), (.ref b12), (.ref b5), (.int p0)])) rfl (by rw [hml]; rfl) (argsL := [(.int p0), (.ref b5), (.ref b12), (.int 1)]) (rest := []) (lenOf pd_15 rfl) rfl (Nat.le_of_eq rfl) (hb hby at_43) (fun _ _ => ⟨rfl, Kq19, (by decide : 5 + 0 ≤ _), (by decide : 5517 + 0 ≤ _)⟩)
  dsimp only [Pt.U, Pt.locs, Pt.cells, Pt.slots] at X28 l28 y28 z28 st28 hQ28
  rw [l28, y28, z28] at X28
  obtain ⟨rfl, Nq28, Kq28⟩ := hQ28
  have N28 := Fr.app N19 Nq28
  obtain ⟨cq29, kq29, qa29, qb29, qc29⟩ := isOf hZ Kq28 f23
  obtain ⟨_, _, ⟨T29, L29, k29, n29⟩, -, X29, ⟨Lc29, hQ29, l29, y29, z29⟩, st29⟩ := X28.virtualBack hx (y := m_27) (z := m_27) hown (mvT hZ (w_79 hw)) (mvT hZ (w_80 hw)) (notFace_of_selects (args := #[]) (mvT hZ (w_82 hw))) (mvT hZ (w_82 hw)) (mvT hZ (w_81 hw)) (by decide) (backOf (W := 0) (rm_fan l Z a0 hw [] b2 T14.heap n0 (by omega) f23 f27 (by omega)) hZ (w_83 hw) (w_2 hw) (by decide) (by decide)) qa29 qc29 (g := (mkF m 51 #[vI p0, vI p1, vI p2, vA b2, vA b5, vA b12, vI 1, vI 1, .val .null] [.null, (.ref b2)])) rfl (by rw [hml]; rfl) (Steps.refl _) (argsL := [.null]) (rest := []) (lenOf pd_13 rfl) rfl (Nat.le_of_eq rfl) (hb hby at_51) (fun _ _ => ⟨rfl, Kq28, (by decide : 5 + 0 ≤ _), (by decide : 5517 + 0 ≤ _)⟩)
  dsimp only [Pt.U, Pt.locs, Pt.cells, Pt.slots] at X29 l29 y29 z29 st29 hQ29
  rw [l29, y29, z29] at X29
  obtain ⟨rfl, Nq29, Kq29, r29_0, r29_1⟩ := hQ29
  have N29 := Fr.app N28 Nq29
  have z29' := Kq29.1
  have lt30 := own_l r29_0.lt
  have lt31 := own_l r29_1.lt
  obtain ⟨_, _, ⟨T32, L32, k32, n32⟩, -, X32, ⟨Lc32, hQ32, l32, y32, z32⟩, st32⟩ := Jvm.LawKit.callS X29 hx (y := m_26) hown (mvT hZ (w_60 hw)) (mvT hZ (w_61 hw)) (mvT hZ (w_62 hw)) (mvT hZ (w_63 hw)) (by decide) (backOf (W := 0) (rm_agn l Z a0 hw [] b2 T29.heap n0 (by omega) r29_0 r29_1) hZ (w_63 hw) (w_62 hw) (by decide) (by decide)) (g := (mkF m 79 #[vI p0, vI p1, vI p2, vA b2, vA b5, vA b12, vI 1, vI 1, .val .null] [(.int 1), (.ref b2)])) rfl (by rw [hml]; rfl) (argsL := [(.ref b2), (.int 1)]) (rest := []) (lenOf pd_14 rfl) rfl (Nat.le_of_eq rfl) (hb hby at_79) (fun _ _ => ⟨rfl, rfl, (by decide : 5 + 0 ≤ _), (by decide : 5517 + 0 ≤ _)⟩)
  dsimp only [Pt.U, Pt.locs, Pt.cells, Pt.slots] at X32 l32 y32 z32 st32 hQ32
  rw [l32, y32, z32] at X32
  obtain ⟨rfl, Nq32, Kq32⟩ := hQ32
  have N32 := Fr.app N29 Nq32
  obtain ⟨_, _, ⟨T33, L33, k33, n33⟩, -, X33, ⟨Lc33, hQ33, l33, y33, z33⟩, st33⟩ := Jvm.LawKit.callS X32 hx (y := m_28) hown (mvT hZ (w_76 hw)) (mvT hZ (w_77 hw)) (mvT hZ (w_62 hw)) (mvT hZ (w_78 hw)) (by decide) (backOf (W := 0) (rm_pk1e l Z a0 hw [] p1 b5 b12 T29.heap n0 (by omega) q1 w1) hZ (w_78 hw) (w_62 hw) (by decide) (by decide)) (g := (mkF m 99 #[vI p0, vI p1, vI p2, vA b2, vA b5, vA b12, vI 1, vI 1, .val .null] [(.int 1), (.ref b12), (.ref b5), (.int p1)])) rfl (by rw [hml]; rfl) (argsL := [(.int p1), (.ref b5), (.ref b12), (.int 1)]) (rest := []) (lenOf pd_15 rfl) rfl (Nat.le_of_eq rfl) (hb hby at_99) (fun _ _ => ⟨rfl, Kq32, (by decide : 5 + 0 ≤ _), (by decide : 5517 + 0 ≤ _)⟩)
  dsimp only [Pt.U, Pt.locs, Pt.cells, Pt.slots] at X33 l33 y33 z33 st33 hQ33
  rw [l33, y33, z33] at X33
  obtain ⟨rfl, Nq33, Kq33⟩ := hQ33
  have N33 := Fr.app N32 Nq33
  obtain ⟨cq34, kq34, qa34, qb34, qc34⟩ := isOf hZ Kq33 r29_0
  obtain ⟨_, _, ⟨T34, L34, k34, n34⟩, -, X34, ⟨Lc34, hQ34, l34, y34, z34⟩, st34⟩ := X33.virtualBack hx (y := m_27) (z := m_27) hown (mvT hZ (w_79 hw)) (mvT hZ (w_80 hw)) (notFace_of_selects (args := #[]) (mvT hZ (w_82 hw))) (mvT hZ (w_82 hw)) (mvT hZ (w_81 hw)) (by decide) (backOf (W := 0) (rm_far l Z a0 hw [] b2 b5 T29.heap n0 (by omega) r29_0 r29_1 (by omega)) hZ (w_83 hw) (w_2 hw) (by decide) (by decide)) qa34 qc34 (g := (mkF m 107 #[vI p0, vI p1, vI p2, vA b2, vA b5, vA b12, vI 1, vI 1, vA b5] [(.ref b5), (.ref b2)])) rfl (by rw [hml]; rfl) (Steps.refl _) (argsL := [(.ref b5)]) (rest := []) (lenOf pd_13 rfl) rfl (Nat.le_of_eq rfl) (hb hby at_107) (fun _ _ => ⟨rfl, Kq33, (by decide : 5 + 0 ≤ _), (by decide : 5517 + 0 ≤ _)⟩)
  dsimp only [Pt.U, Pt.locs, Pt.cells, Pt.slots] at X34 l34 y34 z34 st34 hQ34
  rw [l34, y34, z34] at X34
  obtain ⟨rfl, Nq34, Kq34, r34_0, r34_1⟩ := hQ34
  have N34 := Fr.app N33 Nq34
  have z34' := Kq34.1
  have lt35 := own_l r34_0.lt
  have lt36 := own_l r34_1.lt
  obtain ⟨_, _, ⟨T37, L37, k37, n37⟩, -, X37, ⟨Lc37, hQ37, l37, y37, z37⟩, st37⟩ := Jvm.LawKit.callS X34 hx (y := m_26) hown (mvT hZ (w_60 hw)) (mvT hZ (w_61 hw)) (mvT hZ (w_62 hw)) (mvT hZ (w_63 hw)) (by decide) (backOf (W := 0) (rm_agr l Z a0 hw [] b2 b5 T34.heap n0 (by omega) r34_0 r34_1) hZ (w_63 hw) (w_62 hw) (by decide) (by decide)) (g := (mkF m 135 #[vI p0, vI p1, vI p2, vA b2, vA b5, vA b12, vI 1, vI 0, vA b5] [(.int 0), (.ref b2)])) rfl (by rw [hml]; rfl) (argsL := [(.ref b2), (.int 0)]) (rest := []) (lenOf pd_14 rfl) rfl (Nat.le_of_eq rfl) (hb hby at_135) (fun _ _ => ⟨rfl, rfl, (by decide : 5 + 0 ≤ _), (by decide : 5517 + 0 ≤ _)⟩)
  dsimp only [Pt.U, Pt.locs, Pt.cells, Pt.slots] at X37 l37 y37 z37 st37 hQ37
  rw [l37, y37, z37] at X37
  obtain ⟨rfl, Nq37, Kq37⟩ := hQ37
  have N37 := Fr.app N34 Nq37
  obtain ⟨_, _, ⟨T38, L38, k38, n38⟩, -, X38, ⟨Lc38, hQ38, l38, y38, z38⟩, st38⟩ := Jvm.LawKit.callS X37 hx (y := m_28) hown (mvT hZ (w_76 hw)) (mvT hZ (w_77 hw)) (mvT hZ (w_62 hw)) (mvT hZ (w_78 hw)) (by decide) (backOf (W := 0) (rm_pk2 l Z a0 hw [] p2 b5 b12 T34.heap n0 (by omega) (own_20 w2) w2) hZ (w_78 hw) (w_62 hw) (by decide) (by decide)) (g := (mkF m 155 #[vI p0, vI p1, vI p2, vA b2, vA b5, vA b12, vI 1, vI 0, vA b5] [(.int 0), (.ref b12), (.ref b5), (.int p2)])) rfl (by rw [hml]; rfl) (argsL := [(.int p2), (.ref b5), (.ref b12), (.int 0)]) (rest := []) (lenOf pd_15 rfl) rfl (Nat.le_of_eq rfl) (hb hby at_155) (fun _ _ => ⟨rfl, Kq37, (by decide : 5 + 0 ≤ _), (by decide : 5517 + 0 ≤ _)⟩)
  dsimp only [Pt.U, Pt.locs, Pt.cells, Pt.slots] at X38 l38 y38 z38 st38 hQ38
  rw [l38, y38, z38] at X38
  obtain ⟨rfl, Nq38, Kq38⟩ := hQ38
  have N38 := Fr.app N37 Nq38
  have f40 := f16.keep Kq14 (allS (by omega) all0)
  have f41 := f40.keep Kq29 (allS (by omega) all0)
  have f42 := f41.keep Kq34 (allS (by omega) all0)
  have f43 := r7_0.ext E12
  have f44 := f43.keep Kq14
  have f45 := f44.keep Kq29
  have f46 := f45.keep Kq34
  have f47 := r7_1.ext E12
  have f48 := Unt.keep Kq14 (ninS (own_ne (by omega)) nin0) f47
  have f49 := Unt.keep Kq29 (ninS (own_ne (by omega)) nin0) f48
  have f50 := Unt.keep Kq34 (ninS (own_ne (by omega)) nin0) f49
  have f51 := r7_2.ext E12
  have f52 := f51.keep Kq14 (ninS (own_ne (by omega)) nin0)
  have f53 := f52.keep Kq29 (ninS (own_ne (by omega)) nin0)
  have f54 := f53.keep Kq34 (ninS (own_ne (by omega)) nin0)
  have f55 := r14_0.keep Kq29
  have f56 := f55.keep Kq34
  obtain ⟨cq39, kq39, qa39, qb39, qc39⟩ := isOf hZ Kq38 r34_0
  obtain ⟨_, _, ⟨T39, L39, k39, n39⟩, -, X39, hSb39, hgr39, ⟨Lc39, hQ39, l39, y39, z39⟩, st39⟩ := X38.virtualBackS hx (y := m_27) (z := m_27) hown (mvT hZ (w_79 hw)) (mvT hZ (w_80 hw)) (notFace_of_selects (args := #[]) (mvT hZ (w_82 hw))) (mvT hZ (w_82 hw)) (mvT hZ (w_81 hw)) (by decide) (backOfS (W := 0) (rm_fa0 l Z a0 hw [] b2 b5 b12 sn T34.heap n0 (by omega) r34_0 r34_1 f42 P2 f46 f50 f54 f56 (by omega) (own_ne (by omega))) hZ (w_83 hw) (w_2 hw) (by decide) (by decide)) qa39 qc39 (g := (mkF m 163 #[vI p0, vI p1, vI p2, vA b2, vA b5, vA b12, vI 1, vI 0, vA b12] [(.ref b12), (.ref b2)])) rfl (by rw [hml]; rfl) (Steps.refl _) (argsL := [(.ref b12)]) (rest := []) (lenOf pd_13 rfl) rfl (Nat.le_of_eq rfl) (hb hby at_163) (fun _ _ => ⟨rfl, Kq38, (by decide : 5 + 4 ≤ _), (by decide : 5517 + 140 ≤ _)⟩)
  dsimp only [Pt.U, Pt.locs, Pt.cells, Pt.slots] at X39 l39 y39 z39 st39 hQ39 hSb39 hgr39
  rw [l39, y39, z39] at X39
  rw [Kq38] at hgr39
  obtain ⟨X39, hS39, hZ39, hown39⟩ := rebS hS0 (by omega) X39 hSb39 hgr39 hZ hown
  have hk39 : T39.heap.size ≤ T39.heap.size := Nat.le_refl _
  obtain ⟨x39_al, x39_v_, x39_kv, x39_mc, rfl, Nq39, Kq39, r39_0, r39_1, r39_2, r39_3, r39_4, r39_5, r39_6, r39_7, r39_8, r39_9, r39_10, r39_11⟩ := hQ39
  have N39 := Fr.app N38 Nq39
  have z39' := Kq39.1
  have lt57 := own_l r39_3.lt
  have lt58 := own_l r39_5.lt
  have lt59 := own_l r39_6.lt
  have lt60 := own_l r39_7.lt
  have lt61 := own_l r39_8.lt
  have lt62 := own_l r39_9.lt
  have lt63 := own_l r39_10.lt
  have lt64 := own_l r39_11.lt
  have f66 := r34_0.keep Kq39
  have f67 := r34_1.keep Kq39 (ninS (own_ne (by omega)) nin0)
  obtain ⟨_, _, ⟨T65, L65, k65, n65⟩, -, X65, ⟨Lc65, hQ65, l65, y65, z65⟩, st65⟩ := Jvm.LawKit.callS X39 hx (y := m_26) hown39 (mvT hZ39 (w_60 hw)) (mvT hZ39 (w_61 hw)) (mvT hZ39 (w_62 hw)) (mvT hZ39 (w_63 hw)) (by decide) (backOf (W := 0) (rm_agr l Z a0 hw [] b2 b5 T39.heap n0 (by omega) f66 f67) hZ39 (w_63 hw) (w_62 hw) (by decide) (by decide)) (g := (mkF m 191 #[vI p0, vI p1, vI p2, vA b2, vA b5, vA b12, vI 1, vI 0, vA b12] [(.int 0), (.ref b2)])) rfl (by rw [hml]; rfl) (argsL := [(.ref b2), (.int 0)]) (rest := []) (lenOf pd_14 rfl) rfl (Nat.le_of_eq rfl) (hb hby at_191) (fun _ _ => ⟨rfl, rfl, (by decide : 9 + 0 ≤ _), (by decide : 5657 + 0 ≤ _)⟩)
  dsimp only [Pt.U, Pt.locs, Pt.cells, Pt.slots] at X65 l65 y65 z65 st65 hQ65
  rw [l65, y65, z65] at X65
  obtain ⟨rfl, Nq65, Kq65⟩ := hQ65
  have N65 := Fr.app N39 Nq65
  obtain ⟨fs, hr, hrun, hended, hEnd⟩ := X65.leaveW hS39 (by first | omega | (rw [(Kq65 : T65.heap = T39.heap)]; omega)) (v := some (.int 1)) (fun h => by rw [Bd.returns] at h; cases h)
  refine ⟨_, _, castTop (ef_10 m p0 p1 p2) ?_, hrun, hended, _, _, rfl, ?_, hEnd.1, hEnd.2.1, hEnd.2.2.1, hEnd.2.2.2.mono (by decide) (by decide)⟩
  · show Steps _ _ _ (s₁.setTop (mkF m 0 #[vI p0, vI p1, vI p2, .unset, .unset, .unset, .unset, .unset, .unset] [])) _
    refine st2 _ ?_
    show Steps _ _ _ (T2.setTop (mkF m 3 #[vI p0, vI p1, vI p2, .unset, .unset, .unset, .unset, .unset, .unset] [(.ref b2)])) _
    refine XS.dup X2.here hx rfl (hb hby at_3) rfl rfl ?_
    refine st4.trans ?_
    show Steps _ _ _ (T4.setTop (mkF m 7 #[vI p0, vI p1, vI p2, .unset, .unset, .unset, .unset, .unset, .unset] [(.ref b2)])) _
    refine XS.astoreN X4.here hx rfl (hb hby at_7) rfl rfl (l' := #[vI p0, vI p1, vI p2, vA b2, .unset, .unset, .unset, .unset, .unset]) rfl ?_
    refine st5 _ ?_
    show Steps _ _ _ (T5.setTop (mkF m 11 #[vI p0, vI p1, vI p2, vA b2, .unset, .unset, .unset, .unset, .unset] [(.ref b5)])) _
    refine XS.dup X5.here hx rfl (hb hby at_11) rfl rfl ?_
    refine st7.trans ?_
    show Steps _ _ _ (T7.setTop (mkF m 15 #[vI p0, vI p1, vI p2, vA b2, .unset, .unset, .unset, .unset, .unset] [(.ref b5)])) _
    refine XS.astore X7.here hx rfl (hb hby at_15) rfl rfl (l' := #[vI p0, vI p1, vI p2, vA b2, vA b5, .unset, .unset, .unset, .unset]) rfl ?_
    refine st12 _ ?_
    show Steps _ _ _ (T12.setTop (mkF m 20 #[vI p0, vI p1, vI p2, vA b2, vA b5, .unset, .unset, .unset, .unset] [(.ref b12)])) _
    refine XS.dup X12.here hx rfl (hb hby at_20) rfl rfl ?_
    refine st14.trans ?_
    show Steps _ _ _ (T14.setTop (mkF m 24 #[vI p0, vI p1, vI p2, vA b2, vA b5, .unset, .unset, .unset, .unset] [(.ref b12)])) _
    refine XS.astore X14.here hx rfl (hb hby at_24) rfl rfl (l' := #[vI p0, vI p1, vI p2, vA b2, vA b5, vA b12, .unset, .unset, .unset]) rfl ?_
    refine XS.aloadN X14.here hx rfl (hb hby at_26) rfl rfl ?_
    refine XS.iconst X14.here hx rfl (hb hby at_27) ?_
    refine st19 _ ?_
    show Steps _ _ _ (T19.setTop (mkF m 31 #[vI p0, vI p1, vI p2, vA b2, vA b5, vA b12, .unset, .unset, .unset] [(.int 1)])) _
    refine XS.istore X19.here hx rfl (hb hby at_31) rfl (l' := #[vI p0, vI p1, vI p2, vA b2, vA b5, vA b12, vI 1, .unset, .unset]) rfl ?_
    refine XS.iconst X19.here hx rfl (hb hby at_33) ?_
    refine XS.istore X19.here hx rfl (hb hby at_34) rfl (l' := #[vI p0, vI p1, vI p2, vA b2, vA b5, vA b12, vI 1, vI 1, .unset]) rfl ?_
    refine XS.iloadN X19.here hx rfl (hb hby at_36) rfl ?_
    refine XS.aload X19.here hx rfl (hb hby at_37) rfl rfl ?_
    refine XS.aload X19.here hx rfl (hb hby at_39) rfl rfl ?_
    refine XS.iload X19.here hx rfl (hb hby at_41) rfl ?_
    refine st28 _ ?_
    show Steps _ _ _ (T28.setTop (mkF m 46 #[vI p0, vI p1, vI p2, vA b2, vA b5, vA b12, vI 1, vI 1, .unset] [.null])) _
    refine XS.astore X28.here hx rfl (hb hby at_46) rfl rfl (l' := #[vI p0, vI p1, vI p2, vA b2, vA b5, vA b12, vI 1, vI 1, .val .null]) rfl ?_
    refine XS.aloadN X28.here hx rfl (hb hby at_48) rfl rfl ?_
    refine XS.aload X28.here hx rfl (hb hby at_49) rfl rfl ?_
    refine st29.trans ?_
    show Steps _ _ _ (T29.setTop (mkF m 54 #[vI p0, vI p1, vI p2, vA b2, vA b5, vA b12, vI 1, vI 1, .val .null] [])) _
    refine XS.iload X29.here hx rfl (hb hby at_54) rfl ?_
    refine XS.ifNo X29.here hx rfl (hb hby at_56) rfl ((if0 _ _).trans (feq ((by decide) : ¬ ((1 : Int32) = (0 : Int32)))).1) ?_
    refine XS.aload X29.here hx rfl (hb hby at_59) rfl rfl ?_
    refine XS.ifnonnullNo X29.here hx rfl (hb hby at_61) rfl ?_
    refine XS.iconst X29.here hx rfl (hb hby at_64) ?_
    refine XS.goto X29.here hx rfl (pc0 := 65) (pc' := 69) rfl (hb hby at_65) (by decide) (by decide) ?_
    refine XS.istore X29.here hx rfl (hb hby at_69) rfl (l' := #[vI p0, vI p1, vI p2, vA b2, vA b5, vA b12, vI 1, vI 1, .val .null]) rfl ?_
    refine XS.iload X29.here hx rfl (hb hby at_71) rfl ?_
    refine XS.ifNo X29.here hx rfl (hb hby at_73) rfl ((if0 _ _).trans (feq ((by decide) : ¬ ((1 : Int32) = (0 : Int32)))).1) ?_
    refine XS.aloadN X29.here hx rfl (hb hby at_76) rfl rfl ?_
    refine XS.iload X29.here hx rfl (hb hby at_77) rfl ?_
    refine st32 _ ?_
    show Steps _ _ _ (T32.setTop (mkF m 82 #[vI p0, vI p1, vI p2, vA b2, vA b5, vA b12, vI 1, vI 1, .val .null] [(.int 1)])) _
    refine XS.ifNo X32.here hx rfl (hb hby at_82) rfl ((if0 _ _).trans (feq ((by decide) : ¬ ((1 : Int32) = (0 : Int32)))).1) ?_
    refine XS.iconst X32.here hx rfl (hb hby at_85) ?_
    refine XS.goto X32.here hx rfl (pc0 := 86) (pc' := 90) rfl (hb hby at_86) (by decide) (by decide) ?_
    refine XS.istore X32.here hx rfl (hb hby at_90) rfl (l' := #[vI p0, vI p1, vI p2, vA b2, vA b5, vA b12, vI 1, vI 1, .val .null]) rfl ?_
    refine XS.iloadN X32.here hx rfl (hb hby at_92) rfl ?_
    refine XS.aload X32.here hx rfl (hb hby at_93) rfl rfl ?_
    refine XS.aload X32.here hx rfl (hb hby at_95) rfl rfl ?_
    refine XS.iload X32.here hx rfl (hb hby at_97) rfl ?_
    refine st33 _ ?_
    show Steps _ _ _ (T33.setTop (mkF m 102 #[vI p0, vI p1, vI p2, vA b2, vA b5, vA b12, vI 1, vI 1, .val .null] [(.ref b5)])) _
    refine XS.astore X33.here hx rfl (hb hby at_102) rfl rfl (l' := #[vI p0, vI p1, vI p2, vA b2, vA b5, vA b12, vI 1, vI 1, vA b5]) rfl ?_
    refine XS.aloadN X33.here hx rfl (hb hby at_104) rfl rfl ?_
    refine XS.aload X33.here hx rfl (hb hby at_105) rfl rfl ?_
    refine st34.trans ?_
    show Steps _ _ _ (T34.setTop (mkF m 110 #[vI p0, vI p1, vI p2, vA b2, vA b5, vA b12, vI 1, vI 1, vA b5] [])) _
    refine XS.iload X34.here hx rfl (hb hby at_110) rfl ?_
    refine XS.ifNo X34.here hx rfl (hb hby at_112) rfl ((if0 _ _).trans (feq ((by decide) : ¬ ((1 : Int32) = (0 : Int32)))).1) ?_
    refine XS.aload X34.here hx rfl (hb hby at_115) rfl rfl ?_
    refine XS.ifnonnullYes X34.here hx rfl (pc0 := 117) (pc' := 124) rfl (hb hby at_117) rfl (by decide) (by decide) ?_
    refine XS.iconst X34.here hx rfl (hb hby at_124) ?_
    refine XS.istore X34.here hx rfl (hb hby at_125) rfl (l' := #[vI p0, vI p1, vI p2, vA b2, vA b5, vA b12, vI 1, vI 0, vA b5]) rfl ?_
    refine XS.iload X34.here hx rfl (hb hby at_127) rfl ?_
    refine XS.ifNo X34.here hx rfl (hb hby at_129) rfl ((if0 _ _).trans (feq ((by decide) : ¬ ((1 : Int32) = (0 : Int32)))).1) ?_
    refine XS.aloadN X34.here hx rfl (hb hby at_132) rfl rfl ?_
    refine XS.iload X34.here hx rfl (hb hby at_133) rfl ?_
    refine st37 _ ?_
    show Steps _ _ _ (T37.setTop (mkF m 138 #[vI p0, vI p1, vI p2, vA b2, vA b5, vA b12, vI 1, vI 0, vA b5] [(.int 1)])) _
    refine XS.ifNo X37.here hx rfl (hb hby at_138) rfl ((if0 _ _).trans (feq ((by decide) : ¬ ((1 : Int32) = (0 : Int32)))).1) ?_
    refine XS.iconst X37.here hx rfl (hb hby at_141) ?_
    refine XS.goto X37.here hx rfl (pc0 := 142) (pc' := 146) rfl (hb hby at_142) (by decide) (by decide) ?_
    refine XS.istore X37.here hx rfl (hb hby at_146) rfl (l' := #[vI p0, vI p1, vI p2, vA b2, vA b5, vA b12, vI 1, vI 0, vA b5]) rfl ?_
    refine XS.iloadN X37.here hx rfl (hb hby at_148) rfl ?_
    refine XS.aload X37.here hx rfl (hb hby at_149) rfl rfl ?_
    refine XS.aload X37.here hx rfl (hb hby at_151) rfl rfl ?_
    refine XS.iload X37.here hx rfl (hb hby at_153) rfl ?_
    refine st38 _ ?_
    show Steps _ _ _ (T38.setTop (mkF m 158 #[vI p0, vI p1, vI p2, vA b2, vA b5, vA b12, vI 1, vI 0, vA b5] [(.ref b12)])) _
    refine XS.astore X38.here hx rfl (hb hby at_158) rfl rfl (l' := #[vI p0, vI p1, vI p2, vA b2, vA b5, vA b12, vI 1, vI 0, vA b12]) rfl ?_
    refine XS.aloadN X38.here hx rfl (hb hby at_160) rfl rfl ?_
    refine XS.aload X38.here hx rfl (hb hby at_161) rfl rfl ?_
    refine st39.trans ?_
    show Steps _ _ _ (T39.setTop (mkF m 166 #[vI p0, vI p1, vI p2, vA b2, vA b5, vA b12, vI 1, vI 0, vA b12] [])) _
    refine XS.iload X39.here hx rfl (hb hby at_166) rfl ?_
    refine XS.ifYes X39.here hx rfl (pc0 := 168) (pc' := 180) rfl (hb hby at_168) rfl ((if0 _ _).trans (teq ((by decide) : (0 : Int32) = (0 : Int32))).1) (by decide) (by decide) ?_
    refine XS.iconst X39.here hx rfl (hb hby at_180) ?_
    refine XS.istore X39.here hx rfl (hb hby at_181) rfl (l' := #[vI p0, vI p1, vI p2, vA b2, vA b5, vA b12, vI 1, vI 0, vA b12]) rfl ?_
    refine XS.iload X39.here hx rfl (hb hby at_183) rfl ?_
    refine XS.ifNo X39.here hx rfl (hb hby at_185) rfl ((if0 _ _).trans (feq ((by decide) : ¬ ((1 : Int32) = (0 : Int32)))).1) ?_
    refine XS.aloadN X39.here hx rfl (hb hby at_188) rfl rfl ?_
    refine XS.iload X39.here hx rfl (hb hby at_189) rfl ?_
    refine st65 _ ?_
    show Steps _ _ _ (T65.setTop (mkF m 194 #[vI p0, vI p1, vI p2, vA b2, vA b5, vA b12, vI 1, vI 0, vA b12] [(.int 1)])) _
    refine XS.ifNo X65.here hx rfl (hb hby at_194) rfl ((if0 _ _).trans (feq ((by decide) : ¬ ((1 : Int32) = (0 : Int32)))).1) ?_
    refine XS.iconst X65.here hx rfl (hb hby at_197) ?_
    refine XS.goto X65.here hx rfl (pc0 := 198) (pc' := 202) rfl (hb hby at_198) (by decide) (by decide) ?_
    refine XS.istore X65.here hx rfl (hb hby at_202) rfl (l' := #[vI p0, vI p1, vI p2, vA b2, vA b5, vA b12, vI 1, vI 0, vA b12]) rfl ?_
    refine XS.iload X65.here hx rfl (hb hby at_204) rfl ?_
    exact retN X65 hx (t := .boolean) Bd.returns (by simp) (hb hby at_206) hr
  · show Q_law Z p0 p1 p2 su sn mo h0 n0 _ T65.heap _
    rw [(Kq65 : T65.heap = T39.heap)]
    exact ⟨rfl, N65⟩
theorem rm_law_n21 (l : Launch) (Z : State) (a0 : Array Value) (hw : HW Z a0) (ws : List Jvm.Cond) (p0 : Int32) (p1 : Int32) (p2 : Int32) (su : Addr) (sn : Addr) (mo : Addr) (h0 : Heap) (n0 : Nat) (Z0 : n0 ≤ h0.size) (P0 : Old Z n0 h0) (P1 : sta0 Z (.ref su)) (P2 : sta1 Z (.ref sn)) (P3 : Mi Z "[Ljava/lang/Object;" mo) (P4 : Exa Z h0 sn "java/util/Collections$EmptyList") (hst : l.stackTraces = true) (q0 : (p0 &&& (3 : Int32)) = (0 : Int32)) (q1 : ¬ ((p1 &&& (3 : Int32)) = (0 : Int32))) (w1 : (p1 &&& (3 : Int32)) = (2 : Int32)) (w2 : ¬ ((p2 &&& (3 : Int32)) = (2 : Int32))) :
    MetFree l x (head1 (Jvm.Cond.code x code maxLocals ret :: ws) room_1) (fun as' U => as' = #[(.int p0), (.int p1), (.int p2)] ∧ Z.Warmed39 U.vm ∧ U.heap = h0) (fun _ _ bl s _ => s.vm.MethodsKnown ∧ s.vm.FramesKnown bl) (fun _ U o U' => ∃ v L, o = .returned v ∧ Q_law Z p0 p1 p2 su sn mo h0 n0 v U'.heap L ∧ ReturnedEndW U o U' L room_1.cells room_1.slots) := by
  refine MetFree.of_bodySF (plainFor_of_name pn_12) hisR ?_
  intro p e s m args below meth c s₁ Bd hml0 hP hK
  obtain ⟨hTK, hBl⟩ := hK
  obtain ⟨rfl, hZ, hh⟩ := hP
  have hx := Bd.exec
  have hby := Bd.bytes
  have hml : c.maxLocals = 9 := hml0
  have hown : (s.setVm s.vm).vm.findClass "com/example/maat/maat/FailuresIsEmptyPinLaw" = some m.cls := findClass_of_methodNamed Bd.named
  have hnm := (name_of_methodNamed Bd.named Bd.method).1
  have X0 : Stand p l e room_1 (s.setVm s.vm) m #[(.int p0), (.int p1), (.int p2)] below meth c s₁ [] 0 0 := Stand.of_body Bd
  have e0 : s₁.heap = h0 := by rw [← hh, Bd.state]; rfl
  have N0 := Fr.nil n0
  have hZ : Z.Warmed39 (s.setVm s.vm).vm := hZ
  have hS0 : s.Since s.vm h0.size := (State.WarmedH.refl s).since _
  have hk0 : h0.size ≤ h0.size := Nat.le_refl _
  have lt1 := own_l P4.lt
  obtain ⟨T2, h2, X2, e2, E2, A2, D2, -, st2⟩ := newO X0 hx hZ hown (w_0 hw) (w_1 hw) (w_2 hw) e0 (g := (mkF m 0 #[vI p0, vI p1, vI p2, .unset, .unset, .unset, .unset, .unset, .unset] [])) rfl (hb hby at_0) (by decide) (by decide)
  obtain ⟨b2, g2⟩ : ∃ z, z = h0.size := ⟨_, rfl⟩
  rw [← g2] at A2 D2 st2
  have z2 := E2.1
  have lt3 := own_l A2.lt
  have F2_70 : Fld Z h2 b2 "com/example/maat/maat/Failures" "first" "Ljava/lang/Throwable;" .null := D2 (Or.inl (w_70 hw)) (ty := (.object "java/lang/Throwable")) (by decide)
  obtain ⟨_, _, ⟨T4, L4, k4, n4⟩, -, X4, ⟨Lc4, hQ4, l4, y4, z4⟩, st4⟩ := X2.specialBack hx (y := m_23) rfl hown (mvT hZ (w_3 hw)) (mvT hZ (w_4 hw)) (mvT hZ (w_5 hw)) (by decide) (backOf (W := 1) (rm_fin l Z a0 hw [] b2 h2 n0 (by omega) ) hZ (w_5 hw) (w_2 hw) (by decide) (by decide)) (g := (mkF m 4 #[vI p0, vI p1, vI p2, .unset, .unset, .unset, .unset, .unset, .unset] [(.ref b2), (.ref b2)])) rfl (by rw [hml]; rfl) (Steps.refl _) (a := b2) (argsL := []) (rest := [(.ref b2)]) (lenOf pd_0 rfl) rfl (Nat.le_of_eq rfl) (hb hby at_4) (fun _ _ => ⟨rfl, e2, (by decide : 1 + 0 ≤ _), (by decide : 1 + 0 ≤ _)⟩)
  dsimp only [Pt.U, Pt.locs, Pt.cells, Pt.slots] at X4 l4 y4 z4 st4 hQ4
  rw [l4, y4, z4] at X4
  obtain ⟨rfl, Nq4, Kq4⟩ := hQ4
  have N4 := Fr.app N0 Nq4
  obtain ⟨T5, h5, X5, e5, E5, A5, D5, U5, st5⟩ := newO X4 hx hZ hown (w_9 hw) (w_10 hw) (w_11 hw) Kq4 (g := (mkF m 8 #[vI p0, vI p1, vI p2, vA b2, .unset, .unset, .unset, .unset, .unset] [])) rfl (hb hby at_8) (by decide) (by decide)
  obtain ⟨b5, g5⟩ : ∃ z, z = h2.size := ⟨_, rfl⟩
  rw [← g5] at A5 D5 U5 st5
  have z5 := E5.1
  have lt6 := own_l A5.lt
  replace U5 : Unt h5 b5 := U5
  have F5_29 : Fld Z h5 b5 "java/lang/Throwable" "cause" "Ljava/lang/Throwable;" .null := D5 (Or.inl (w_29 hw)) (ty := (.object "java/lang/Throwable")) (by decide)
  have F5_32 : Fld Z h5 b5 "java/lang/Throwable" "stackTrace" "[Ljava/lang/StackTraceElement;" .null := D5 (Or.inl (w_32 hw)) (ty := (.array (.object "java/lang/StackTraceElement"))) (by decide)
  have F5_35 : Fld Z h5 b5 "java/lang/Throwable" "suppressedExceptions" "Ljava/util/List;" .null := D5 (Or.inl (w_35 hw)) (ty := (.object "java/util/List")) (by decide)
  have F5_56 : Fld Z h5 b5 "java/lang/Throwable" "detailMessage" "Ljava/lang/String;" .null := D5 (Or.inl (w_56 hw)) (ty := (.object "java/lang/String")) (by decide)
  have F5_57 : Fld Z h5 b5 "java/lang/Throwable" "backtrace" "Ljava/lang/Object;" .null := D5 (Or.inl (w_57 hw)) (ty := (.object "java/lang/Object")) (by decide)
  have F5_58 : Fld Z h5 b5 "java/lang/Throwable" "depth" "I" (.int 0) := D5 (Or.inl (w_58 hw)) (ty := .int) (by decide)
  have f8 := P0.ext E2
  have f9 := f8.ext E5
  obtain ⟨_, _, ⟨T7, L7, k7, n7⟩, -, X7, ⟨Lc7, hQ7, l7, y7, z7⟩, st7⟩ := X5.specialBack hx (y := m_5) rfl hown (mvT hZ (w_12 hw)) (mvT hZ (w_13 hw)) (mvT hZ (w_14 hw)) (by decide) (backOfKL (W := 1) (rm_rti l Z a0 hw [] b5 su sn h5 n0 (by omega) f9 P1 P2 A5 U5 F5_29 F5_32 F5_35 F5_57 F5_58 (by omega) hst) hZ (w_14 hw) (w_11 hw) (by decide) (by decide) hTK hBl) (g := (mkF m 12 #[vI p0, vI p1, vI p2, vA b2, .unset, .unset, .unset, .unset, .unset] [(.ref b5), (.ref b5)])) rfl (by rw [hml]; rfl) (Steps.refl _) (a := b5) (argsL := []) (rest := [(.ref b5)]) (lenOf pd_0 rfl) rfl (Nat.le_of_eq rfl) (hb hby at_12) (fun _ _ => ⟨rfl, e5, (by decide : 2 + 1 ≤ _), (by decide : 7 + 2752 ≤ _)⟩)
  dsimp only [Pt.U, Pt.locs, Pt.cells, Pt.slots] at X7 l7 y7 z7 st7 hQ7
  rw [l7, y7, z7] at X7
  obtain ⟨rfl, Nq7, Kq7, r7_0, r7_1, r7_2⟩ := hQ7
  have N7 := Fr.app N4 Nq7
  have z7' := Kq7.1
  have lt10 := own_l r7_0.lt
  have lt11 := own_l r7_2.lt
  obtain ⟨T12, h12, X12, e12, E12, A12, D12, U12, st12⟩ := newO X7 hx hZ hown (w_9 hw) (w_10 hw) (w_11 hw) rfl (g := (mkF m 17 #[vI p0, vI p1, vI p2, vA b2, vA b5, .unset, .unset, .unset, .unset] [])) rfl (hb hby at_17) (by decide) (by decide)
  obtain ⟨b12, g12⟩ : ∃ z, z = T7.heap.size := ⟨_, rfl⟩
  rw [← g12] at A12 D12 U12 st12
  have z12 := E12.1
  have lt13 := own_l A12.lt
  replace U12 : Unt h12 b12 := U12
  have F12_29 : Fld Z h12 b12 "java/lang/Throwable" "cause" "Ljava/lang/Throwable;" .null := D12 (Or.inl (w_29 hw)) (ty := (.object "java/lang/Throwable")) (by decide)
  have F12_32 : Fld Z h12 b12 "java/lang/Throwable" "stackTrace" "[Ljava/lang/StackTraceElement;" .null := D12 (Or.inl (w_32 hw)) (ty := (.array (.object "java/lang/StackTraceElement"))) (by decide)
  have F12_35 : Fld Z h12 b12 "java/lang/Throwable" "suppressedExceptions" "Ljava/util/List;" .null := D12 (Or.inl (w_35 hw)) (ty := (.object "java/util/List")) (by decide)
  have F12_56 : Fld Z h12 b12 "java/lang/Throwable" "detailMessage" "Ljava/lang/String;" .null := D12 (Or.inl (w_56 hw)) (ty := (.object "java/lang/String")) (by decide)
  have F12_57 : Fld Z h12 b12 "java/lang/Throwable" "backtrace" "Ljava/lang/Object;" .null := D12 (Or.inl (w_57 hw)) (ty := (.object "java/lang/Object")) (by decide)
  have F12_58 : Fld Z h12 b12 "java/lang/Throwable" "depth" "I" (.int 0) := D12 (Or.inl (w_58 hw)) (ty := .int) (by decide)
  have f15 := f9.keep Kq7 (allS (by omega) all0)
  have f16 := f15.ext E12
  obtain ⟨_, _, ⟨T14, L14, k14, n14⟩, -, X14, ⟨Lc14, hQ14, l14, y14, z14⟩, st14⟩ := X12.specialBack hx (y := m_5) rfl hown (mvT hZ (w_12 hw)) (mvT hZ (w_13 hw)) (mvT hZ (w_14 hw)) (by decide) (backOfKL (W := 1) (rm_rti l Z a0 hw [] b12 su sn h12 n0 (by omega) f16 P1 P2 A12 U12 F12_29 F12_32 F12_35 F12_57 F12_58 (by omega) hst) hZ (w_14 hw) (w_11 hw) (by decide) (by decide) hTK hBl) (g := (mkF m 21 #[vI p0, vI p1, vI p2, vA b2, vA b5, .unset, .unset, .unset, .unset] [(.ref b12), (.ref b12)])) rfl (by rw [hml]; rfl) (Steps.refl _) (a := b12) (argsL := []) (rest := [(.ref b12)]) (lenOf pd_0 rfl) rfl (Nat.le_of_eq rfl) (hb hby at_21) (fun _ _ => ⟨rfl, e12, (by decide : 4 + 1 ≤ _), (by decide : 2765 + 2752 ≤ _)⟩)
  dsimp only [Pt.U, Pt.locs, Pt.cells, Pt.slots] at X14 l14 y14 z14 st14 hQ14
  rw [l14, y14, z14] at X14
  obtain ⟨rfl, Nq14, Kq14, r14_0, r14_1, r14_2⟩ := hQ14
  have N14 := Fr.app N7 Nq14
  have z14' := Kq14.1
  have lt17 := own_l r14_0.lt
  have lt18 := own_l r14_2.lt
  have f20 := A2.ext E5
  have f21 := f20.keep Kq7
  have f22 := f21.ext E12
  have f23 := f22.keep Kq14
  have f24 := F2_70.ext E5
  have f25 := f24.keep Kq7 (ninS (own_ne (by omega)) nin0)
  have f26 := f25.ext E12
  have f27 := f26.keep Kq14 (ninS (own_ne (by omega)) nin0)
  obtain ⟨_, _, ⟨T19, L19, k19, n19⟩, -, X19, ⟨Lc19, hQ19, l19, y19, z19⟩, st19⟩ := Jvm.LawKit.callS X14 hx (y := m_26) hown (mvT hZ (w_60 hw)) (mvT hZ (w_61 hw)) (mvT hZ (w_62 hw)) (mvT hZ (w_63 hw)) (by decide) (backOf (W := 0) (rm_agn l Z a0 hw [] b2 T14.heap n0 (by omega) f23 f27) hZ (w_63 hw) (w_62 hw) (by decide) (by decide)) (g := (mkF m 28 #[vI p0, vI p1, vI p2, vA b2, vA b5, vA b12, .unset, .unset, .unset] [(.int 1), (.ref b2)])) rfl (by rw [hml]; rfl) (argsL := [(.ref b2), (.int 1)]) (rest := []) (lenOf pd_14 rfl) rfl (Nat.le_of_eq rfl) (hb hby at_28) (fun _ _ => ⟨rfl, rfl, (by decide : 5 + 0 ≤ _), (by decide : 5517 + 0 ≤ _)⟩)
  dsimp only [Pt.U, Pt.locs, Pt.cells, Pt.slots] at X19 l19 y19 z19 st19 hQ19
  rw [l19, y19, z19] at X19
  obtain ⟨rfl, Nq19, Kq19⟩ := hQ19
  have N19 := Fr.app N14 Nq19
  obtain ⟨_, _, ⟨T28, L28, k28, n28⟩, -, X28, ⟨Lc28, hQ28, l28, y28, z28⟩, st28⟩ := Jvm.LawKit.callS X19 hx (y := m_28) hown (mvT hZ (w_76 hw)) (mvT hZ (w_77 hw)) (mvT hZ (w_62 hw)) (mvT hZ (w_78 hw)) (by decide) (backOf (W := 0) (rm_pkn l Z a0 hw [] p0 b5 b12 T14.heap n0 (by omega) q0) hZ (w_78 hw) (w_62 hw) (by decide) (by decide)) (g := (mkF m 43 #[vI p0, vI p1, vI p2, vA b2, vA b5, vA b12, vI 1, vI 1, .unset] [(.int 1), (.ref b12), (.ref b5), (.int p0)])) rfl (by rw [hml]; rfl) (argsL := [(.int p0), (.ref b5), (.ref b12), (.int 1)]) (rest := []) (lenOf pd_15 rfl) rfl (Nat.le_of_eq rfl) (hb hby at_43) (fun _ _ => ⟨rfl, Kq19, (by decide : 5 + 0 ≤ _), (by decide : 5517 + 0 ≤ _)⟩)
  dsimp only [Pt.U, Pt.locs, Pt.cells, Pt.slots] at X28 l28 y28 z28 st28 hQ28
  rw [l28, y28, z28] at X28
  obtain ⟨rfl, Nq28, Kq28⟩ := hQ28
  have N28 := Fr.app N19 Nq28
  obtain ⟨cq29, kq29, qa29, qb29, qc29⟩ := isOf hZ Kq28 f23
  obtain ⟨_, _, ⟨T29, L29, k29, n29⟩, -, X29, ⟨Lc29, hQ29, l29, y29, z29⟩, st29⟩ := X28.virtualBack hx (y := m_27) (z := m_27) hown (mvT hZ (w_79 hw)) (mvT hZ (w_80 hw)) (notFace_of_selects (args := #[]) (mvT hZ (w_82 hw))) (mvT hZ (w_82 hw)) (mvT hZ (w_81 hw)) (by decide) (backOf (W := 0) (rm_fan l Z a0 hw [] b2 T14.heap n0 (by omega) f23 f27 (by omega)) hZ (w_83 hw) (w_2 hw) (by decide) (by decide)) qa29 qc29 (g := (mkF m 51 #[vI p0, vI p1, vI p2, vA b2, vA b5, vA b12, vI 1, vI 1, .val .null] [.null, (.ref b2)])) rfl (by rw [hml]; rfl) (Steps.refl _) (argsL := [.null]) (rest := []) (lenOf pd_13 rfl) rfl (Nat.le_of_eq rfl) (hb hby at_51) (fun _ _ => ⟨rfl, Kq28, (by decide : 5 + 0 ≤ _), (by decide : 5517 + 0 ≤ _)⟩)
  dsimp only [Pt.U, Pt.locs, Pt.cells, Pt.slots] at X29 l29 y29 z29 st29 hQ29
  rw [l29, y29, z29] at X29
  obtain ⟨rfl, Nq29, Kq29, r29_0, r29_1⟩ := hQ29
  have N29 := Fr.app N28 Nq29
  have z29' := Kq29.1
  have lt30 := own_l r29_0.lt
  have lt31 := own_l r29_1.lt
  obtain ⟨_, _, ⟨T32, L32, k32, n32⟩, -, X32, ⟨Lc32, hQ32, l32, y32, z32⟩, st32⟩ := Jvm.LawKit.callS X29 hx (y := m_26) hown (mvT hZ (w_60 hw)) (mvT hZ (w_61 hw)) (mvT hZ (w_62 hw)) (mvT hZ (w_63 hw)) (by decide) (backOf (W := 0) (rm_agn l Z a0 hw [] b2 T29.heap n0 (by omega) r29_0 r29_1) hZ (w_63 hw) (w_62 hw) (by decide) (by decide)) (g := (mkF m 79 #[vI p0, vI p1, vI p2, vA b2, vA b5, vA b12, vI 1, vI 1, .val .null] [(.int 1), (.ref b2)])) rfl (by rw [hml]; rfl) (argsL := [(.ref b2), (.int 1)]) (rest := []) (lenOf pd_14 rfl) rfl (Nat.le_of_eq rfl) (hb hby at_79) (fun _ _ => ⟨rfl, rfl, (by decide : 5 + 0 ≤ _), (by decide : 5517 + 0 ≤ _)⟩)
  dsimp only [Pt.U, Pt.locs, Pt.cells, Pt.slots] at X32 l32 y32 z32 st32 hQ32
  rw [l32, y32, z32] at X32
  obtain ⟨rfl, Nq32, Kq32⟩ := hQ32
  have N32 := Fr.app N29 Nq32
  obtain ⟨_, _, ⟨T33, L33, k33, n33⟩, -, X33, ⟨Lc33, hQ33, l33, y33, z33⟩, st33⟩ := Jvm.LawKit.callS X32 hx (y := m_28) hown (mvT hZ (w_76 hw)) (mvT hZ (w_77 hw)) (mvT hZ (w_62 hw)) (mvT hZ (w_78 hw)) (by decide) (backOf (W := 0) (rm_pk2e l Z a0 hw [] p1 b5 b12 T29.heap n0 (by omega) q1 w1) hZ (w_78 hw) (w_62 hw) (by decide) (by decide)) (g := (mkF m 99 #[vI p0, vI p1, vI p2, vA b2, vA b5, vA b12, vI 1, vI 1, .val .null] [(.int 1), (.ref b12), (.ref b5), (.int p1)])) rfl (by rw [hml]; rfl) (argsL := [(.int p1), (.ref b5), (.ref b12), (.int 1)]) (rest := []) (lenOf pd_15 rfl) rfl (Nat.le_of_eq rfl) (hb hby at_99) (fun _ _ => ⟨rfl, Kq32, (by decide : 5 + 0 ≤ _), (by decide : 5517 + 0 ≤ _)⟩)
  dsimp only [Pt.U, Pt.locs, Pt.cells, Pt.slots] at X33 l33 y33 z33 st33 hQ33
  rw [l33, y33, z33] at X33
  obtain ⟨rfl, Nq33, Kq33⟩ := hQ33
  have N33 := Fr.app N32 Nq33
  obtain ⟨cq34, kq34, qa34, qb34, qc34⟩ := isOf hZ Kq33 r29_0
  obtain ⟨_, _, ⟨T34, L34, k34, n34⟩, -, X34, ⟨Lc34, hQ34, l34, y34, z34⟩, st34⟩ := X33.virtualBack hx (y := m_27) (z := m_27) hown (mvT hZ (w_79 hw)) (mvT hZ (w_80 hw)) (notFace_of_selects (args := #[]) (mvT hZ (w_82 hw))) (mvT hZ (w_82 hw)) (mvT hZ (w_81 hw)) (by decide) (backOf (W := 0) (rm_far l Z a0 hw [] b2 b12 T29.heap n0 (by omega) r29_0 r29_1 (by omega)) hZ (w_83 hw) (w_2 hw) (by decide) (by decide)) qa34 qc34 (g := (mkF m 107 #[vI p0, vI p1, vI p2, vA b2, vA b5, vA b12, vI 1, vI 1, vA b12] [(.ref b12), (.ref b2)])) rfl (by rw [hml]; rfl) (Steps.refl _) (argsL := [(.ref b12)]) (rest := []) (lenOf pd_13 rfl) rfl (Nat.le_of_eq rfl) (hb hby at_107) (fun _ _ => ⟨rfl, Kq33, (by decide : 5 + 0 ≤ _), (by decide : 5517 + 0 ≤ _)⟩)
  dsimp only [Pt.U, Pt.locs, Pt.cells, Pt.slots] at X34 l34 y34 z34 st34 hQ34
  rw [l34, y34, z34] at X34
  obtain ⟨rfl, Nq34, Kq34, r34_0, r34_1⟩ := hQ34
  have N34 := Fr.app N33 Nq34
  have z34' := Kq34.1
  have lt35 := own_l r34_0.lt
  have lt36 := own_l r34_1.lt
  obtain ⟨_, _, ⟨T37, L37, k37, n37⟩, -, X37, ⟨Lc37, hQ37, l37, y37, z37⟩, st37⟩ := Jvm.LawKit.callS X34 hx (y := m_26) hown (mvT hZ (w_60 hw)) (mvT hZ (w_61 hw)) (mvT hZ (w_62 hw)) (mvT hZ (w_63 hw)) (by decide) (backOf (W := 0) (rm_agr l Z a0 hw [] b2 b12 T34.heap n0 (by omega) r34_0 r34_1) hZ (w_63 hw) (w_62 hw) (by decide) (by decide)) (g := (mkF m 135 #[vI p0, vI p1, vI p2, vA b2, vA b5, vA b12, vI 1, vI 0, vA b12] [(.int 0), (.ref b2)])) rfl (by rw [hml]; rfl) (argsL := [(.ref b2), (.int 0)]) (rest := []) (lenOf pd_14 rfl) rfl (Nat.le_of_eq rfl) (hb hby at_135) (fun _ _ => ⟨rfl, rfl, (by decide : 5 + 0 ≤ _), (by decide : 5517 + 0 ≤ _)⟩)
  dsimp only [Pt.U, Pt.locs, Pt.cells, Pt.slots] at X37 l37 y37 z37 st37 hQ37
  rw [l37, y37, z37] at X37
  obtain ⟨rfl, Nq37, Kq37⟩ := hQ37
  have N37 := Fr.app N34 Nq37
  obtain ⟨_, _, ⟨T38, L38, k38, n38⟩, -, X38, ⟨Lc38, hQ38, l38, y38, z38⟩, st38⟩ := Jvm.LawKit.callS X37 hx (y := m_28) hown (mvT hZ (w_76 hw)) (mvT hZ (w_77 hw)) (mvT hZ (w_62 hw)) (mvT hZ (w_78 hw)) (by decide) (backOf (W := 0) (rm_pk1 l Z a0 hw [] p2 b5 b12 T34.heap n0 (by omega) w2) hZ (w_78 hw) (w_62 hw) (by decide) (by decide)) (g := (mkF m 155 #[vI p0, vI p1, vI p2, vA b2, vA b5, vA b12, vI 1, vI 0, vA b12] [(.int 0), (.ref b12), (.ref b5), (.int p2)])) rfl (by rw [hml]; rfl) (argsL := [(.int p2), (.ref b5), (.ref b12), (.int 0)]) (rest := []) (lenOf pd_15 rfl) rfl (Nat.le_of_eq rfl) (hb hby at_155) (fun _ _ => ⟨rfl, Kq37, (by decide : 5 + 0 ≤ _), (by decide : 5517 + 0 ≤ _)⟩)
  dsimp only [Pt.U, Pt.locs, Pt.cells, Pt.slots] at X38 l38 y38 z38 st38 hQ38
  rw [l38, y38, z38] at X38
  obtain ⟨rfl, Nq38, Kq38⟩ := hQ38
  have N38 := Fr.app N37 Nq38
  have f40 := f16.keep Kq14 (allS (by omega) all0)
  have f41 := f40.keep Kq29 (allS (by omega) all0)
  have f42 := f41.keep Kq34 (allS (by omega) all0)
  have f43 := r14_0.keep Kq29
  have f44 := f43.keep Kq34
  have f45 := Unt.keep Kq29 (ninS (own_ne (by omega)) nin0) r14_1
  have f46 := Unt.keep Kq34 (ninS (own_ne (by omega)) nin0) f45
  have f47 := r14_2.keep Kq29 (ninS (own_ne (by omega)) nin0)
  have f48 := f47.keep Kq34 (ninS (own_ne (by omega)) nin0)
  have f49 := r7_0.ext E12
  have f50 := f49.keep Kq14
  have f51 := f50.keep Kq29
  have f52 := f51.keep Kq34
  obtain ⟨cq39, kq39, qa39, qb39, qc39⟩ := isOf hZ Kq38 r34_0
  obtain ⟨_, _, ⟨T39, L39, k39, n39⟩, -, X39, hSb39, hgr39, ⟨Lc39, hQ39, l39, y39, z39⟩, st39⟩ := X38.virtualBackS hx (y := m_27) (z := m_27) hown (mvT hZ (w_79 hw)) (mvT hZ (w_80 hw)) (notFace_of_selects (args := #[]) (mvT hZ (w_82 hw))) (mvT hZ (w_82 hw)) (mvT hZ (w_81 hw)) (by decide) (backOfS (W := 0) (rm_fa0 l Z a0 hw [] b2 b12 b5 sn T34.heap n0 (by omega) r34_0 r34_1 f42 P2 f44 f46 f48 f52 (by omega) (own_ne (by omega))) hZ (w_83 hw) (w_2 hw) (by decide) (by decide)) qa39 qc39 (g := (mkF m 163 #[vI p0, vI p1, vI p2, vA b2, vA b5, vA b12, vI 1, vI 0, vA b5] [(.ref b5), (.ref b2)])) rfl (by rw [hml]; rfl) (Steps.refl _) (argsL := [(.ref b5)]) (rest := []) (lenOf pd_13 rfl) rfl (Nat.le_of_eq rfl) (hb hby at_163) (fun _ _ => ⟨rfl, Kq38, (by decide : 5 + 4 ≤ _), (by decide : 5517 + 140 ≤ _)⟩)
  dsimp only [Pt.U, Pt.locs, Pt.cells, Pt.slots] at X39 l39 y39 z39 st39 hQ39 hSb39 hgr39
  rw [l39, y39, z39] at X39
  rw [Kq38] at hgr39
  obtain ⟨X39, hS39, hZ39, hown39⟩ := rebS hS0 (by omega) X39 hSb39 hgr39 hZ hown
  have hk39 : T39.heap.size ≤ T39.heap.size := Nat.le_refl _
  obtain ⟨x39_al, x39_v_, x39_kv, x39_mc, rfl, Nq39, Kq39, r39_0, r39_1, r39_2, r39_3, r39_4, r39_5, r39_6, r39_7, r39_8, r39_9, r39_10, r39_11⟩ := hQ39
  have N39 := Fr.app N38 Nq39
  have z39' := Kq39.1
  have lt53 := own_l r39_3.lt
  have lt54 := own_l r39_5.lt
  have lt55 := own_l r39_6.lt
  have lt56 := own_l r39_7.lt
  have lt57 := own_l r39_8.lt
  have lt58 := own_l r39_9.lt
  have lt59 := own_l r39_10.lt
  have lt60 := own_l r39_11.lt
  have f62 := r34_0.keep Kq39
  have f63 := r34_1.keep Kq39 (ninS (own_ne (by omega)) nin0)
  obtain ⟨_, _, ⟨T61, L61, k61, n61⟩, -, X61, ⟨Lc61, hQ61, l61, y61, z61⟩, st61⟩ := Jvm.LawKit.callS X39 hx (y := m_26) hown39 (mvT hZ39 (w_60 hw)) (mvT hZ39 (w_61 hw)) (mvT hZ39 (w_62 hw)) (mvT hZ39 (w_63 hw)) (by decide) (backOf (W := 0) (rm_agr l Z a0 hw [] b2 b12 T39.heap n0 (by omega) f62 f63) hZ39 (w_63 hw) (w_62 hw) (by decide) (by decide)) (g := (mkF m 191 #[vI p0, vI p1, vI p2, vA b2, vA b5, vA b12, vI 1, vI 0, vA b5] [(.int 0), (.ref b2)])) rfl (by rw [hml]; rfl) (argsL := [(.ref b2), (.int 0)]) (rest := []) (lenOf pd_14 rfl) rfl (Nat.le_of_eq rfl) (hb hby at_191) (fun _ _ => ⟨rfl, rfl, (by decide : 9 + 0 ≤ _), (by decide : 5657 + 0 ≤ _)⟩)
  dsimp only [Pt.U, Pt.locs, Pt.cells, Pt.slots] at X61 l61 y61 z61 st61 hQ61
  rw [l61, y61, z61] at X61
  obtain ⟨rfl, Nq61, Kq61⟩ := hQ61
  have N61 := Fr.app N39 Nq61
  obtain ⟨fs, hr, hrun, hended, hEnd⟩ := X61.leaveW hS39 (by first | omega | (rw [(Kq61 : T61.heap = T39.heap)]; omega)) (v := some (.int 1)) (fun h => by rw [Bd.returns] at h; cases h)
  refine ⟨_, _, castTop (ef_10 m p0 p1 p2) ?_, hrun, hended, _, _, rfl, ?_, hEnd.1, hEnd.2.1, hEnd.2.2.1, hEnd.2.2.2.mono (by decide) (by decide)⟩
  · show Steps _ _ _ (s₁.setTop (mkF m 0 #[vI p0, vI p1, vI p2, .unset, .unset, .unset, .unset, .unset, .unset] [])) _
    refine st2 _ ?_
    show Steps _ _ _ (T2.setTop (mkF m 3 #[vI p0, vI p1, vI p2, .unset, .unset, .unset, .unset, .unset, .unset] [(.ref b2)])) _
    refine XS.dup X2.here hx rfl (hb hby at_3) rfl rfl ?_
    refine st4.trans ?_
    show Steps _ _ _ (T4.setTop (mkF m 7 #[vI p0, vI p1, vI p2, .unset, .unset, .unset, .unset, .unset, .unset] [(.ref b2)])) _
    refine XS.astoreN X4.here hx rfl (hb hby at_7) rfl rfl (l' := #[vI p0, vI p1, vI p2, vA b2, .unset, .unset, .unset, .unset, .unset]) rfl ?_
    refine st5 _ ?_
    show Steps _ _ _ (T5.setTop (mkF m 11 #[vI p0, vI p1, vI p2, vA b2, .unset, .unset, .unset, .unset, .unset] [(.ref b5)])) _
    refine XS.dup X5.here hx rfl (hb hby at_11) rfl rfl ?_
    refine st7.trans ?_
    show Steps _ _ _ (T7.setTop (mkF m 15 #[vI p0, vI p1, vI p2, vA b2, .unset, .unset, .unset, .unset, .unset] [(.ref b5)])) _
    refine XS.astore X7.here hx rfl (hb hby at_15) rfl rfl (l' := #[vI p0, vI p1, vI p2, vA b2, vA b5, .unset, .unset, .unset, .unset]) rfl ?_
    refine st12 _ ?_
    show Steps _ _ _ (T12.setTop (mkF m 20 #[vI p0, vI p1, vI p2, vA b2, vA b5, .unset, .unset, .unset, .unset] [(.ref b12)])) _
    refine XS.dup X12.here hx rfl (hb hby at_20) rfl rfl ?_
    refine st14.trans ?_
    show Steps _ _ _ (T14.setTop (mkF m 24 #[vI p0, vI p1, vI p2, vA b2, vA b5, .unset, .unset, .unset, .unset] [(.ref b12)])) _
    refine XS.astore X14.here hx rfl (hb hby at_24) rfl rfl (l' := #[vI p0, vI p1, vI p2, vA b2, vA b5, vA b12, .unset, .unset, .unset]) rfl ?_
    refine XS.aloadN X14.here hx rfl (hb hby at_26) rfl rfl ?_
    refine XS.iconst X14.here hx rfl (hb hby at_27) ?_
    refine st19 _ ?_
    show Steps _ _ _ (T19.setTop (mkF m 31 #[vI p0, vI p1, vI p2, vA b2, vA b5, vA b12, .unset, .unset, .unset] [(.int 1)])) _
    refine XS.istore X19.here hx rfl (hb hby at_31) rfl (l' := #[vI p0, vI p1, vI p2, vA b2, vA b5, vA b12, vI 1, .unset, .unset]) rfl ?_
    refine XS.iconst X19.here hx rfl (hb hby at_33) ?_
    refine XS.istore X19.here hx rfl (hb hby at_34) rfl (l' := #[vI p0, vI p1, vI p2, vA b2, vA b5, vA b12, vI 1, vI 1, .unset]) rfl ?_
    refine XS.iloadN X19.here hx rfl (hb hby at_36) rfl ?_
    refine XS.aload X19.here hx rfl (hb hby at_37) rfl rfl ?_
    refine XS.aload X19.here hx rfl (hb hby at_39) rfl rfl ?_
    refine XS.iload X19.here hx rfl (hb hby at_41) rfl ?_
    refine st28 _ ?_
    show Steps _ _ _ (T28.setTop (mkF m 46 #[vI p0, vI p1, vI p2, vA b2, vA b5, vA b12, vI 1, vI 1, .unset] [.null])) _
    refine XS.astore X28.here hx rfl (hb hby at_46) rfl rfl (l' := #[vI p0, vI p1, vI p2, vA b2, vA b5, vA b12, vI 1, vI 1, .val .null]) rfl ?_
    refine XS.aloadN X28.here hx rfl (hb hby at_48) rfl rfl ?_
    refine XS.aload X28.here hx rfl (hb hby at_49) rfl rfl ?_
    refine st29.trans ?_
    show Steps _ _ _ (T29.setTop (mkF m 54 #[vI p0, vI p1, vI p2, vA b2, vA b5, vA b12, vI 1, vI 1, .val .null] [])) _
    refine XS.iload X29.here hx rfl (hb hby at_54) rfl ?_
    refine XS.ifNo X29.here hx rfl (hb hby at_56) rfl ((if0 _ _).trans (feq ((by decide) : ¬ ((1 : Int32) = (0 : Int32)))).1) ?_
    refine XS.aload X29.here hx rfl (hb hby at_59) rfl rfl ?_
    refine XS.ifnonnullNo X29.here hx rfl (hb hby at_61) rfl ?_
    refine XS.iconst X29.here hx rfl (hb hby at_64) ?_
    refine XS.goto X29.here hx rfl (pc0 := 65) (pc' := 69) rfl (hb hby at_65) (by decide) (by decide) ?_
    refine XS.istore X29.here hx rfl (hb hby at_69) rfl (l' := #[vI p0, vI p1, vI p2, vA b2, vA b5, vA b12, vI 1, vI 1, .val .null]) rfl ?_
    refine XS.iload X29.here hx rfl (hb hby at_71) rfl ?_
    refine XS.ifNo X29.here hx rfl (hb hby at_73) rfl ((if0 _ _).trans (feq ((by decide) : ¬ ((1 : Int32) = (0 : Int32)))).1) ?_
    refine XS.aloadN X29.here hx rfl (hb hby at_76) rfl rfl ?_
    refine XS.iload X29.here hx rfl (hb hby at_77) rfl ?_
    refine st32 _ ?_
    show Steps _ _ _ (T32.setTop (mkF m 82 #[vI p0, vI p1, vI p2, vA b2, vA b5, vA b12, vI 1, vI 1, .val .null] [(.int 1)])) _
    refine XS.ifNo X32.here hx rfl (hb hby at_82) rfl ((if0 _ _).trans (feq ((by decide) : ¬ ((1 : Int32) = (0 : Int32)))).1) ?_
    refine XS.iconst X32.here hx rfl (hb hby at_85) ?_
    refine XS.goto X32.here hx rfl (pc0 := 86) (pc' := 90) rfl (hb hby at_86) (by decide) (by decide) ?_
    refine XS.istore X32.here hx rfl (hb hby at_90) rfl (l' := #[vI p0, vI p1, vI p2, vA b2, vA b5, vA b12, vI 1, vI 1, .val .null]) rfl ?_
    refine XS.iloadN X32.here hx rfl (hb hby at_92) rfl ?_
    refine XS.aload X32.here hx rfl (hb hby at_93) rfl rfl ?_
    refine XS.aload X32.here hx rfl (hb hby at_95) rfl rfl ?_
    refine XS.iload X32.here hx rfl (hb hby at_97) rfl ?_
    refine st33 _ ?_
    show Steps _ _ _ (T33.setTop (mkF m 102 #[vI p0, vI p1, vI p2, vA b2, vA b5, vA b12, vI 1, vI 1, .val .null] [(.ref b12)])) _
    refine XS.astore X33.here hx rfl (hb hby at_102) rfl rfl (l' := #[vI p0, vI p1, vI p2, vA b2, vA b5, vA b12, vI 1, vI 1, vA b12]) rfl ?_
    refine XS.aloadN X33.here hx rfl (hb hby at_104) rfl rfl ?_
    refine XS.aload X33.here hx rfl (hb hby at_105) rfl rfl ?_
    refine st34.trans ?_
    show Steps _ _ _ (T34.setTop (mkF m 110 #[vI p0, vI p1, vI p2, vA b2, vA b5, vA b12, vI 1, vI 1, vA b12] [])) _
    refine XS.iload X34.here hx rfl (hb hby at_110) rfl ?_
    refine XS.ifNo X34.here hx rfl (hb hby at_112) rfl ((if0 _ _).trans (feq ((by decide) : ¬ ((1 : Int32) = (0 : Int32)))).1) ?_
    refine XS.aload X34.here hx rfl (hb hby at_115) rfl rfl ?_
    refine XS.ifnonnullYes X34.here hx rfl (pc0 := 117) (pc' := 124) rfl (hb hby at_117) rfl (by decide) (by decide) ?_
    refine XS.iconst X34.here hx rfl (hb hby at_124) ?_
    refine XS.istore X34.here hx rfl (hb hby at_125) rfl (l' := #[vI p0, vI p1, vI p2, vA b2, vA b5, vA b12, vI 1, vI 0, vA b12]) rfl ?_
    refine XS.iload X34.here hx rfl (hb hby at_127) rfl ?_
    refine XS.ifNo X34.here hx rfl (hb hby at_129) rfl ((if0 _ _).trans (feq ((by decide) : ¬ ((1 : Int32) = (0 : Int32)))).1) ?_
    refine XS.aloadN X34.here hx rfl (hb hby at_132) rfl rfl ?_
    refine XS.iload X34.here hx rfl (hb hby at_133) rfl ?_
    refine st37 _ ?_
    show Steps _ _ _ (T37.setTop (mkF m 138 #[vI p0, vI p1, vI p2, vA b2, vA b5, vA b12, vI 1, vI 0, vA b12] [(.int 1)])) _
    refine XS.ifNo X37.here hx rfl (hb hby at_138) rfl ((if0 _ _).trans (feq ((by decide) : ¬ ((1 : Int32) = (0 : Int32)))).1) ?_
    refine XS.iconst X37.here hx rfl (hb hby at_141) ?_
    refine XS.goto X37.here hx rfl (pc0 := 142) (pc' := 146) rfl (hb hby at_142) (by decide) (by decide) ?_
    refine XS.istore X37.here hx rfl (hb hby at_146) rfl (l' := #[vI p0, vI p1, vI p2, vA b2, vA b5, vA b12, vI 1, vI 0, vA b12]) rfl ?_
    refine XS.iloadN X37.here hx rfl (hb hby at_148) rfl ?_
    refine XS.aload X37.here hx rfl (hb hby at_149) rfl rfl ?_
    refine XS.aload X37.here hx rfl (hb hby at_151) rfl rfl ?_
    refine XS.iload X37.here hx rfl (hb hby at_153) rfl ?_
    refine st38 _ ?_
    show Steps _ _ _ (T38.setTop (mkF m 158 #[vI p0, vI p1, vI p2, vA b2, vA b5, vA b12, vI 1, vI 0, vA b12] [(.ref b5)])) _
    refine XS.astore X38.here hx rfl (hb hby at_158) rfl rfl (l' := #[vI p0, vI p1, vI p2, vA b2, vA b5, vA b12, vI 1, vI 0, vA b5]) rfl ?_
    refine XS.aloadN X38.here hx rfl (hb hby at_160) rfl rfl ?_
    refine XS.aload X38.here hx rfl (hb hby at_161) rfl rfl ?_
    refine st39.trans ?_
    show Steps _ _ _ (T39.setTop (mkF m 166 #[vI p0, vI p1, vI p2, vA b2, vA b5, vA b12, vI 1, vI 0, vA b5] [])) _
    refine XS.iload X39.here hx rfl (hb hby at_166) rfl ?_
    refine XS.ifYes X39.here hx rfl (pc0 := 168) (pc' := 180) rfl (hb hby at_168) rfl ((if0 _ _).trans (teq ((by decide) : (0 : Int32) = (0 : Int32))).1) (by decide) (by decide) ?_
    refine XS.iconst X39.here hx rfl (hb hby at_180) ?_
    refine XS.istore X39.here hx rfl (hb hby at_181) rfl (l' := #[vI p0, vI p1, vI p2, vA b2, vA b5, vA b12, vI 1, vI 0, vA b5]) rfl ?_
    refine XS.iload X39.here hx rfl (hb hby at_183) rfl ?_
    refine XS.ifNo X39.here hx rfl (hb hby at_185) rfl ((if0 _ _).trans (feq ((by decide) : ¬ ((1 : Int32) = (0 : Int32)))).1) ?_
    refine XS.aloadN X39.here hx rfl (hb hby at_188) rfl rfl ?_
    refine XS.iload X39.here hx rfl (hb hby at_189) rfl ?_
    refine st61 _ ?_
    show Steps _ _ _ (T61.setTop (mkF m 194 #[vI p0, vI p1, vI p2, vA b2, vA b5, vA b12, vI 1, vI 0, vA b5] [(.int 1)])) _
    refine XS.ifNo X61.here hx rfl (hb hby at_194) rfl ((if0 _ _).trans (feq ((by decide) : ¬ ((1 : Int32) = (0 : Int32)))).1) ?_
    refine XS.iconst X61.here hx rfl (hb hby at_197) ?_
    refine XS.goto X61.here hx rfl (pc0 := 198) (pc' := 202) rfl (hb hby at_198) (by decide) (by decide) ?_
    refine XS.istore X61.here hx rfl (hb hby at_202) rfl (l' := #[vI p0, vI p1, vI p2, vA b2, vA b5, vA b12, vI 1, vI 0, vA b5]) rfl ?_
    refine XS.iload X61.here hx rfl (hb hby at_204) rfl ?_
    exact retN X61 hx (t := .boolean) Bd.returns (by simp) (hb hby at_206) hr
  · show Q_law Z p0 p1 p2 su sn mo h0 n0 _ T61.heap _
    rw [(Kq61 : T61.heap = T39.heap)]
    exact ⟨rfl, N61⟩
theorem rm_law_n22 (l : Launch) (Z : State) (a0 : Array Value) (hw : HW Z a0) (ws : List Jvm.Cond) (p0 : Int32) (p1 : Int32) (p2 : Int32) (su : Addr) (sn : Addr) (mo : Addr) (h0 : Heap) (n0 : Nat) (Z0 : n0 ≤ h0.size) (P0 : Old Z n0 h0) (P1 : sta0 Z (.ref su)) (P2 : sta1 Z (.ref sn)) (P3 : Mi Z "[Ljava/lang/Object;" mo) (P4 : Exa Z h0 sn "java/util/Collections$EmptyList") (hst : l.stackTraces = true) (q0 : (p0 &&& (3 : Int32)) = (0 : Int32)) (q1 : ¬ ((p1 &&& (3 : Int32)) = (0 : Int32))) (w1 : (p1 &&& (3 : Int32)) = (2 : Int32)) (w2 : (p2 &&& (3 : Int32)) = (2 : Int32)) :
    MetFree l x (head1 (Jvm.Cond.code x code maxLocals ret :: ws) room_1) (fun as' U => as' = #[(.int p0), (.int p1), (.int p2)] ∧ Z.Warmed39 U.vm ∧ U.heap = h0) (fun _ _ bl s _ => s.vm.MethodsKnown ∧ s.vm.FramesKnown bl) (fun _ U o U' => ∃ v L, o = .returned v ∧ Q_law Z p0 p1 p2 su sn mo h0 n0 v U'.heap L ∧ ReturnedEndW U o U' L room_1.cells room_1.slots) := by
  refine MetFree.of_bodySF (plainFor_of_name pn_12) hisR ?_
  intro p e s m args below meth c s₁ Bd hml0 hP hK
  obtain ⟨hTK, hBl⟩ := hK
  obtain ⟨rfl, hZ, hh⟩ := hP
  have hx := Bd.exec
  have hby := Bd.bytes
  have hml : c.maxLocals = 9 := hml0
  have hown : (s.setVm s.vm).vm.findClass "com/example/maat/maat/FailuresIsEmptyPinLaw" = some m.cls := findClass_of_methodNamed Bd.named
  have hnm := (name_of_methodNamed Bd.named Bd.method).1
  have X0 : Stand p l e room_1 (s.setVm s.vm) m #[(.int p0), (.int p1), (.int p2)] below meth c s₁ [] 0 0 := Stand.of_body Bd
  have e0 : s₁.heap = h0 := by rw [← hh, Bd.state]; rfl
  have N0 := Fr.nil n0
  have hZ : Z.Warmed39 (s.setVm s.vm).vm := hZ
  have hS0 : s.Since s.vm h0.size := (State.WarmedH.refl s).since _
  have hk0 : h0.size ≤ h0.size := Nat.le_refl _
  have lt1 := own_l P4.lt
  obtain ⟨T2, h2, X2, e2, E2, A2, D2, -, st2⟩ := newO X0 hx hZ hown (w_0 hw) (w_1 hw) (w_2 hw) e0 (g := (mkF m 0 #[vI p0, vI p1, vI p2, .unset, .unset, .unset, .unset, .unset, .unset] [])) rfl (hb hby at_0) (by decide) (by decide)
  obtain ⟨b2, g2⟩ : ∃ z, z = h0.size := ⟨_, rfl⟩
  rw [← g2] at A2 D2 st2
  have z2 := E2.1
  have lt3 := own_l A2.lt
  have F2_70 : Fld Z h2 b2 "com/example/maat/maat/Failures" "first" "Ljava/lang/Throwable;" .null := D2 (Or.inl (w_70 hw)) (ty := (.object "java/lang/Throwable")) (by decide)
  obtain ⟨_, _, ⟨T4, L4, k4, n4⟩, -, X4, ⟨Lc4, hQ4, l4, y4, z4⟩, st4⟩ := X2.specialBack hx (y := m_23) rfl hown (mvT hZ (w_3 hw)) (mvT hZ (w_4 hw)) (mvT hZ (w_5 hw)) (by decide) (backOf (W := 1) (rm_fin l Z a0 hw [] b2 h2 n0 (by omega) ) hZ (w_5 hw) (w_2 hw) (by decide) (by decide)) (g := (mkF m 4 #[vI p0, vI p1, vI p2, .unset, .unset, .unset, .unset, .unset, .unset] [(.ref b2), (.ref b2)])) rfl (by rw [hml]; rfl) (Steps.refl _) (a := b2) (argsL := []) (rest := [(.ref b2)]) (lenOf pd_0 rfl) rfl (Nat.le_of_eq rfl) (hb hby at_4) (fun _ _ => ⟨rfl, e2, (by decide : 1 + 0 ≤ _), (by decide : 1 + 0 ≤ _)⟩)
  dsimp only [Pt.U, Pt.locs, Pt.cells, Pt.slots] at X4 l4 y4 z4 st4 hQ4
  rw [l4, y4, z4] at X4
  obtain ⟨rfl, Nq4, Kq4⟩ := hQ4
  have N4 := Fr.app N0 Nq4
  obtain ⟨T5, h5, X5, e5, E5, A5, D5, U5, st5⟩ := newO X4 hx hZ hown (w_9 hw) (w_10 hw) (w_11 hw) Kq4 (g := (mkF m 8 #[vI p0, vI p1, vI p2, vA b2, .unset, .unset, .unset, .unset, .unset] [])) rfl (hb hby at_8) (by decide) (by decide)
  obtain ⟨b5, g5⟩ : ∃ z, z = h2.size := ⟨_, rfl⟩
  rw [← g5] at A5 D5 U5 st5
  have z5 := E5.1
  have lt6 := own_l A5.lt
  replace U5 : Unt h5 b5 := U5
  have F5_29 : Fld Z h5 b5 "java/lang/Throwable" "cause" "Ljava/lang/Throwable;" .null := D5 (Or.inl (w_29 hw)) (ty := (.object "java/lang/Throwable")) (by decide)
  have F5_32 : Fld Z h5 b5 "java/lang/Throwable" "stackTrace" "[Ljava/lang/StackTraceElement;" .null := D5 (Or.inl (w_32 hw)) (ty := (.array (.object "java/lang/StackTraceElement"))) (by decide)
  have F5_35 : Fld Z h5 b5 "java/lang/Throwable" "suppressedExceptions" "Ljava/util/List;" .null := D5 (Or.inl (w_35 hw)) (ty := (.object "java/util/List")) (by decide)
  have F5_56 : Fld Z h5 b5 "java/lang/Throwable" "detailMessage" "Ljava/lang/String;" .null := D5 (Or.inl (w_56 hw)) (ty := (.object "java/lang/String")) (by decide)
  have F5_57 : Fld Z h5 b5 "java/lang/Throwable" "backtrace" "Ljava/lang/Object;" .null := D5 (Or.inl (w_57 hw)) (ty := (.object "java/lang/Object")) (by decide)
  have F5_58 : Fld Z h5 b5 "java/lang/Throwable" "depth" "I" (.int 0) := D5 (Or.inl (w_58 hw)) (ty := .int) (by decide)
  have f8 := P0.ext E2
  have f9 := f8.ext E5
  obtain ⟨_, _, ⟨T7, L7, k7, n7⟩, -, X7, ⟨Lc7, hQ7, l7, y7, z7⟩, st7⟩ := X5.specialBack hx (y := m_5) rfl hown (mvT hZ (w_12 hw)) (mvT hZ (w_13 hw)) (mvT hZ (w_14 hw)) (by decide) (backOfKL (W := 1) (rm_rti l Z a0 hw [] b5 su sn h5 n0 (by omega) f9 P1 P2 A5 U5 F5_29 F5_32 F5_35 F5_57 F5_58 (by omega) hst) hZ (w_14 hw) (w_11 hw) (by decide) (by decide) hTK hBl) (g := (mkF m 12 #[vI p0, vI p1, vI p2, vA b2, .unset, .unset, .unset, .unset, .unset] [(.ref b5), (.ref b5)])) rfl (by rw [hml]; rfl) (Steps.refl _) (a := b5) (argsL := []) (rest := [(.ref b5)]) (lenOf pd_0 rfl) rfl (Nat.le_of_eq rfl) (hb hby at_12) (fun _ _ => ⟨rfl, e5, (by decide : 2 + 1 ≤ _), (by decide : 7 + 2752 ≤ _)⟩)
  dsimp only [Pt.U, Pt.locs, Pt.cells, Pt.slots] at X7 l7 y7 z7 st7 hQ7
  rw [l7, y7, z7] at X7
  obtain ⟨rfl, Nq7, Kq7, r7_0, r7_1, r7_2⟩ := hQ7
  have N7 := Fr.app N4 Nq7
  have z7' := Kq7.1
  have lt10 := own_l r7_0.lt
  have lt11 := own_l r7_2.lt
  obtain ⟨T12, h12, X12, e12, E12, A12, D12, U12, st12⟩ := newO X7 hx hZ hown (w_9 hw) (w_10 hw) (w_11 hw) rfl (g := (mkF m 17 #[vI p0, vI p1, vI p2, vA b2, vA b5, .unset, .unset, .unset, .unset] [])) rfl (hb hby at_17) (by decide) (by decide)
  obtain ⟨b12, g12⟩ : ∃ z, z = T7.heap.size := ⟨_, rfl⟩
  rw [← g12] at A12 D12 U12 st12
  have z12 := E12.1
  have lt13 := own_l A12.lt
  replace U12 : Unt h12 b12 := U12
  have F12_29 : Fld Z h12 b12 "java/lang/Throwable" "cause" "Ljava/lang/Throwable;" .null := D12 (Or.inl (w_29 hw)) (ty := (.object "java/lang/Throwable")) (by decide)
  have F12_32 : Fld Z h12 b12 "java/lang/Throwable" "stackTrace" "[Ljava/lang/StackTraceElement;" .null := D12 (Or.inl (w_32 hw)) (ty := (.array (.object "java/lang/StackTraceElement"))) (by decide)
  have F12_35 : Fld Z h12 b12 "java/lang/Throwable" "suppressedExceptions" "Ljava/util/List;" .null := D12 (Or.inl (w_35 hw)) (ty := (.object "java/util/List")) (by decide)
  have F12_56 : Fld Z h12 b12 "java/lang/Throwable" "detailMessage" "Ljava/lang/String;" .null := D12 (Or.inl (w_56 hw)) (ty := (.object "java/lang/String")) (by decide)
  have F12_57 : Fld Z h12 b12 "java/lang/Throwable" "backtrace" "Ljava/lang/Object;" .null := D12 (Or.inl (w_57 hw)) (ty := (.object "java/lang/Object")) (by decide)
  have F12_58 : Fld Z h12 b12 "java/lang/Throwable" "depth" "I" (.int 0) := D12 (Or.inl (w_58 hw)) (ty := .int) (by decide)
  have f15 := f9.keep Kq7 (allS (by omega) all0)
  have f16 := f15.ext E12
  obtain ⟨_, _, ⟨T14, L14, k14, n14⟩, -, X14, ⟨Lc14, hQ14, l14, y14, z14⟩, st14⟩ := X12.specialBack hx (y := m_5) rfl hown (mvT hZ (w_12 hw)) (mvT hZ (w_13 hw)) (mvT hZ (w_14 hw)) (by decide) (backOfKL (W := 1) (rm_rti l Z a0 hw [] b12 su sn h12 n0 (by omega) f16 P1 P2 A12 U12 F12_29 F12_32 F12_35 F12_57 F12_58 (by omega) hst) hZ (w_14 hw) (w_11 hw) (by decide) (by decide) hTK hBl) (g := (mkF m 21 #[vI p0, vI p1, vI p2, vA b2, vA b5, .unset, .unset, .unset, .unset] [(.ref b12), (.ref b12)])) rfl (by rw [hml]; rfl) (Steps.refl _) (a := b12) (argsL := []) (rest := [(.ref b12)]) (lenOf pd_0 rfl) rfl (Nat.le_of_eq rfl) (hb hby at_21) (fun _ _ => ⟨rfl, e12, (by decide : 4 + 1 ≤ _), (by decide : 2765 + 2752 ≤ _)⟩)
  dsimp only [Pt.U, Pt.locs, Pt.cells, Pt.slots] at X14 l14 y14 z14 st14 hQ14
  rw [l14, y14, z14] at X14
  obtain ⟨rfl, Nq14, Kq14, r14_0, r14_1, r14_2⟩ := hQ14
  have N14 := Fr.app N7 Nq14
  have z14' := Kq14.1
  have lt17 := own_l r14_0.lt
  have lt18 := own_l r14_2.lt
  have f20 := A2.ext E5
  have f21 := f20.keep Kq7
  have f22 := f21.ext E12
  have f23 := f22.keep Kq14
  have f24 := F2_70.ext E5
  have f25 := f24.keep Kq7 (ninS (own_ne (by omega)) nin0)
  have f26 := f25.ext E12
  have f27 := f26.keep Kq14 (ninS (own_ne (by omega)) nin0)
  obtain ⟨_, _, ⟨T19, L19, k19, n19⟩, -, X19, ⟨Lc19, hQ19, l19, y19, z19⟩, st19⟩ := Jvm.LawKit.callS X14 hx (y := m_26) hown (mvT hZ (w_60 hw)) (mvT hZ (w_61 hw)) (mvT hZ (w_62 hw)) (mvT hZ (w_63 hw)) (by decide) (backOf (W := 0) (rm_agn l Z a0 hw [] b2 T14.heap n0 (by omega) f23 f27) hZ (w_63 hw) (w_62 hw) (by decide) (by decide)) (g := (mkF m 28 #[vI p0, vI p1, vI p2, vA b2, vA b5, vA b12, .unset, .unset, .unset] [(.int 1), (.ref b2)])) rfl (by rw [hml]; rfl) (argsL := [(.ref b2), (.int 1)]) (rest := []) (lenOf pd_14 rfl) rfl (Nat.le_of_eq rfl) (hb hby at_28) (fun _ _ => ⟨rfl, rfl, (by decide : 5 + 0 ≤ _), (by decide : 5517 + 0 ≤ _)⟩)
  dsimp only [Pt.U, Pt.locs, Pt.cells, Pt.slots] at X19 l19 y19 z19 st19 hQ19
  rw [l19, y19, z19] at X19
  obtain ⟨rfl, Nq19, Kq19⟩ := hQ19
  have N19 := Fr.app N14 Nq19
  obtain ⟨_, _, ⟨T28, L28, k28, n28⟩, -, X28, ⟨Lc28, hQ28, l28, y28, z28⟩, st28⟩ := Jvm.LawKit.callS X19 hx (y := m_28) hown (mvT hZ (w_76 hw)) (mvT hZ (w_77 hw)) (mvT hZ (w_62 hw)) (mvT hZ (w_78 hw)) (by decide) (backOf (W := 0) (rm_pkn l Z a0 hw [] p0 b5 b12 T14.heap n0 (by omega) q0) hZ (w_78 hw) (w_62 hw) (by decide) (by decide)) (g := (mkF m 43 #[vI p0, vI p1, vI p2, vA b2, vA b5, vA b12, vI 1, vI 1, .unset] [(.int 1), (.ref b12), (.ref b5), (.int p0)])) rfl (by rw [hml]; rfl) (argsL := [(.int p0), (.ref b5), (.ref b12), (.int 1)]) (rest := []) (lenOf pd_15 rfl) rfl (Nat.le_of_eq rfl) (hb hby at_43) (fun _ _ => ⟨rfl, Kq19, (by decide : 5 + 0 ≤ _), (by decide : 5517 + 0 ≤ _)⟩)
  dsimp only [Pt.U, Pt.locs, Pt.cells, Pt.slots] at X28 l28 y28 z28 st28 hQ28
  rw [l28, y28, z28] at X28
  obtain ⟨rfl, Nq28, Kq28⟩ := hQ28
  have N28 := Fr.app N19 Nq28
  obtain ⟨cq29, kq29, qa29, qb29, qc29⟩ := isOf hZ Kq28 f23
  obtain ⟨_, _, ⟨T29, L29, k29, n29⟩, -, X29, ⟨Lc29, hQ29, l29, y29, z29⟩, st29⟩ := X28.virtualBack hx (y := m_27) (z := m_27) hown (mvT hZ (w_79 hw)) (mvT hZ (w_80 hw)) (notFace_of_selects (args := #[]) (mvT hZ (w_82 hw))) (mvT hZ (w_82 hw)) (mvT hZ (w_81 hw)) (by decide) (backOf (W := 0) (rm_fan l Z a0 hw [] b2 T14.heap n0 (by omega) f23 f27 (by omega)) hZ (w_83 hw) (w_2 hw) (by decide) (by decide)) qa29 qc29 (g := (mkF m 51 #[vI p0, vI p1, vI p2, vA b2, vA b5, vA b12, vI 1, vI 1, .val .null] [.null, (.ref b2)])) rfl (by rw [hml]; rfl) (Steps.refl _) (argsL := [.null]) (rest := []) (lenOf pd_13 rfl) rfl (Nat.le_of_eq rfl) (hb hby at_51) (fun _ _ => ⟨rfl, Kq28, (by decide : 5 + 0 ≤ _), (by decide : 5517 + 0 ≤ _)⟩)
  dsimp only [Pt.U, Pt.locs, Pt.cells, Pt.slots] at X29 l29 y29 z29 st29 hQ29
  rw [l29, y29, z29] at X29
  obtain ⟨rfl, Nq29, Kq29, r29_0, r29_1⟩ := hQ29
  have N29 := Fr.app N28 Nq29
  have z29' := Kq29.1
  have lt30 := own_l r29_0.lt
  have lt31 := own_l r29_1.lt
  obtain ⟨_, _, ⟨T32, L32, k32, n32⟩, -, X32, ⟨Lc32, hQ32, l32, y32, z32⟩, st32⟩ := Jvm.LawKit.callS X29 hx (y := m_26) hown (mvT hZ (w_60 hw)) (mvT hZ (w_61 hw)) (mvT hZ (w_62 hw)) (mvT hZ (w_63 hw)) (by decide) (backOf (W := 0) (rm_agn l Z a0 hw [] b2 T29.heap n0 (by omega) r29_0 r29_1) hZ (w_63 hw) (w_62 hw) (by decide) (by decide)) (g := (mkF m 79 #[vI p0, vI p1, vI p2, vA b2, vA b5, vA b12, vI 1, vI 1, .val .null] [(.int 1), (.ref b2)])) rfl (by rw [hml]; rfl) (argsL := [(.ref b2), (.int 1)]) (rest := []) (lenOf pd_14 rfl) rfl (Nat.le_of_eq rfl) (hb hby at_79) (fun _ _ => ⟨rfl, rfl, (by decide : 5 + 0 ≤ _), (by decide : 5517 + 0 ≤ _)⟩)
  dsimp only [Pt.U, Pt.locs, Pt.cells, Pt.slots] at X32 l32 y32 z32 st32 hQ32
  rw [l32, y32, z32] at X32
  obtain ⟨rfl, Nq32, Kq32⟩ := hQ32
  have N32 := Fr.app N29 Nq32
  obtain ⟨_, _, ⟨T33, L33, k33, n33⟩, -, X33, ⟨Lc33, hQ33, l33, y33, z33⟩, st33⟩ := Jvm.LawKit.callS X32 hx (y := m_28) hown (mvT hZ (w_76 hw)) (mvT hZ (w_77 hw)) (mvT hZ (w_62 hw)) (mvT hZ (w_78 hw)) (by decide) (backOf (W := 0) (rm_pk2e l Z a0 hw [] p1 b5 b12 T29.heap n0 (by omega) q1 w1) hZ (w_78 hw) (w_62 hw) (by decide) (by decide)) (g := (mkF m 99 #[vI p0, vI p1, vI p2, vA b2, vA b5, vA b12, vI 1, vI 1, .val .null] [(.int 1), (.ref b12), (.ref b5), (.int p1)])) rfl (by rw [hml]; rfl) (argsL := [(.int p1), (.ref b5), (.ref b12), (.int 1)]) (rest := []) (lenOf pd_15 rfl) rfl (Nat.le_of_eq rfl) (hb hby at_99) (fun _ _ => ⟨rfl, Kq32, (by decide : 5 + 0 ≤ _), (by decide : 5517 + 0 ≤ _)⟩)
  dsimp only [Pt.U, Pt.locs, Pt.cells, Pt.slots] at X33 l33 y33 z33 st33 hQ33
  rw [l33, y33, z33] at X33
  obtain ⟨rfl, Nq33, Kq33⟩ := hQ33
  have N33 := Fr.app N32 Nq33
  obtain ⟨cq34, kq34, qa34, qb34, qc34⟩ := isOf hZ Kq33 r29_0
  obtain ⟨_, _, ⟨T34, L34, k34, n34⟩, -, X34, ⟨Lc34, hQ34, l34, y34, z34⟩, st34⟩ := X33.virtualBack hx (y := m_27) (z := m_27) hown (mvT hZ (w_79 hw)) (mvT hZ (w_80 hw)) (notFace_of_selects (args := #[]) (mvT hZ (w_82 hw))) (mvT hZ (w_82 hw)) (mvT hZ (w_81 hw)) (by decide) (backOf (W := 0) (rm_far l Z a0 hw [] b2 b12 T29.heap n0 (by omega) r29_0 r29_1 (by omega)) hZ (w_83 hw) (w_2 hw) (by decide) (by decide)) qa34 qc34 (g := (mkF m 107 #[vI p0, vI p1, vI p2, vA b2, vA b5, vA b12, vI 1, vI 1, vA b12] [(.ref b12), (.ref b2)])) rfl (by rw [hml]; rfl) (Steps.refl _) (argsL := [(.ref b12)]) (rest := []) (lenOf pd_13 rfl) rfl (Nat.le_of_eq rfl) (hb hby at_107) (fun _ _ => ⟨rfl, Kq33, (by decide : 5 + 0 ≤ _), (by decide : 5517 + 0 ≤ _)⟩)
  dsimp only [Pt.U, Pt.locs, Pt.cells, Pt.slots] at X34 l34 y34 z34 st34 hQ34
  rw [l34, y34, z34] at X34
  obtain ⟨rfl, Nq34, Kq34, r34_0, r34_1⟩ := hQ34
  have N34 := Fr.app N33 Nq34
  have z34' := Kq34.1
  have lt35 := own_l r34_0.lt
  have lt36 := own_l r34_1.lt
  obtain ⟨_, _, ⟨T37, L37, k37, n37⟩, -, X37, ⟨Lc37, hQ37, l37, y37, z37⟩, st37⟩ := Jvm.LawKit.callS X34 hx (y := m_26) hown (mvT hZ (w_60 hw)) (mvT hZ (w_61 hw)) (mvT hZ (w_62 hw)) (mvT hZ (w_63 hw)) (by decide) (backOf (W := 0) (rm_agr l Z a0 hw [] b2 b12 T34.heap n0 (by omega) r34_0 r34_1) hZ (w_63 hw) (w_62 hw) (by decide) (by decide)) (g := (mkF m 135 #[vI p0, vI p1, vI p2, vA b2, vA b5, vA b12, vI 1, vI 0, vA b12] [(.int 0), (.ref b2)])) rfl (by rw [hml]; rfl) (argsL := [(.ref b2), (.int 0)]) (rest := []) (lenOf pd_14 rfl) rfl (Nat.le_of_eq rfl) (hb hby at_135) (fun _ _ => ⟨rfl, rfl, (by decide : 5 + 0 ≤ _), (by decide : 5517 + 0 ≤ _)⟩)
  dsimp only [Pt.U, Pt.locs, Pt.cells, Pt.slots] at X37 l37 y37 z37 st37 hQ37
  rw [l37, y37, z37] at X37
  obtain ⟨rfl, Nq37, Kq37⟩ := hQ37
  have N37 := Fr.app N34 Nq37
  obtain ⟨_, _, ⟨T38, L38, k38, n38⟩, -, X38, ⟨Lc38, hQ38, l38, y38, z38⟩, st38⟩ := Jvm.LawKit.callS X37 hx (y := m_28) hown (mvT hZ (w_76 hw)) (mvT hZ (w_77 hw)) (mvT hZ (w_62 hw)) (mvT hZ (w_78 hw)) (by decide) (backOf (W := 0) (rm_pk2 l Z a0 hw [] p2 b5 b12 T34.heap n0 (by omega) (own_20 w2) w2) hZ (w_78 hw) (w_62 hw) (by decide) (by decide)) (g := (mkF m 155 #[vI p0, vI p1, vI p2, vA b2, vA b5, vA b12, vI 1, vI 0, vA b12] [(.int 0), (.ref b12), (.ref b5), (.int p2)])) rfl (by rw [hml]; rfl) (argsL := [(.int p2), (.ref b5), (.ref b12), (.int 0)]) (rest := []) (lenOf pd_15 rfl) rfl (Nat.le_of_eq rfl) (hb hby at_155) (fun _ _ => ⟨rfl, Kq37, (by decide : 5 + 0 ≤ _), (by decide : 5517 + 0 ≤ _)⟩)
  dsimp only [Pt.U, Pt.locs, Pt.cells, Pt.slots] at X38 l38 y38 z38 st38 hQ38
  rw [l38, y38, z38] at X38
  obtain ⟨rfl, Nq38, Kq38⟩ := hQ38
  have N38 := Fr.app N37 Nq38
  obtain ⟨cq39, kq39, qa39, qb39, qc39⟩ := isOf hZ Kq38 r34_0
  obtain ⟨_, _, ⟨T39, L39, k39, n39⟩, -, X39, ⟨Lc39, hQ39, l39, y39, z39⟩, st39⟩ := X38.virtualBack hx (y := m_27) (z := m_27) hown (mvT hZ (w_79 hw)) (mvT hZ (w_80 hw)) (notFace_of_selects (args := #[]) (mvT hZ (w_82 hw))) (mvT hZ (w_82 hw)) (mvT hZ (w_81 hw)) (by decide) (backOf (W := 0) (rm_fas l Z a0 hw [] b2 b12 T34.heap n0 (by omega) r34_0 r34_1) hZ (w_83 hw) (w_2 hw) (by decide) (by decide)) qa39 qc39 (g := (mkF m 163 #[vI p0, vI p1, vI p2, vA b2, vA b5, vA b12, vI 1, vI 0, vA b12] [(.ref b12), (.ref b2)])) rfl (by rw [hml]; rfl) (Steps.refl _) (argsL := [(.ref b12)]) (rest := []) (lenOf pd_13 rfl) rfl (Nat.le_of_eq rfl) (hb hby at_163) (fun _ _ => ⟨rfl, Kq38, (by decide : 5 + 0 ≤ _), (by decide : 5517 + 0 ≤ _)⟩)
  dsimp only [Pt.U, Pt.locs, Pt.cells, Pt.slots] at X39 l39 y39 z39 st39 hQ39
  rw [l39, y39, z39] at X39
  obtain ⟨rfl, Nq39, Kq39⟩ := hQ39
  have N39 := Fr.app N38 Nq39
  obtain ⟨_, _, ⟨T40, L40, k40, n40⟩, -, X40, ⟨Lc40, hQ40, l40, y40, z40⟩, st40⟩ := Jvm.LawKit.callS X39 hx (y := m_26) hown (mvT hZ (w_60 hw)) (mvT hZ (w_61 hw)) (mvT hZ (w_62 hw)) (mvT hZ (w_63 hw)) (by decide) (backOf (W := 0) (rm_agr l Z a0 hw [] b2 b12 T34.heap n0 (by omega) r34_0 r34_1) hZ (w_63 hw) (w_62 hw) (by decide) (by decide)) (g := (mkF m 191 #[vI p0, vI p1, vI p2, vA b2, vA b5, vA b12, vI 1, vI 0, vA b12] [(.int 0), (.ref b2)])) rfl (by rw [hml]; rfl) (argsL := [(.ref b2), (.int 0)]) (rest := []) (lenOf pd_14 rfl) rfl (Nat.le_of_eq rfl) (hb hby at_191) (fun _ _ => ⟨rfl, Kq39, (by decide : 5 + 0 ≤ _), (by decide : 5517 + 0 ≤ _)⟩)
  dsimp only [Pt.U, Pt.locs, Pt.cells, Pt.slots] at X40 l40 y40 z40 st40 hQ40
  rw [l40, y40, z40] at X40
  obtain ⟨rfl, Nq40, Kq40⟩ := hQ40
  have N40 := Fr.app N39 Nq40
  obtain ⟨fs, hr, hrun, hended, hEnd⟩ := X40.leaveW hS0 (by first | omega | (rw [(Kq40 : T40.heap = T34.heap)]; omega)) (v := some (.int 1)) (fun h => by rw [Bd.returns] at h; cases h)
  refine ⟨_, _, castTop (ef_10 m p0 p1 p2) ?_, hrun, hended, _, _, rfl, ?_, hEnd.1, hEnd.2.1, hEnd.2.2.1, hEnd.2.2.2.mono (by decide) (by decide)⟩
  · show Steps _ _ _ (s₁.setTop (mkF m 0 #[vI p0, vI p1, vI p2, .unset, .unset, .unset, .unset, .unset, .unset] [])) _
    refine st2 _ ?_
    show Steps _ _ _ (T2.setTop (mkF m 3 #[vI p0, vI p1, vI p2, .unset, .unset, .unset, .unset, .unset, .unset] [(.ref b2)])) _
    refine XS.dup X2.here hx rfl (hb hby at_3) rfl rfl ?_
    refine st4.trans ?_
    show Steps _ _ _ (T4.setTop (mkF m 7 #[vI p0, vI p1, vI p2, .unset, .unset, .unset, .unset, .unset, .unset] [(.ref b2)])) _
    refine XS.astoreN X4.here hx rfl (hb hby at_7) rfl rfl (l' := #[vI p0, vI p1, vI p2, vA b2, .unset, .unset, .unset, .unset, .unset]) rfl ?_
    refine st5 _ ?_
    show Steps _ _ _ (T5.setTop (mkF m 11 #[vI p0, vI p1, vI p2, vA b2, .unset, .unset, .unset, .unset, .unset] [(.ref b5)])) _
    refine XS.dup X5.here hx rfl (hb hby at_11) rfl rfl ?_
    refine st7.trans ?_
    show Steps _ _ _ (T7.setTop (mkF m 15 #[vI p0, vI p1, vI p2, vA b2, .unset, .unset, .unset, .unset, .unset] [(.ref b5)])) _
    refine XS.astore X7.here hx rfl (hb hby at_15) rfl rfl (l' := #[vI p0, vI p1, vI p2, vA b2, vA b5, .unset, .unset, .unset, .unset]) rfl ?_
    refine st12 _ ?_
    show Steps _ _ _ (T12.setTop (mkF m 20 #[vI p0, vI p1, vI p2, vA b2, vA b5, .unset, .unset, .unset, .unset] [(.ref b12)])) _
    refine XS.dup X12.here hx rfl (hb hby at_20) rfl rfl ?_
    refine st14.trans ?_
    show Steps _ _ _ (T14.setTop (mkF m 24 #[vI p0, vI p1, vI p2, vA b2, vA b5, .unset, .unset, .unset, .unset] [(.ref b12)])) _
    refine XS.astore X14.here hx rfl (hb hby at_24) rfl rfl (l' := #[vI p0, vI p1, vI p2, vA b2, vA b5, vA b12, .unset, .unset, .unset]) rfl ?_
    refine XS.aloadN X14.here hx rfl (hb hby at_26) rfl rfl ?_
    refine XS.iconst X14.here hx rfl (hb hby at_27) ?_
    refine st19 _ ?_
    show Steps _ _ _ (T19.setTop (mkF m 31 #[vI p0, vI p1, vI p2, vA b2, vA b5, vA b12, .unset, .unset, .unset] [(.int 1)])) _
    refine XS.istore X19.here hx rfl (hb hby at_31) rfl (l' := #[vI p0, vI p1, vI p2, vA b2, vA b5, vA b12, vI 1, .unset, .unset]) rfl ?_
    refine XS.iconst X19.here hx rfl (hb hby at_33) ?_
    refine XS.istore X19.here hx rfl (hb hby at_34) rfl (l' := #[vI p0, vI p1, vI p2, vA b2, vA b5, vA b12, vI 1, vI 1, .unset]) rfl ?_
    refine XS.iloadN X19.here hx rfl (hb hby at_36) rfl ?_
    refine XS.aload X19.here hx rfl (hb hby at_37) rfl rfl ?_
    refine XS.aload X19.here hx rfl (hb hby at_39) rfl rfl ?_
    refine XS.iload X19.here hx rfl (hb hby at_41) rfl ?_
    refine st28 _ ?_
    show Steps _ _ _ (T28.setTop (mkF m 46 #[vI p0, vI p1, vI p2, vA b2, vA b5, vA b12, vI 1, vI 1, .unset] [.null])) _
    refine XS.astore X28.here hx rfl (hb hby at_46) rfl rfl (l' := #[vI p0, vI p1, vI p2, vA b2, vA b5, vA b12, vI 1, vI 1, .val .null]) rfl ?_
    refine XS.aloadN X28.here hx rfl (hb hby at_48) rfl rfl ?_
    refine XS.aload X28.here hx rfl (hb hby at_49) rfl rfl ?_
    refine st29.trans ?_
    show Steps _ _ _ (T29.setTop (mkF m 54 #[vI p0, vI p1, vI p2, vA b2, vA b5, vA b12, vI 1, vI 1, .val .null] [])) _
    refine XS.iload X29.here hx rfl (hb hby at_54) rfl ?_
    refine XS.ifNo X29.here hx rfl (hb hby at_56) rfl ((if0 _ _).trans (feq ((by decide) : ¬ ((1 : Int32) = (0 : Int32)))).1) ?_
    refine XS.aload X29.here hx rfl (hb hby at_59) rfl rfl ?_
    refine XS.ifnonnullNo X29.here hx rfl (hb hby at_61) rfl ?_
    refine XS.iconst X29.here hx rfl (hb hby at_64) ?_
    refine XS.goto X29.here hx rfl (pc0 := 65) (pc' := 69) rfl (hb hby at_65) (by decide) (by decide) ?_
    refine XS.istore X29.here hx rfl (hb hby at_69) rfl (l' := #[vI p0, vI p1, vI p2, vA b2, vA b5, vA b12, vI 1, vI 1, .val .null]) rfl ?_
    refine XS.iload X29.here hx rfl (hb hby at_71) rfl ?_
    refine XS.ifNo X29.here hx rfl (hb hby at_73) rfl ((if0 _ _).trans (feq ((by decide) : ¬ ((1 : Int32) = (0 : Int32)))).1) ?_
    refine XS.aloadN X29.here hx rfl (hb hby at_76) rfl rfl ?_
    refine XS.iload X29.here hx rfl (hb hby at_77) rfl ?_
    refine st32 _ ?_
    show Steps _ _ _ (T32.setTop (mkF m 82 #[vI p0, vI p1, vI p2, vA b2, vA b5, vA b12, vI 1, vI 1, .val .null] [(.int 1)])) _
    refine XS.ifNo X32.here hx rfl (hb hby at_82) rfl ((if0 _ _).trans (feq ((by decide) : ¬ ((1 : Int32) = (0 : Int32)))).1) ?_
    refine XS.iconst X32.here hx rfl (hb hby at_85) ?_
    refine XS.goto X32.here hx rfl (pc0 := 86) (pc' := 90) rfl (hb hby at_86) (by decide) (by decide) ?_
    refine XS.istore X32.here hx rfl (hb hby at_90) rfl (l' := #[vI p0, vI p1, vI p2, vA b2, vA b5, vA b12, vI 1, vI 1, .val .null]) rfl ?_
    refine XS.iloadN X32.here hx rfl (hb hby at_92) rfl ?_
    refine XS.aload X32.here hx rfl (hb hby at_93) rfl rfl ?_
    refine XS.aload X32.here hx rfl (hb hby at_95) rfl rfl ?_
    refine XS.iload X32.here hx rfl (hb hby at_97) rfl ?_
    refine st33 _ ?_
    show Steps _ _ _ (T33.setTop (mkF m 102 #[vI p0, vI p1, vI p2, vA b2, vA b5, vA b12, vI 1, vI 1, .val .null] [(.ref b12)])) _
    refine XS.astore X33.here hx rfl (hb hby at_102) rfl rfl (l' := #[vI p0, vI p1, vI p2, vA b2, vA b5, vA b12, vI 1, vI 1, vA b12]) rfl ?_
    refine XS.aloadN X33.here hx rfl (hb hby at_104) rfl rfl ?_
    refine XS.aload X33.here hx rfl (hb hby at_105) rfl rfl ?_
    refine st34.trans ?_
    show Steps _ _ _ (T34.setTop (mkF m 110 #[vI p0, vI p1, vI p2, vA b2, vA b5, vA b12, vI 1, vI 1, vA b12] [])) _
    refine XS.iload X34.here hx rfl (hb hby at_110) rfl ?_
    refine XS.ifNo X34.here hx rfl (hb hby at_112) rfl ((if0 _ _).trans (feq ((by decide) : ¬ ((1 : Int32) = (0 : Int32)))).1) ?_
    refine XS.aload X34.here hx rfl (hb hby at_115) rfl rfl ?_
    refine XS.ifnonnullYes X34.here hx rfl (pc0 := 117) (pc' := 124) rfl (hb hby at_117) rfl (by decide) (by decide) ?_
    refine XS.iconst X34.here hx rfl (hb hby at_124) ?_
    refine XS.istore X34.here hx rfl (hb hby at_125) rfl (l' := #[vI p0, vI p1, vI p2, vA b2, vA b5, vA b12, vI 1, vI 0, vA b12]) rfl ?_
    refine XS.iload X34.here hx rfl (hb hby at_127) rfl ?_
    refine XS.ifNo X34.here hx rfl (hb hby at_129) rfl ((if0 _ _).trans (feq ((by decide) : ¬ ((1 : Int32) = (0 : Int32)))).1) ?_
    refine XS.aloadN X34.here hx rfl (hb hby at_132) rfl rfl ?_
    refine XS.iload X34.here hx rfl (hb hby at_133) rfl ?_
    refine st37 _ ?_
    show Steps _ _ _ (T37.setTop (mkF m 138 #[vI p0, vI p1, vI p2, vA b2, vA b5, vA b12, vI 1, vI 0, vA b12] [(.int 1)])) _
    refine XS.ifNo X37.here hx rfl (hb hby at_138) rfl ((if0 _ _).trans (feq ((by decide) : ¬ ((1 : Int32) = (0 : Int32)))).1) ?_
    refine XS.iconst X37.here hx rfl (hb hby at_141) ?_
    refine XS.goto X37.here hx rfl (pc0 := 142) (pc' := 146) rfl (hb hby at_142) (by decide) (by decide) ?_
    refine XS.istore X37.here hx rfl (hb hby at_146) rfl (l' := #[vI p0, vI p1, vI p2, vA b2, vA b5, vA b12, vI 1, vI 0, vA b12]) rfl ?_
    refine XS.iloadN X37.here hx rfl (hb hby at_148) rfl ?_
    refine XS.aload X37.here hx rfl (hb hby at_149) rfl rfl ?_
    refine XS.aload X37.here hx rfl (hb hby at_151) rfl rfl ?_
    refine XS.iload X37.here hx rfl (hb hby at_153) rfl ?_
    refine st38 _ ?_
    show Steps _ _ _ (T38.setTop (mkF m 158 #[vI p0, vI p1, vI p2, vA b2, vA b5, vA b12, vI 1, vI 0, vA b12] [(.ref b12)])) _
    refine XS.astore X38.here hx rfl (hb hby at_158) rfl rfl (l' := #[vI p0, vI p1, vI p2, vA b2, vA b5, vA b12, vI 1, vI 0, vA b12]) rfl ?_
    refine XS.aloadN X38.here hx rfl (hb hby at_160) rfl rfl ?_
    refine XS.aload X38.here hx rfl (hb hby at_161) rfl rfl ?_
    refine st39.trans ?_
    show Steps _ _ _ (T39.setTop (mkF m 166 #[vI p0, vI p1, vI p2, vA b2, vA b5, vA b12, vI 1, vI 0, vA b12] [])) _
    refine XS.iload X39.here hx rfl (hb hby at_166) rfl ?_
    refine XS.ifYes X39.here hx rfl (pc0 := 168) (pc' := 180) rfl (hb hby at_168) rfl ((if0 _ _).trans (teq ((by decide) : (0 : Int32) = (0 : Int32))).1) (by decide) (by decide) ?_
    refine XS.iconst X39.here hx rfl (hb hby at_180) ?_
    refine XS.istore X39.here hx rfl (hb hby at_181) rfl (l' := #[vI p0, vI p1, vI p2, vA b2, vA b5, vA b12, vI 1, vI 0, vA b12]) rfl ?_
    refine XS.iload X39.here hx rfl (hb hby at_183) rfl ?_
    refine XS.ifNo X39.here hx rfl (hb hby at_185) rfl ((if0 _ _).trans (feq ((by decide) : ¬ ((1 : Int32) = (0 : Int32)))).1) ?_
    refine XS.aloadN X39.here hx rfl (hb hby at_188) rfl rfl ?_
    refine XS.iload X39.here hx rfl (hb hby at_189) rfl ?_
    refine st40 _ ?_
    show Steps _ _ _ (T40.setTop (mkF m 194 #[vI p0, vI p1, vI p2, vA b2, vA b5, vA b12, vI 1, vI 0, vA b12] [(.int 1)])) _
    refine XS.ifNo X40.here hx rfl (hb hby at_194) rfl ((if0 _ _).trans (feq ((by decide) : ¬ ((1 : Int32) = (0 : Int32)))).1) ?_
    refine XS.iconst X40.here hx rfl (hb hby at_197) ?_
    refine XS.goto X40.here hx rfl (pc0 := 198) (pc' := 202) rfl (hb hby at_198) (by decide) (by decide) ?_
    refine XS.istore X40.here hx rfl (hb hby at_202) rfl (l' := #[vI p0, vI p1, vI p2, vA b2, vA b5, vA b12, vI 1, vI 0, vA b12]) rfl ?_
    refine XS.iload X40.here hx rfl (hb hby at_204) rfl ?_
    exact retN X40 hx (t := .boolean) Bd.returns (by simp) (hb hby at_206) hr
  · show Q_law Z p0 p1 p2 su sn mo h0 n0 _ T40.heap _
    rw [(Kq40 : T40.heap = T34.heap)]
    exact ⟨rfl, N40⟩
theorem rm_law_111 (l : Launch) (Z : State) (a0 : Array Value) (hw : HW Z a0) (ws : List Jvm.Cond) (p0 : Int32) (p1 : Int32) (p2 : Int32) (su : Addr) (sn : Addr) (mo : Addr) (h0 : Heap) (n0 : Nat) (Z0 : n0 ≤ h0.size) (P0 : Old Z n0 h0) (P1 : sta0 Z (.ref su)) (P2 : sta1 Z (.ref sn)) (P3 : Mi Z "[Ljava/lang/Object;" mo) (P4 : Exa Z h0 sn "java/util/Collections$EmptyList") (hst : l.stackTraces = true) (q0 : ¬ ((p0 &&& (3 : Int32)) = (0 : Int32))) (w0 : ¬ ((p0 &&& (3 : Int32)) = (2 : Int32))) (w1 : ¬ ((p1 &&& (3 : Int32)) = (2 : Int32))) (w2 : ¬ ((p2 &&& (3 : Int32)) = (2 : Int32))) :
    MetFree l x (head1 (Jvm.Cond.code x code maxLocals ret :: ws) room_1) (fun as' U => as' = #[(.int p0), (.int p1), (.int p2)] ∧ Z.Warmed39 U.vm ∧ U.heap = h0) (fun _ _ bl s _ => s.vm.MethodsKnown ∧ s.vm.FramesKnown bl) (fun _ U o U' => ∃ v L, o = .returned v ∧ Q_law Z p0 p1 p2 su sn mo h0 n0 v U'.heap L ∧ ReturnedEndW U o U' L room_1.cells room_1.slots) := by
  refine MetFree.of_bodySF (plainFor_of_name pn_12) hisR ?_
  intro p e s m args below meth c s₁ Bd hml0 hP hK
  obtain ⟨hTK, hBl⟩ := hK
  obtain ⟨rfl, hZ, hh⟩ := hP
  have hx := Bd.exec
  have hby := Bd.bytes
  have hml : c.maxLocals = 9 := hml0
  have hown : (s.setVm s.vm).vm.findClass "com/example/maat/maat/FailuresIsEmptyPinLaw" = some m.cls := findClass_of_methodNamed Bd.named
  have hnm := (name_of_methodNamed Bd.named Bd.method).1
  have X0 : Stand p l e room_1 (s.setVm s.vm) m #[(.int p0), (.int p1), (.int p2)] below meth c s₁ [] 0 0 := Stand.of_body Bd
  have e0 : s₁.heap = h0 := by rw [← hh, Bd.state]; rfl
  have N0 := Fr.nil n0
  have hZ : Z.Warmed39 (s.setVm s.vm).vm := hZ
  have hS0 : s.Since s.vm h0.size := (State.WarmedH.refl s).since _
  have hk0 : h0.size ≤ h0.size := Nat.le_refl _
  have lt1 := own_l P4.lt
  obtain ⟨T2, h2, X2, e2, E2, A2, D2, -, st2⟩ := newO X0 hx hZ hown (w_0 hw) (w_1 hw) (w_2 hw) e0 (g := (mkF m 0 #[vI p0, vI p1, vI p2, .unset, .unset, .unset, .unset, .unset, .unset] [])) rfl (hb hby at_0) (by decide) (by decide)
  obtain ⟨b2, g2⟩ : ∃ z, z = h0.size := ⟨_, rfl⟩
  rw [← g2] at A2 D2 st2
  have z2 := E2.1
  have lt3 := own_l A2.lt
  have F2_70 : Fld Z h2 b2 "com/example/maat/maat/Failures" "first" "Ljava/lang/Throwable;" .null := D2 (Or.inl (w_70 hw)) (ty := (.object "java/lang/Throwable")) (by decide)
  obtain ⟨_, _, ⟨T4, L4, k4, n4⟩, -, X4, ⟨Lc4, hQ4, l4, y4, z4⟩, st4⟩ := X2.specialBack hx (y := m_23) rfl hown (mvT hZ (w_3 hw)) (mvT hZ (w_4 hw)) (mvT hZ (w_5 hw)) (by decide) (backOf (W := 1) (rm_fin l Z a0 hw [] b2 h2 n0 (by omega) ) hZ (w_5 hw) (w_2 hw) (by decide) (by decide)) (g := (mkF m 4 #[vI p0, vI p1, vI p2, .unset, .unset, .unset, .unset, .unset, .unset] [(.ref b2), (.ref b2)])) rfl (by rw [hml]; rfl) (Steps.refl _) (a := b2) (argsL := []) (rest := [(.ref b2)]) (lenOf pd_0 rfl) rfl (Nat.le_of_eq rfl) (hb hby at_4) (fun _ _ => ⟨rfl, e2, (by decide : 1 + 0 ≤ _), (by decide : 1 + 0 ≤ _)⟩)
  dsimp only [Pt.U, Pt.locs, Pt.cells, Pt.slots] at X4 l4 y4 z4 st4 hQ4
  rw [l4, y4, z4] at X4
  obtain ⟨rfl, Nq4, Kq4⟩ := hQ4
  have N4 := Fr.app N0 Nq4
  obtain ⟨T5, h5, X5, e5, E5, A5, D5, U5, st5⟩ := newO X4 hx hZ hown (w_9 hw) (w_10 hw) (w_11 hw) Kq4 (g := (mkF m 8 #[vI p0, vI p1, vI p2, vA b2, .unset, .unset, .unset, .unset, .unset] [])) rfl (hb hby at_8) (by decide) (by decide)
  obtain ⟨b5, g5⟩ : ∃ z, z = h2.size := ⟨_, rfl⟩
  rw [← g5] at A5 D5 U5 st5
  have z5 := E5.1
  have lt6 := own_l A5.lt
  replace U5 : Unt h5 b5 := U5
  have F5_29 : Fld Z h5 b5 "java/lang/Throwable" "cause" "Ljava/lang/Throwable;" .null := D5 (Or.inl (w_29 hw)) (ty := (.object "java/lang/Throwable")) (by decide)
  have F5_32 : Fld Z h5 b5 "java/lang/Throwable" "stackTrace" "[Ljava/lang/StackTraceElement;" .null := D5 (Or.inl (w_32 hw)) (ty := (.array (.object "java/lang/StackTraceElement"))) (by decide)
  have F5_35 : Fld Z h5 b5 "java/lang/Throwable" "suppressedExceptions" "Ljava/util/List;" .null := D5 (Or.inl (w_35 hw)) (ty := (.object "java/util/List")) (by decide)
  have F5_56 : Fld Z h5 b5 "java/lang/Throwable" "detailMessage" "Ljava/lang/String;" .null := D5 (Or.inl (w_56 hw)) (ty := (.object "java/lang/String")) (by decide)
  have F5_57 : Fld Z h5 b5 "java/lang/Throwable" "backtrace" "Ljava/lang/Object;" .null := D5 (Or.inl (w_57 hw)) (ty := (.object "java/lang/Object")) (by decide)
  have F5_58 : Fld Z h5 b5 "java/lang/Throwable" "depth" "I" (.int 0) := D5 (Or.inl (w_58 hw)) (ty := .int) (by decide)
  have f8 := P0.ext E2
  have f9 := f8.ext E5
  obtain ⟨_, _, ⟨T7, L7, k7, n7⟩, -, X7, ⟨Lc7, hQ7, l7, y7, z7⟩, st7⟩ := X5.specialBack hx (y := m_5) rfl hown (mvT hZ (w_12 hw)) (mvT hZ (w_13 hw)) (mvT hZ (w_14 hw)) (by decide) (backOfKL (W := 1) (rm_rti l Z a0 hw [] b5 su sn h5 n0 (by omega) f9 P1 P2 A5 U5 F5_29 F5_32 F5_35 F5_57 F5_58 (by omega) hst) hZ (w_14 hw) (w_11 hw) (by decide) (by decide) hTK hBl) (g := (mkF m 12 #[vI p0, vI p1, vI p2, vA b2, .unset, .unset, .unset, .unset, .unset] [(.ref b5), (.ref b5)])) rfl (by rw [hml]; rfl) (Steps.refl _) (a := b5) (argsL := []) (rest := [(.ref b5)]) (lenOf pd_0 rfl) rfl (Nat.le_of_eq rfl) (hb hby at_12) (fun _ _ => ⟨rfl, e5, (by decide : 2 + 1 ≤ _), (by decide : 7 + 2752 ≤ _)⟩)
  dsimp only [Pt.U, Pt.locs, Pt.cells, Pt.slots] at X7 l7 y7 z7 st7 hQ7
  rw [l7, y7, z7] at X7
  obtain ⟨rfl, Nq7, Kq7, r7_0, r7_1, r7_2⟩ := hQ7
  have N7 := Fr.app N4 Nq7
  have z7' := Kq7.1
  have lt10 := own_l r7_0.lt
  have lt11 := own_l r7_2.lt
  obtain ⟨T12, h12, X12, e12, E12, A12, D12, U12, st12⟩ := newO X7 hx hZ hown (w_9 hw) (w_10 hw) (w_11 hw) rfl (g := (mkF m 17 #[vI p0, vI p1, vI p2, vA b2, vA b5, .unset, .unset, .unset, .unset] [])) rfl (hb hby at_17) (by decide) (by decide)
  obtain ⟨b12, g12⟩ : ∃ z, z = T7.heap.size := ⟨_, rfl⟩
  rw [← g12] at A12 D12 U12 st12
  have z12 := E12.1
  have lt13 := own_l A12.lt
  replace U12 : Unt h12 b12 := U12
  have F12_29 : Fld Z h12 b12 "java/lang/Throwable" "cause" "Ljava/lang/Throwable;" .null := D12 (Or.inl (w_29 hw)) (ty := (.object "java/lang/Throwable")) (by decide)
  have F12_32 : Fld Z h12 b12 "java/lang/Throwable" "stackTrace" "[Ljava/lang/StackTraceElement;" .null := D12 (Or.inl (w_32 hw)) (ty := (.array (.object "java/lang/StackTraceElement"))) (by decide)
  have F12_35 : Fld Z h12 b12 "java/lang/Throwable" "suppressedExceptions" "Ljava/util/List;" .null := D12 (Or.inl (w_35 hw)) (ty := (.object "java/util/List")) (by decide)
  have F12_56 : Fld Z h12 b12 "java/lang/Throwable" "detailMessage" "Ljava/lang/String;" .null := D12 (Or.inl (w_56 hw)) (ty := (.object "java/lang/String")) (by decide)
  have F12_57 : Fld Z h12 b12 "java/lang/Throwable" "backtrace" "Ljava/lang/Object;" .null := D12 (Or.inl (w_57 hw)) (ty := (.object "java/lang/Object")) (by decide)
  have F12_58 : Fld Z h12 b12 "java/lang/Throwable" "depth" "I" (.int 0) := D12 (Or.inl (w_58 hw)) (ty := .int) (by decide)
  have f15 := f9.keep Kq7 (allS (by omega) all0)
  have f16 := f15.ext E12
  obtain ⟨_, _, ⟨T14, L14, k14, n14⟩, -, X14, ⟨Lc14, hQ14, l14, y14, z14⟩, st14⟩ := X12.specialBack hx (y := m_5) rfl hown (mvT hZ (w_12 hw)) (mvT hZ (w_13 hw)) (mvT hZ (w_14 hw)) (by decide) (backOfKL (W := 1) (rm_rti l Z a0 hw [] b12 su sn h12 n0 (by omega) f16 P1 P2 A12 U12 F12_29 F12_32 F12_35 F12_57 F12_58 (by omega) hst) hZ (w_14 hw) (w_11 hw) (by decide) (by decide) hTK hBl) (g := (mkF m 21 #[vI p0, vI p1, vI p2, vA b2, vA b5, .unset, .unset, .unset, .unset] [(.ref b12), (.ref b12)])) rfl (by rw [hml]; rfl) (Steps.refl _) (a := b12) (argsL := []) (rest := [(.ref b12)]) (lenOf pd_0 rfl) rfl (Nat.le_of_eq rfl) (hb hby at_21) (fun _ _ => ⟨rfl, e12, (by decide : 4 + 1 ≤ _), (by decide : 2765 + 2752 ≤ _)⟩)
  dsimp only [Pt.U, Pt.locs, Pt.cells, Pt.slots] at X14 l14 y14 z14 st14 hQ14
  rw [l14, y14, z14] at X14
  obtain ⟨rfl, Nq14, Kq14, r14_0, r14_1, r14_2⟩ := hQ14
  have N14 := Fr.app N7 Nq14
  have z14' := Kq14.1
  have lt17 := own_l r14_0.lt
  have lt18 := own_l r14_2.lt
  have f20 := A2.ext E5
  have f21 := f20.keep Kq7
  have f22 := f21.ext E12
  have f23 := f22.keep Kq14
  have f24 := F2_70.ext E5
  have f25 := f24.keep Kq7 (ninS (own_ne (by omega)) nin0)
  have f26 := f25.ext E12
  have f27 := f26.keep Kq14 (ninS (own_ne (by omega)) nin0)
  obtain ⟨_, _, ⟨T19, L19, k19, n19⟩, -, X19, ⟨Lc19, hQ19, l19, y19, z19⟩, st19⟩ := Jvm.LawKit.callS X14 hx (y := m_26) hown (mvT hZ (w_60 hw)) (mvT hZ (w_61 hw)) (mvT hZ (w_62 hw)) (mvT hZ (w_63 hw)) (by decide) (backOf (W := 0) (rm_agn l Z a0 hw [] b2 T14.heap n0 (by omega) f23 f27) hZ (w_63 hw) (w_62 hw) (by decide) (by decide)) (g := (mkF m 28 #[vI p0, vI p1, vI p2, vA b2, vA b5, vA b12, .unset, .unset, .unset] [(.int 1), (.ref b2)])) rfl (by rw [hml]; rfl) (argsL := [(.ref b2), (.int 1)]) (rest := []) (lenOf pd_14 rfl) rfl (Nat.le_of_eq rfl) (hb hby at_28) (fun _ _ => ⟨rfl, rfl, (by decide : 5 + 0 ≤ _), (by decide : 5517 + 0 ≤ _)⟩)
  dsimp only [Pt.U, Pt.locs, Pt.cells, Pt.slots] at X19 l19 y19 z19 st19 hQ19
  rw [l19, y19, z19] at X19
  obtain ⟨rfl, Nq19, Kq19⟩ := hQ19
  have N19 := Fr.app N14 Nq19
  obtain ⟨_, _, ⟨T28, L28, k28, n28⟩, -, X28, ⟨Lc28, hQ28, l28, y28, z28⟩, st28⟩ := Jvm.LawKit.callS X19 hx (y := m_28) hown (mvT hZ (w_76 hw)) (mvT hZ (w_77 hw)) (mvT hZ (w_62 hw)) (mvT hZ (w_78 hw)) (by decide) (backOf (W := 0) (rm_pk1e l Z a0 hw [] p0 b5 b12 T14.heap n0 (by omega) q0 w0) hZ (w_78 hw) (w_62 hw) (by decide) (by decide)) (g := (mkF m 43 #[vI p0, vI p1, vI p2, vA b2, vA b5, vA b12, vI 1, vI 1, .unset] [(.int 1), (.ref b12), (.ref b5), (.int p0)])) rfl (by rw [hml]; rfl) (argsL := [(.int p0), (.ref b5), (.ref b12), (.int 1)]) (rest := []) (lenOf pd_15 rfl) rfl (Nat.le_of_eq rfl) (hb hby at_43) (fun _ _ => ⟨rfl, Kq19, (by decide : 5 + 0 ≤ _), (by decide : 5517 + 0 ≤ _)⟩)
  dsimp only [Pt.U, Pt.locs, Pt.cells, Pt.slots] at X28 l28 y28 z28 st28 hQ28
  rw [l28, y28, z28] at X28
  obtain ⟨rfl, Nq28, Kq28⟩ := hQ28
  have N28 := Fr.app N19 Nq28
  obtain ⟨cq29, kq29, qa29, qb29, qc29⟩ := isOf hZ Kq28 f23
  obtain ⟨_, _, ⟨T29, L29, k29, n29⟩, -, X29, ⟨Lc29, hQ29, l29, y29, z29⟩, st29⟩ := X28.virtualBack hx (y := m_27) (z := m_27) hown (mvT hZ (w_79 hw)) (mvT hZ (w_80 hw)) (notFace_of_selects (args := #[]) (mvT hZ (w_82 hw))) (mvT hZ (w_82 hw)) (mvT hZ (w_81 hw)) (by decide) (backOf (W := 0) (rm_far l Z a0 hw [] b2 b5 T14.heap n0 (by omega) f23 f27 (by omega)) hZ (w_83 hw) (w_2 hw) (by decide) (by decide)) qa29 qc29 (g := (mkF m 51 #[vI p0, vI p1, vI p2, vA b2, vA b5, vA b12, vI 1, vI 1, vA b5] [(.ref b5), (.ref b2)])) rfl (by rw [hml]; rfl) (Steps.refl _) (argsL := [(.ref b5)]) (rest := []) (lenOf pd_13 rfl) rfl (Nat.le_of_eq rfl) (hb hby at_51) (fun _ _ => ⟨rfl, Kq28, (by decide : 5 + 0 ≤ _), (by decide : 5517 + 0 ≤ _)⟩)
  dsimp only [Pt.U, Pt.locs, Pt.cells, Pt.slots] at X29 l29 y29 z29 st29 hQ29
  rw [l29, y29, z29] at X29
  obtain ⟨rfl, Nq29, Kq29, r29_0, r29_1⟩ := hQ29
  have N29 := Fr.app N28 Nq29
  have z29' := Kq29.1
  have lt30 := own_l r29_0.lt
  have lt31 := own_l r29_1.lt
  obtain ⟨_, _, ⟨T32, L32, k32, n32⟩, -, X32, ⟨Lc32, hQ32, l32, y32, z32⟩, st32⟩ := Jvm.LawKit.callS X29 hx (y := m_26) hown (mvT hZ (w_60 hw)) (mvT hZ (w_61 hw)) (mvT hZ (w_62 hw)) (mvT hZ (w_63 hw)) (by decide) (backOf (W := 0) (rm_agr l Z a0 hw [] b2 b5 T29.heap n0 (by omega) r29_0 r29_1) hZ (w_63 hw) (w_62 hw) (by decide) (by decide)) (g := (mkF m 79 #[vI p0, vI p1, vI p2, vA b2, vA b5, vA b12, vI 1, vI 0, vA b5] [(.int 0), (.ref b2)])) rfl (by rw [hml]; rfl) (argsL := [(.ref b2), (.int 0)]) (rest := []) (lenOf pd_14 rfl) rfl (Nat.le_of_eq rfl) (hb hby at_79) (fun _ _ => ⟨rfl, rfl, (by decide : 5 + 0 ≤ _), (by decide : 5517 + 0 ≤ _)⟩)
  dsimp only [Pt.U, Pt.locs, Pt.cells, Pt.slots] at X32 l32 y32 z32 st32 hQ32
  rw [l32, y32, z32] at X32
  obtain ⟨rfl, Nq32, Kq32⟩ := hQ32
  have N32 := Fr.app N29 Nq32
  obtain ⟨_, _, ⟨T33, L33, k33, n33⟩, -, X33, ⟨Lc33, hQ33, l33, y33, z33⟩, st33⟩ := Jvm.LawKit.callS X32 hx (y := m_28) hown (mvT hZ (w_76 hw)) (mvT hZ (w_77 hw)) (mvT hZ (w_62 hw)) (mvT hZ (w_78 hw)) (by decide) (backOf (W := 0) (rm_pk1 l Z a0 hw [] p1 b5 b12 T29.heap n0 (by omega) w1) hZ (w_78 hw) (w_62 hw) (by decide) (by decide)) (g := (mkF m 99 #[vI p0, vI p1, vI p2, vA b2, vA b5, vA b12, vI 1, vI 0, vA b5] [(.int 0), (.ref b12), (.ref b5), (.int p1)])) rfl (by rw [hml]; rfl) (argsL := [(.int p1), (.ref b5), (.ref b12), (.int 0)]) (rest := []) (lenOf pd_15 rfl) rfl (Nat.le_of_eq rfl) (hb hby at_99) (fun _ _ => ⟨rfl, Kq32, (by decide : 5 + 0 ≤ _), (by decide : 5517 + 0 ≤ _)⟩)
  dsimp only [Pt.U, Pt.locs, Pt.cells, Pt.slots] at X33 l33 y33 z33 st33 hQ33
  rw [l33, y33, z33] at X33
  obtain ⟨rfl, Nq33, Kq33⟩ := hQ33
  have N33 := Fr.app N32 Nq33
  obtain ⟨cq34, kq34, qa34, qb34, qc34⟩ := isOf hZ Kq33 r29_0
  obtain ⟨_, _, ⟨T34, L34, k34, n34⟩, -, X34, ⟨Lc34, hQ34, l34, y34, z34⟩, st34⟩ := X33.virtualBack hx (y := m_27) (z := m_27) hown (mvT hZ (w_79 hw)) (mvT hZ (w_80 hw)) (notFace_of_selects (args := #[]) (mvT hZ (w_82 hw))) (mvT hZ (w_82 hw)) (mvT hZ (w_81 hw)) (by decide) (backOf (W := 0) (rm_fas l Z a0 hw [] b2 b5 T29.heap n0 (by omega) r29_0 r29_1) hZ (w_83 hw) (w_2 hw) (by decide) (by decide)) qa34 qc34 (g := (mkF m 107 #[vI p0, vI p1, vI p2, vA b2, vA b5, vA b12, vI 1, vI 0, vA b5] [(.ref b5), (.ref b2)])) rfl (by rw [hml]; rfl) (Steps.refl _) (argsL := [(.ref b5)]) (rest := []) (lenOf pd_13 rfl) rfl (Nat.le_of_eq rfl) (hb hby at_107) (fun _ _ => ⟨rfl, Kq33, (by decide : 5 + 0 ≤ _), (by decide : 5517 + 0 ≤ _)⟩)
  dsimp only [Pt.U, Pt.locs, Pt.cells, Pt.slots] at X34 l34 y34 z34 st34 hQ34
  rw [l34, y34, z34] at X34
  obtain ⟨rfl, Nq34, Kq34⟩ := hQ34
  have N34 := Fr.app N33 Nq34
  obtain ⟨_, _, ⟨T35, L35, k35, n35⟩, -, X35, ⟨Lc35, hQ35, l35, y35, z35⟩, st35⟩ := Jvm.LawKit.callS X34 hx (y := m_26) hown (mvT hZ (w_60 hw)) (mvT hZ (w_61 hw)) (mvT hZ (w_62 hw)) (mvT hZ (w_63 hw)) (by decide) (backOf (W := 0) (rm_agr l Z a0 hw [] b2 b5 T29.heap n0 (by omega) r29_0 r29_1) hZ (w_63 hw) (w_62 hw) (by decide) (by decide)) (g := (mkF m 135 #[vI p0, vI p1, vI p2, vA b2, vA b5, vA b12, vI 1, vI 0, vA b5] [(.int 0), (.ref b2)])) rfl (by rw [hml]; rfl) (argsL := [(.ref b2), (.int 0)]) (rest := []) (lenOf pd_14 rfl) rfl (Nat.le_of_eq rfl) (hb hby at_135) (fun _ _ => ⟨rfl, Kq34, (by decide : 5 + 0 ≤ _), (by decide : 5517 + 0 ≤ _)⟩)
  dsimp only [Pt.U, Pt.locs, Pt.cells, Pt.slots] at X35 l35 y35 z35 st35 hQ35
  rw [l35, y35, z35] at X35
  obtain ⟨rfl, Nq35, Kq35⟩ := hQ35
  have N35 := Fr.app N34 Nq35
  obtain ⟨_, _, ⟨T36, L36, k36, n36⟩, -, X36, ⟨Lc36, hQ36, l36, y36, z36⟩, st36⟩ := Jvm.LawKit.callS X35 hx (y := m_28) hown (mvT hZ (w_76 hw)) (mvT hZ (w_77 hw)) (mvT hZ (w_62 hw)) (mvT hZ (w_78 hw)) (by decide) (backOf (W := 0) (rm_pk1 l Z a0 hw [] p2 b5 b12 T29.heap n0 (by omega) w2) hZ (w_78 hw) (w_62 hw) (by decide) (by decide)) (g := (mkF m 155 #[vI p0, vI p1, vI p2, vA b2, vA b5, vA b12, vI 1, vI 0, vA b5] [(.int 0), (.ref b12), (.ref b5), (.int p2)])) rfl (by rw [hml]; rfl) (argsL := [(.int p2), (.ref b5), (.ref b12), (.int 0)]) (rest := []) (lenOf pd_15 rfl) rfl (Nat.le_of_eq rfl) (hb hby at_155) (fun _ _ => ⟨rfl, Kq35, (by decide : 5 + 0 ≤ _), (by decide : 5517 + 0 ≤ _)⟩)
  dsimp only [Pt.U, Pt.locs, Pt.cells, Pt.slots] at X36 l36 y36 z36 st36 hQ36
  rw [l36, y36, z36] at X36
  obtain ⟨rfl, Nq36, Kq36⟩ := hQ36
  have N36 := Fr.app N35 Nq36
  obtain ⟨cq37, kq37, qa37, qb37, qc37⟩ := isOf hZ Kq36 r29_0
  obtain ⟨_, _, ⟨T37, L37, k37, n37⟩, -, X37, ⟨Lc37, hQ37, l37, y37, z37⟩, st37⟩ := X36.virtualBack hx (y := m_27) (z := m_27) hown (mvT hZ (w_79 hw)) (mvT hZ (w_80 hw)) (notFace_of_selects (args := #[]) (mvT hZ (w_82 hw))) (mvT hZ (w_82 hw)) (mvT hZ (w_81 hw)) (by decide) (backOf (W := 0) (rm_fas l Z a0 hw [] b2 b5 T29.heap n0 (by omega) r29_0 r29_1) hZ (w_83 hw) (w_2 hw) (by decide) (by decide)) qa37 qc37 (g := (mkF m 163 #[vI p0, vI p1, vI p2, vA b2, vA b5, vA b12, vI 1, vI 0, vA b5] [(.ref b5), (.ref b2)])) rfl (by rw [hml]; rfl) (Steps.refl _) (argsL := [(.ref b5)]) (rest := []) (lenOf pd_13 rfl) rfl (Nat.le_of_eq rfl) (hb hby at_163) (fun _ _ => ⟨rfl, Kq36, (by decide : 5 + 0 ≤ _), (by decide : 5517 + 0 ≤ _)⟩)
  dsimp only [Pt.U, Pt.locs, Pt.cells, Pt.slots] at X37 l37 y37 z37 st37 hQ37
  rw [l37, y37, z37] at X37
  obtain ⟨rfl, Nq37, Kq37⟩ := hQ37
  have N37 := Fr.app N36 Nq37
  obtain ⟨_, _, ⟨T38, L38, k38, n38⟩, -, X38, ⟨Lc38, hQ38, l38, y38, z38⟩, st38⟩ := Jvm.LawKit.callS X37 hx (y := m_26) hown (mvT hZ (w_60 hw)) (mvT hZ (w_61 hw)) (mvT hZ (w_62 hw)) (mvT hZ (w_63 hw)) (by decide) (backOf (W := 0) (rm_agr l Z a0 hw [] b2 b5 T29.heap n0 (by omega) r29_0 r29_1) hZ (w_63 hw) (w_62 hw) (by decide) (by decide)) (g := (mkF m 191 #[vI p0, vI p1, vI p2, vA b2, vA b5, vA b12, vI 1, vI 0, vA b5] [(.int 0), (.ref b2)])) rfl (by rw [hml]; rfl) (argsL := [(.ref b2), (.int 0)]) (rest := []) (lenOf pd_14 rfl) rfl (Nat.le_of_eq rfl) (hb hby at_191) (fun _ _ => ⟨rfl, Kq37, (by decide : 5 + 0 ≤ _), (by decide : 5517 + 0 ≤ _)⟩)
  dsimp only [Pt.U, Pt.locs, Pt.cells, Pt.slots] at X38 l38 y38 z38 st38 hQ38
  rw [l38, y38, z38] at X38
  obtain ⟨rfl, Nq38, Kq38⟩ := hQ38
  have N38 := Fr.app N37 Nq38
  obtain ⟨fs, hr, hrun, hended, hEnd⟩ := X38.leaveW hS0 (by first | omega | (rw [(Kq38 : T38.heap = T29.heap)]; omega)) (v := some (.int 1)) (fun h => by rw [Bd.returns] at h; cases h)
  refine ⟨_, _, castTop (ef_10 m p0 p1 p2) ?_, hrun, hended, _, _, rfl, ?_, hEnd.1, hEnd.2.1, hEnd.2.2.1, hEnd.2.2.2.mono (by decide) (by decide)⟩
  · show Steps _ _ _ (s₁.setTop (mkF m 0 #[vI p0, vI p1, vI p2, .unset, .unset, .unset, .unset, .unset, .unset] [])) _
    refine st2 _ ?_
    show Steps _ _ _ (T2.setTop (mkF m 3 #[vI p0, vI p1, vI p2, .unset, .unset, .unset, .unset, .unset, .unset] [(.ref b2)])) _
    refine XS.dup X2.here hx rfl (hb hby at_3) rfl rfl ?_
    refine st4.trans ?_
    show Steps _ _ _ (T4.setTop (mkF m 7 #[vI p0, vI p1, vI p2, .unset, .unset, .unset, .unset, .unset, .unset] [(.ref b2)])) _
    refine XS.astoreN X4.here hx rfl (hb hby at_7) rfl rfl (l' := #[vI p0, vI p1, vI p2, vA b2, .unset, .unset, .unset, .unset, .unset]) rfl ?_
    refine st5 _ ?_
    show Steps _ _ _ (T5.setTop (mkF m 11 #[vI p0, vI p1, vI p2, vA b2, .unset, .unset, .unset, .unset, .unset] [(.ref b5)])) _
    refine XS.dup X5.here hx rfl (hb hby at_11) rfl rfl ?_
    refine st7.trans ?_
    show Steps _ _ _ (T7.setTop (mkF m 15 #[vI p0, vI p1, vI p2, vA b2, .unset, .unset, .unset, .unset, .unset] [(.ref b5)])) _
    refine XS.astore X7.here hx rfl (hb hby at_15) rfl rfl (l' := #[vI p0, vI p1, vI p2, vA b2, vA b5, .unset, .unset, .unset, .unset]) rfl ?_
    refine st12 _ ?_
    show Steps _ _ _ (T12.setTop (mkF m 20 #[vI p0, vI p1, vI p2, vA b2, vA b5, .unset, .unset, .unset, .unset] [(.ref b12)])) _
    refine XS.dup X12.here hx rfl (hb hby at_20) rfl rfl ?_
    refine st14.trans ?_
    show Steps _ _ _ (T14.setTop (mkF m 24 #[vI p0, vI p1, vI p2, vA b2, vA b5, .unset, .unset, .unset, .unset] [(.ref b12)])) _
    refine XS.astore X14.here hx rfl (hb hby at_24) rfl rfl (l' := #[vI p0, vI p1, vI p2, vA b2, vA b5, vA b12, .unset, .unset, .unset]) rfl ?_
    refine XS.aloadN X14.here hx rfl (hb hby at_26) rfl rfl ?_
    refine XS.iconst X14.here hx rfl (hb hby at_27) ?_
    refine st19 _ ?_
    show Steps _ _ _ (T19.setTop (mkF m 31 #[vI p0, vI p1, vI p2, vA b2, vA b5, vA b12, .unset, .unset, .unset] [(.int 1)])) _
    refine XS.istore X19.here hx rfl (hb hby at_31) rfl (l' := #[vI p0, vI p1, vI p2, vA b2, vA b5, vA b12, vI 1, .unset, .unset]) rfl ?_
    refine XS.iconst X19.here hx rfl (hb hby at_33) ?_
    refine XS.istore X19.here hx rfl (hb hby at_34) rfl (l' := #[vI p0, vI p1, vI p2, vA b2, vA b5, vA b12, vI 1, vI 1, .unset]) rfl ?_
    refine XS.iloadN X19.here hx rfl (hb hby at_36) rfl ?_
    refine XS.aload X19.here hx rfl (hb hby at_37) rfl rfl ?_
    refine XS.aload X19.here hx rfl (hb hby at_39) rfl rfl ?_
    refine XS.iload X19.here hx rfl (hb hby at_41) rfl ?_
    refine st28 _ ?_
    show Steps _ _ _ (T28.setTop (mkF m 46 #[vI p0, vI p1, vI p2, vA b2, vA b5, vA b12, vI 1, vI 1, .unset] [(.ref b5)])) _
    refine XS.astore X28.here hx rfl (hb hby at_46) rfl rfl (l' := #[vI p0, vI p1, vI p2, vA b2, vA b5, vA b12, vI 1, vI 1, vA b5]) rfl ?_
    refine XS.aloadN X28.here hx rfl (hb hby at_48) rfl rfl ?_
    refine XS.aload X28.here hx rfl (hb hby at_49) rfl rfl ?_
    refine st29.trans ?_
    show Steps _ _ _ (T29.setTop (mkF m 54 #[vI p0, vI p1, vI p2, vA b2, vA b5, vA b12, vI 1, vI 1, vA b5] [])) _
    refine XS.iload X29.here hx rfl (hb hby at_54) rfl ?_
    refine XS.ifNo X29.here hx rfl (hb hby at_56) rfl ((if0 _ _).trans (feq ((by decide) : ¬ ((1 : Int32) = (0 : Int32)))).1) ?_
    refine XS.aload X29.here hx rfl (hb hby at_59) rfl rfl ?_
    refine XS.ifnonnullYes X29.here hx rfl (pc0 := 61) (pc' := 68) rfl (hb hby at_61) rfl (by decide) (by decide) ?_
    refine XS.iconst X29.here hx rfl (hb hby at_68) ?_
    refine XS.istore X29.here hx rfl (hb hby at_69) rfl (l' := #[vI p0, vI p1, vI p2, vA b2, vA b5, vA b12, vI 1, vI 0, vA b5]) rfl ?_
    refine XS.iload X29.here hx rfl (hb hby at_71) rfl ?_
    refine XS.ifNo X29.here hx rfl (hb hby at_73) rfl ((if0 _ _).trans (feq ((by decide) : ¬ ((1 : Int32) = (0 : Int32)))).1) ?_
    refine XS.aloadN X29.here hx rfl (hb hby at_76) rfl rfl ?_
    refine XS.iload X29.here hx rfl (hb hby at_77) rfl ?_
    refine st32 _ ?_
    show Steps _ _ _ (T32.setTop (mkF m 82 #[vI p0, vI p1, vI p2, vA b2, vA b5, vA b12, vI 1, vI 0, vA b5] [(.int 1)])) _
    refine XS.ifNo X32.here hx rfl (hb hby at_82) rfl ((if0 _ _).trans (feq ((by decide) : ¬ ((1 : Int32) = (0 : Int32)))).1) ?_
    refine XS.iconst X32.here hx rfl (hb hby at_85) ?_
    refine XS.goto X32.here hx rfl (pc0 := 86) (pc' := 90) rfl (hb hby at_86) (by decide) (by decide) ?_
    refine XS.istore X32.here hx rfl (hb hby at_90) rfl (l' := #[vI p0, vI p1, vI p2, vA b2, vA b5, vA b12, vI 1, vI 0, vA b5]) rfl ?_
    refine XS.iloadN X32.here hx rfl (hb hby at_92) rfl ?_
    refine XS.aload X32.here hx rfl (hb hby at_93) rfl rfl ?_
    refine XS.aload X32.here hx rfl (hb hby at_95) rfl rfl ?_
    refine XS.iload X32.here hx rfl (hb hby at_97) rfl ?_
    refine st33 _ ?_
    show Steps _ _ _ (T33.setTop (mkF m 102 #[vI p0, vI p1, vI p2, vA b2, vA b5, vA b12, vI 1, vI 0, vA b5] [(.ref b5)])) _
    refine XS.astore X33.here hx rfl (hb hby at_102) rfl rfl (l' := #[vI p0, vI p1, vI p2, vA b2, vA b5, vA b12, vI 1, vI 0, vA b5]) rfl ?_
    refine XS.aloadN X33.here hx rfl (hb hby at_104) rfl rfl ?_
    refine XS.aload X33.here hx rfl (hb hby at_105) rfl rfl ?_
    refine st34.trans ?_
    show Steps _ _ _ (T34.setTop (mkF m 110 #[vI p0, vI p1, vI p2, vA b2, vA b5, vA b12, vI 1, vI 0, vA b5] [])) _
    refine XS.iload X34.here hx rfl (hb hby at_110) rfl ?_
    refine XS.ifYes X34.here hx rfl (pc0 := 112) (pc' := 124) rfl (hb hby at_112) rfl ((if0 _ _).trans (teq ((by decide) : (0 : Int32) = (0 : Int32))).1) (by decide) (by decide) ?_
    refine XS.iconst X34.here hx rfl (hb hby at_124) ?_
    refine XS.istore X34.here hx rfl (hb hby at_125) rfl (l' := #[vI p0, vI p1, vI p2, vA b2, vA b5, vA b12, vI 1, vI 0, vA b5]) rfl ?_
    refine XS.iload X34.here hx rfl (hb hby at_127) rfl ?_
    refine XS.ifNo X34.here hx rfl (hb hby at_129) rfl ((if0 _ _).trans (feq ((by decide) : ¬ ((1 : Int32) = (0 : Int32)))).1) ?_
    refine XS.aloadN X34.here hx rfl (hb hby at_132) rfl rfl ?_
    refine XS.iload X34.here hx rfl (hb hby at_133) rfl ?_
    refine st35 _ ?_
    show Steps _ _ _ (T35.setTop (mkF m 138 #[vI p0, vI p1, vI p2, vA b2, vA b5, vA b12, vI 1, vI 0, vA b5] [(.int 1)])) _
    refine XS.ifNo X35.here hx rfl (hb hby at_138) rfl ((if0 _ _).trans (feq ((by decide) : ¬ ((1 : Int32) = (0 : Int32)))).1) ?_
    refine XS.iconst X35.here hx rfl (hb hby at_141) ?_
    refine XS.goto X35.here hx rfl (pc0 := 142) (pc' := 146) rfl (hb hby at_142) (by decide) (by decide) ?_
    refine XS.istore X35.here hx rfl (hb hby at_146) rfl (l' := #[vI p0, vI p1, vI p2, vA b2, vA b5, vA b12, vI 1, vI 0, vA b5]) rfl ?_
    refine XS.iloadN X35.here hx rfl (hb hby at_148) rfl ?_
    refine XS.aload X35.here hx rfl (hb hby at_149) rfl rfl ?_
    refine XS.aload X35.here hx rfl (hb hby at_151) rfl rfl ?_
    refine XS.iload X35.here hx rfl (hb hby at_153) rfl ?_
    refine st36 _ ?_
    show Steps _ _ _ (T36.setTop (mkF m 158 #[vI p0, vI p1, vI p2, vA b2, vA b5, vA b12, vI 1, vI 0, vA b5] [(.ref b5)])) _
    refine XS.astore X36.here hx rfl (hb hby at_158) rfl rfl (l' := #[vI p0, vI p1, vI p2, vA b2, vA b5, vA b12, vI 1, vI 0, vA b5]) rfl ?_
    refine XS.aloadN X36.here hx rfl (hb hby at_160) rfl rfl ?_
    refine XS.aload X36.here hx rfl (hb hby at_161) rfl rfl ?_
    refine st37.trans ?_
    show Steps _ _ _ (T37.setTop (mkF m 166 #[vI p0, vI p1, vI p2, vA b2, vA b5, vA b12, vI 1, vI 0, vA b5] [])) _
    refine XS.iload X37.here hx rfl (hb hby at_166) rfl ?_
    refine XS.ifYes X37.here hx rfl (pc0 := 168) (pc' := 180) rfl (hb hby at_168) rfl ((if0 _ _).trans (teq ((by decide) : (0 : Int32) = (0 : Int32))).1) (by decide) (by decide) ?_
    refine XS.iconst X37.here hx rfl (hb hby at_180) ?_
    refine XS.istore X37.here hx rfl (hb hby at_181) rfl (l' := #[vI p0, vI p1, vI p2, vA b2, vA b5, vA b12, vI 1, vI 0, vA b5]) rfl ?_
    refine XS.iload X37.here hx rfl (hb hby at_183) rfl ?_
    refine XS.ifNo X37.here hx rfl (hb hby at_185) rfl ((if0 _ _).trans (feq ((by decide) : ¬ ((1 : Int32) = (0 : Int32)))).1) ?_
    refine XS.aloadN X37.here hx rfl (hb hby at_188) rfl rfl ?_
    refine XS.iload X37.here hx rfl (hb hby at_189) rfl ?_
    refine st38 _ ?_
    show Steps _ _ _ (T38.setTop (mkF m 194 #[vI p0, vI p1, vI p2, vA b2, vA b5, vA b12, vI 1, vI 0, vA b5] [(.int 1)])) _
    refine XS.ifNo X38.here hx rfl (hb hby at_194) rfl ((if0 _ _).trans (feq ((by decide) : ¬ ((1 : Int32) = (0 : Int32)))).1) ?_
    refine XS.iconst X38.here hx rfl (hb hby at_197) ?_
    refine XS.goto X38.here hx rfl (pc0 := 198) (pc' := 202) rfl (hb hby at_198) (by decide) (by decide) ?_
    refine XS.istore X38.here hx rfl (hb hby at_202) rfl (l' := #[vI p0, vI p1, vI p2, vA b2, vA b5, vA b12, vI 1, vI 0, vA b5]) rfl ?_
    refine XS.iload X38.here hx rfl (hb hby at_204) rfl ?_
    exact retN X38 hx (t := .boolean) Bd.returns (by simp) (hb hby at_206) hr
  · show Q_law Z p0 p1 p2 su sn mo h0 n0 _ T38.heap _
    rw [(Kq38 : T38.heap = T29.heap)]
    exact ⟨rfl, N38⟩
theorem rm_law_112 (l : Launch) (Z : State) (a0 : Array Value) (hw : HW Z a0) (ws : List Jvm.Cond) (p0 : Int32) (p1 : Int32) (p2 : Int32) (su : Addr) (sn : Addr) (mo : Addr) (h0 : Heap) (n0 : Nat) (Z0 : n0 ≤ h0.size) (P0 : Old Z n0 h0) (P1 : sta0 Z (.ref su)) (P2 : sta1 Z (.ref sn)) (P3 : Mi Z "[Ljava/lang/Object;" mo) (P4 : Exa Z h0 sn "java/util/Collections$EmptyList") (hst : l.stackTraces = true) (q0 : ¬ ((p0 &&& (3 : Int32)) = (0 : Int32))) (w0 : ¬ ((p0 &&& (3 : Int32)) = (2 : Int32))) (w1 : ¬ ((p1 &&& (3 : Int32)) = (2 : Int32))) (w2 : (p2 &&& (3 : Int32)) = (2 : Int32)) :
    MetFree l x (head1 (Jvm.Cond.code x code maxLocals ret :: ws) room_1) (fun as' U => as' = #[(.int p0), (.int p1), (.int p2)] ∧ Z.Warmed39 U.vm ∧ U.heap = h0) (fun _ _ bl s _ => s.vm.MethodsKnown ∧ s.vm.FramesKnown bl) (fun _ U o U' => ∃ v L, o = .returned v ∧ Q_law Z p0 p1 p2 su sn mo h0 n0 v U'.heap L ∧ ReturnedEndW U o U' L room_1.cells room_1.slots) := by
  refine MetFree.of_bodySF (plainFor_of_name pn_12) hisR ?_
  intro p e s m args below meth c s₁ Bd hml0 hP hK
  obtain ⟨hTK, hBl⟩ := hK
  obtain ⟨rfl, hZ, hh⟩ := hP
  have hx := Bd.exec
  have hby := Bd.bytes
  have hml : c.maxLocals = 9 := hml0
  have hown : (s.setVm s.vm).vm.findClass "com/example/maat/maat/FailuresIsEmptyPinLaw" = some m.cls := findClass_of_methodNamed Bd.named
  have hnm := (name_of_methodNamed Bd.named Bd.method).1
  have X0 : Stand p l e room_1 (s.setVm s.vm) m #[(.int p0), (.int p1), (.int p2)] below meth c s₁ [] 0 0 := Stand.of_body Bd
  have e0 : s₁.heap = h0 := by rw [← hh, Bd.state]; rfl
  have N0 := Fr.nil n0
  have hZ : Z.Warmed39 (s.setVm s.vm).vm := hZ
  have hS0 : s.Since s.vm h0.size := (State.WarmedH.refl s).since _
  have hk0 : h0.size ≤ h0.size := Nat.le_refl _
  have lt1 := own_l P4.lt
  obtain ⟨T2, h2, X2, e2, E2, A2, D2, -, st2⟩ := newO X0 hx hZ hown (w_0 hw) (w_1 hw) (w_2 hw) e0 (g := (mkF m 0 #[vI p0, vI p1, vI p2, .unset, .unset, .unset, .unset, .unset, .unset] [])) rfl (hb hby at_0) (by decide) (by decide)
  obtain ⟨b2, g2⟩ : ∃ z, z = h0.size := ⟨_, rfl⟩
  rw [← g2] at A2 D2 st2
  have z2 := E2.1
  have lt3 := own_l A2.lt
  have F2_70 : Fld Z h2 b2 "com/example/maat/maat/Failures" "first" "Ljava/lang/Throwable;" .null := D2 (Or.inl (w_70 hw)) (ty := (.object "java/lang/Throwable")) (by decide)
  obtain ⟨_, _, ⟨T4, L4, k4, n4⟩, -, X4, ⟨Lc4, hQ4, l4, y4, z4⟩, st4⟩ := X2.specialBack hx (y := m_23) rfl hown (mvT hZ (w_3 hw)) (mvT hZ (w_4 hw)) (mvT hZ (w_5 hw)) (by decide) (backOf (W := 1) (rm_fin l Z a0 hw [] b2 h2 n0 (by omega) ) hZ (w_5 hw) (w_2 hw) (by decide) (by decide)) (g := (mkF m 4 #[vI p0, vI p1, vI p2, .unset, .unset, .unset, .unset, .unset, .unset] [(.ref b2), (.ref b2)])) rfl (by rw [hml]; rfl) (Steps.refl _) (a := b2) (argsL := []) (rest := [(.ref b2)]) (lenOf pd_0 rfl) rfl (Nat.le_of_eq rfl) (hb hby at_4) (fun _ _ => ⟨rfl, e2, (by decide : 1 + 0 ≤ _), (by decide : 1 + 0 ≤ _)⟩)
  dsimp only [Pt.U, Pt.locs, Pt.cells, Pt.slots] at X4 l4 y4 z4 st4 hQ4
  rw [l4, y4, z4] at X4
  obtain ⟨rfl, Nq4, Kq4⟩ := hQ4
  have N4 := Fr.app N0 Nq4
  obtain ⟨T5, h5, X5, e5, E5, A5, D5, U5, st5⟩ := newO X4 hx hZ hown (w_9 hw) (w_10 hw) (w_11 hw) Kq4 (g := (mkF m 8 #[vI p0, vI p1, vI p2, vA b2, .unset, .unset, .unset, .unset, .unset] [])) rfl (hb hby at_8) (by decide) (by decide)
  obtain ⟨b5, g5⟩ : ∃ z, z = h2.size := ⟨_, rfl⟩
  rw [← g5] at A5 D5 U5 st5
  have z5 := E5.1
  have lt6 := own_l A5.lt
  replace U5 : Unt h5 b5 := U5
  have F5_29 : Fld Z h5 b5 "java/lang/Throwable" "cause" "Ljava/lang/Throwable;" .null := D5 (Or.inl (w_29 hw)) (ty := (.object "java/lang/Throwable")) (by decide)
  have F5_32 : Fld Z h5 b5 "java/lang/Throwable" "stackTrace" "[Ljava/lang/StackTraceElement;" .null := D5 (Or.inl (w_32 hw)) (ty := (.array (.object "java/lang/StackTraceElement"))) (by decide)
  have F5_35 : Fld Z h5 b5 "java/lang/Throwable" "suppressedExceptions" "Ljava/util/List;" .null := D5 (Or.inl (w_35 hw)) (ty := (.object "java/util/List")) (by decide)
  have F5_56 : Fld Z h5 b5 "java/lang/Throwable" "detailMessage" "Ljava/lang/String;" .null := D5 (Or.inl (w_56 hw)) (ty := (.object "java/lang/String")) (by decide)
  have F5_57 : Fld Z h5 b5 "java/lang/Throwable" "backtrace" "Ljava/lang/Object;" .null := D5 (Or.inl (w_57 hw)) (ty := (.object "java/lang/Object")) (by decide)
  have F5_58 : Fld Z h5 b5 "java/lang/Throwable" "depth" "I" (.int 0) := D5 (Or.inl (w_58 hw)) (ty := .int) (by decide)
  have f8 := P0.ext E2
  have f9 := f8.ext E5
  obtain ⟨_, _, ⟨T7, L7, k7, n7⟩, -, X7, ⟨Lc7, hQ7, l7, y7, z7⟩, st7⟩ := X5.specialBack hx (y := m_5) rfl hown (mvT hZ (w_12 hw)) (mvT hZ (w_13 hw)) (mvT hZ (w_14 hw)) (by decide) (backOfKL (W := 1) (rm_rti l Z a0 hw [] b5 su sn h5 n0 (by omega) f9 P1 P2 A5 U5 F5_29 F5_32 F5_35 F5_57 F5_58 (by omega) hst) hZ (w_14 hw) (w_11 hw) (by decide) (by decide) hTK hBl) (g := (mkF m 12 #[vI p0, vI p1, vI p2, vA b2, .unset, .unset, .unset, .unset, .unset] [(.ref b5), (.ref b5)])) rfl (by rw [hml]; rfl) (Steps.refl _) (a := b5) (argsL := []) (rest := [(.ref b5)]) (lenOf pd_0 rfl) rfl (Nat.le_of_eq rfl) (hb hby at_12) (fun _ _ => ⟨rfl, e5, (by decide : 2 + 1 ≤ _), (by decide : 7 + 2752 ≤ _)⟩)
  dsimp only [Pt.U, Pt.locs, Pt.cells, Pt.slots] at X7 l7 y7 z7 st7 hQ7
  rw [l7, y7, z7] at X7
  obtain ⟨rfl, Nq7, Kq7, r7_0, r7_1, r7_2⟩ := hQ7
  have N7 := Fr.app N4 Nq7
  have z7' := Kq7.1
  have lt10 := own_l r7_0.lt
  have lt11 := own_l r7_2.lt
  obtain ⟨T12, h12, X12, e12, E12, A12, D12, U12, st12⟩ := newO X7 hx hZ hown (w_9 hw) (w_10 hw) (w_11 hw) rfl (g := (mkF m 17 #[vI p0, vI p1, vI p2, vA b2, vA b5, .unset, .unset, .unset, .unset] [])) rfl (hb hby at_17) (by decide) (by decide)
  obtain ⟨b12, g12⟩ : ∃ z, z = T7.heap.size := ⟨_, rfl⟩
  rw [← g12] at A12 D12 U12 st12
  have z12 := E12.1
  have lt13 := own_l A12.lt
  replace U12 : Unt h12 b12 := U12
  have F12_29 : Fld Z h12 b12 "java/lang/Throwable" "cause" "Ljava/lang/Throwable;" .null := D12 (Or.inl (w_29 hw)) (ty := (.object "java/lang/Throwable")) (by decide)
  have F12_32 : Fld Z h12 b12 "java/lang/Throwable" "stackTrace" "[Ljava/lang/StackTraceElement;" .null := D12 (Or.inl (w_32 hw)) (ty := (.array (.object "java/lang/StackTraceElement"))) (by decide)
  have F12_35 : Fld Z h12 b12 "java/lang/Throwable" "suppressedExceptions" "Ljava/util/List;" .null := D12 (Or.inl (w_35 hw)) (ty := (.object "java/util/List")) (by decide)
  have F12_56 : Fld Z h12 b12 "java/lang/Throwable" "detailMessage" "Ljava/lang/String;" .null := D12 (Or.inl (w_56 hw)) (ty := (.object "java/lang/String")) (by decide)
  have F12_57 : Fld Z h12 b12 "java/lang/Throwable" "backtrace" "Ljava/lang/Object;" .null := D12 (Or.inl (w_57 hw)) (ty := (.object "java/lang/Object")) (by decide)
  have F12_58 : Fld Z h12 b12 "java/lang/Throwable" "depth" "I" (.int 0) := D12 (Or.inl (w_58 hw)) (ty := .int) (by decide)
  have f15 := f9.keep Kq7 (allS (by omega) all0)
  have f16 := f15.ext E12
  obtain ⟨_, _, ⟨T14, L14, k14, n14⟩, -, X14, ⟨Lc14, hQ14, l14, y14, z14⟩, st14⟩ := X12.specialBack hx (y := m_5) rfl hown (mvT hZ (w_12 hw)) (mvT hZ (w_13 hw)) (mvT hZ (w_14 hw)) (by decide) (backOfKL (W := 1) (rm_rti l Z a0 hw [] b12 su sn h12 n0 (by omega) f16 P1 P2 A12 U12 F12_29 F12_32 F12_35 F12_57 F12_58 (by omega) hst) hZ (w_14 hw) (w_11 hw) (by decide) (by decide) hTK hBl) (g := (mkF m 21 #[vI p0, vI p1, vI p2, vA b2, vA b5, .unset, .unset, .unset, .unset] [(.ref b12), (.ref b12)])) rfl (by rw [hml]; rfl) (Steps.refl _) (a := b12) (argsL := []) (rest := [(.ref b12)]) (lenOf pd_0 rfl) rfl (Nat.le_of_eq rfl) (hb hby at_21) (fun _ _ => ⟨rfl, e12, (by decide : 4 + 1 ≤ _), (by decide : 2765 + 2752 ≤ _)⟩)
  dsimp only [Pt.U, Pt.locs, Pt.cells, Pt.slots] at X14 l14 y14 z14 st14 hQ14
  rw [l14, y14, z14] at X14
  obtain ⟨rfl, Nq14, Kq14, r14_0, r14_1, r14_2⟩ := hQ14
  have N14 := Fr.app N7 Nq14
  have z14' := Kq14.1
  have lt17 := own_l r14_0.lt
  have lt18 := own_l r14_2.lt
  have f20 := A2.ext E5
  have f21 := f20.keep Kq7
  have f22 := f21.ext E12
  have f23 := f22.keep Kq14
  have f24 := F2_70.ext E5
  have f25 := f24.keep Kq7 (ninS (own_ne (by omega)) nin0)
  have f26 := f25.ext E12
  have f27 := f26.keep Kq14 (ninS (own_ne (by omega)) nin0)
  obtain ⟨_, _, ⟨T19, L19, k19, n19⟩, -, X19, ⟨Lc19, hQ19, l19, y19, z19⟩, st19⟩ := Jvm.LawKit.callS X14 hx (y := m_26) hown (mvT hZ (w_60 hw)) (mvT hZ (w_61 hw)) (mvT hZ (w_62 hw)) (mvT hZ (w_63 hw)) (by decide) (backOf (W := 0) (rm_agn l Z a0 hw [] b2 T14.heap n0 (by omega) f23 f27) hZ (w_63 hw) (w_62 hw) (by decide) (by decide)) (g := (mkF m 28 #[vI p0, vI p1, vI p2, vA b2, vA b5, vA b12, .unset, .unset, .unset] [(.int 1), (.ref b2)])) rfl (by rw [hml]; rfl) (argsL := [(.ref b2), (.int 1)]) (rest := []) (lenOf pd_14 rfl) rfl (Nat.le_of_eq rfl) (hb hby at_28) (fun _ _ => ⟨rfl, rfl, (by decide : 5 + 0 ≤ _), (by decide : 5517 + 0 ≤ _)⟩)
  dsimp only [Pt.U, Pt.locs, Pt.cells, Pt.slots] at X19 l19 y19 z19 st19 hQ19
  rw [l19, y19, z19] at X19
  obtain ⟨rfl, Nq19, Kq19⟩ := hQ19
  have N19 := Fr.app N14 Nq19
  obtain ⟨_, _, ⟨T28, L28, k28, n28⟩, -, X28, ⟨Lc28, hQ28, l28, y28, z28⟩, st28⟩ := Jvm.LawKit.callS X19 hx (y := m_28) hown (mvT hZ (w_76 hw)) (mvT hZ (w_77 hw)) (mvT hZ (w_62 hw)) (mvT hZ (w_78 hw)) (by decide) (backOf (W := 0) (rm_pk1e l Z a0 hw [] p0 b5 b12 T14.heap n0 (by omega) q0 w0) hZ (w_78 hw) (w_62 hw) (by decide) (by decide)) (g := (mkF m 43 #[vI p0, vI p1, vI p2, vA b2, vA b5, vA b12, vI 1, vI 1, .unset] [(.int 1), (.ref b12), (.ref b5), (.int p0)])) rfl (by rw [hml]; rfl) (argsL := [(.int p0), (.ref b5), (.ref b12), (.int 1)]) (rest := []) (lenOf pd_15 rfl) rfl (Nat.le_of_eq rfl) (hb hby at_43) (fun _ _ => ⟨rfl, Kq19, (by decide : 5 + 0 ≤ _), (by decide : 5517 + 0 ≤ _)⟩)
  dsimp only [Pt.U, Pt.locs, Pt.cells, Pt.slots] at X28 l28 y28 z28 st28 hQ28
  rw [l28, y28, z28] at X28
  obtain ⟨rfl, Nq28, Kq28⟩ := hQ28
  have N28 := Fr.app N19 Nq28
  obtain ⟨cq29, kq29, qa29, qb29, qc29⟩ := isOf hZ Kq28 f23
  obtain ⟨_, _, ⟨T29, L29, k29, n29⟩, -, X29, ⟨Lc29, hQ29, l29, y29, z29⟩, st29⟩ := X28.virtualBack hx (y := m_27) (z := m_27) hown (mvT hZ (w_79 hw)) (mvT hZ (w_80 hw)) (notFace_of_selects (args := #[]) (mvT hZ (w_82 hw))) (mvT hZ (w_82 hw)) (mvT hZ (w_81 hw)) (by decide) (backOf (W := 0) (rm_far l Z a0 hw [] b2 b5 T14.heap n0 (by omega) f23 f27 (by omega)) hZ (w_83 hw) (w_2 hw) (by decide) (by decide)) qa29 qc29 (g := (mkF m 51 #[vI p0, vI p1, vI p2, vA b2, vA b5, vA b12, vI 1, vI 1, vA b5] [(.ref b5), (.ref b2)])) rfl (by rw [hml]; rfl) (Steps.refl _) (argsL := [(.ref b5)]) (rest := []) (lenOf pd_13 rfl) rfl (Nat.le_of_eq rfl) (hb hby at_51) (fun _ _ => ⟨rfl, Kq28, (by decide : 5 + 0 ≤ _), (by decide : 5517 + 0 ≤ _)⟩)
  dsimp only [Pt.U, Pt.locs, Pt.cells, Pt.slots] at X29 l29 y29 z29 st29 hQ29
  rw [l29, y29, z29] at X29
  obtain ⟨rfl, Nq29, Kq29, r29_0, r29_1⟩ := hQ29
  have N29 := Fr.app N28 Nq29
  have z29' := Kq29.1
  have lt30 := own_l r29_0.lt
  have lt31 := own_l r29_1.lt
  obtain ⟨_, _, ⟨T32, L32, k32, n32⟩, -, X32, ⟨Lc32, hQ32, l32, y32, z32⟩, st32⟩ := Jvm.LawKit.callS X29 hx (y := m_26) hown (mvT hZ (w_60 hw)) (mvT hZ (w_61 hw)) (mvT hZ (w_62 hw)) (mvT hZ (w_63 hw)) (by decide) (backOf (W := 0) (rm_agr l Z a0 hw [] b2 b5 T29.heap n0 (by omega) r29_0 r29_1) hZ (w_63 hw) (w_62 hw) (by decide) (by decide)) (g := (mkF m 79 #[vI p0, vI p1, vI p2, vA b2, vA b5, vA b12, vI 1, vI 0, vA b5] [(.int 0), (.ref b2)])) rfl (by rw [hml]; rfl) (argsL := [(.ref b2), (.int 0)]) (rest := []) (lenOf pd_14 rfl) rfl (Nat.le_of_eq rfl) (hb hby at_79) (fun _ _ => ⟨rfl, rfl, (by decide : 5 + 0 ≤ _), (by decide : 5517 + 0 ≤ _)⟩)
  dsimp only [Pt.U, Pt.locs, Pt.cells, Pt.slots] at X32 l32 y32 z32 st32 hQ32
  rw [l32, y32, z32] at X32
  obtain ⟨rfl, Nq32, Kq32⟩ := hQ32
  have N32 := Fr.app N29 Nq32
  obtain ⟨_, _, ⟨T33, L33, k33, n33⟩, -, X33, ⟨Lc33, hQ33, l33, y33, z33⟩, st33⟩ := Jvm.LawKit.callS X32 hx (y := m_28) hown (mvT hZ (w_76 hw)) (mvT hZ (w_77 hw)) (mvT hZ (w_62 hw)) (mvT hZ (w_78 hw)) (by decide) (backOf (W := 0) (rm_pk1 l Z a0 hw [] p1 b5 b12 T29.heap n0 (by omega) w1) hZ (w_78 hw) (w_62 hw) (by decide) (by decide)) (g := (mkF m 99 #[vI p0, vI p1, vI p2, vA b2, vA b5, vA b12, vI 1, vI 0, vA b5] [(.int 0), (.ref b12), (.ref b5), (.int p1)])) rfl (by rw [hml]; rfl) (argsL := [(.int p1), (.ref b5), (.ref b12), (.int 0)]) (rest := []) (lenOf pd_15 rfl) rfl (Nat.le_of_eq rfl) (hb hby at_99) (fun _ _ => ⟨rfl, Kq32, (by decide : 5 + 0 ≤ _), (by decide : 5517 + 0 ≤ _)⟩)
  dsimp only [Pt.U, Pt.locs, Pt.cells, Pt.slots] at X33 l33 y33 z33 st33 hQ33
  rw [l33, y33, z33] at X33
  obtain ⟨rfl, Nq33, Kq33⟩ := hQ33
  have N33 := Fr.app N32 Nq33
  obtain ⟨cq34, kq34, qa34, qb34, qc34⟩ := isOf hZ Kq33 r29_0
  obtain ⟨_, _, ⟨T34, L34, k34, n34⟩, -, X34, ⟨Lc34, hQ34, l34, y34, z34⟩, st34⟩ := X33.virtualBack hx (y := m_27) (z := m_27) hown (mvT hZ (w_79 hw)) (mvT hZ (w_80 hw)) (notFace_of_selects (args := #[]) (mvT hZ (w_82 hw))) (mvT hZ (w_82 hw)) (mvT hZ (w_81 hw)) (by decide) (backOf (W := 0) (rm_fas l Z a0 hw [] b2 b5 T29.heap n0 (by omega) r29_0 r29_1) hZ (w_83 hw) (w_2 hw) (by decide) (by decide)) qa34 qc34 (g := (mkF m 107 #[vI p0, vI p1, vI p2, vA b2, vA b5, vA b12, vI 1, vI 0, vA b5] [(.ref b5), (.ref b2)])) rfl (by rw [hml]; rfl) (Steps.refl _) (argsL := [(.ref b5)]) (rest := []) (lenOf pd_13 rfl) rfl (Nat.le_of_eq rfl) (hb hby at_107) (fun _ _ => ⟨rfl, Kq33, (by decide : 5 + 0 ≤ _), (by decide : 5517 + 0 ≤ _)⟩)
  dsimp only [Pt.U, Pt.locs, Pt.cells, Pt.slots] at X34 l34 y34 z34 st34 hQ34
  rw [l34, y34, z34] at X34
  obtain ⟨rfl, Nq34, Kq34⟩ := hQ34
  have N34 := Fr.app N33 Nq34
  obtain ⟨_, _, ⟨T35, L35, k35, n35⟩, -, X35, ⟨Lc35, hQ35, l35, y35, z35⟩, st35⟩ := Jvm.LawKit.callS X34 hx (y := m_26) hown (mvT hZ (w_60 hw)) (mvT hZ (w_61 hw)) (mvT hZ (w_62 hw)) (mvT hZ (w_63 hw)) (by decide) (backOf (W := 0) (rm_agr l Z a0 hw [] b2 b5 T29.heap n0 (by omega) r29_0 r29_1) hZ (w_63 hw) (w_62 hw) (by decide) (by decide)) (g := (mkF m 135 #[vI p0, vI p1, vI p2, vA b2, vA b5, vA b12, vI 1, vI 0, vA b5] [(.int 0), (.ref b2)])) rfl (by rw [hml]; rfl) (argsL := [(.ref b2), (.int 0)]) (rest := []) (lenOf pd_14 rfl) rfl (Nat.le_of_eq rfl) (hb hby at_135) (fun _ _ => ⟨rfl, Kq34, (by decide : 5 + 0 ≤ _), (by decide : 5517 + 0 ≤ _)⟩)
  dsimp only [Pt.U, Pt.locs, Pt.cells, Pt.slots] at X35 l35 y35 z35 st35 hQ35
  rw [l35, y35, z35] at X35
  obtain ⟨rfl, Nq35, Kq35⟩ := hQ35
  have N35 := Fr.app N34 Nq35
  obtain ⟨_, _, ⟨T36, L36, k36, n36⟩, -, X36, ⟨Lc36, hQ36, l36, y36, z36⟩, st36⟩ := Jvm.LawKit.callS X35 hx (y := m_28) hown (mvT hZ (w_76 hw)) (mvT hZ (w_77 hw)) (mvT hZ (w_62 hw)) (mvT hZ (w_78 hw)) (by decide) (backOf (W := 0) (rm_pk2 l Z a0 hw [] p2 b5 b12 T29.heap n0 (by omega) (own_20 w2) w2) hZ (w_78 hw) (w_62 hw) (by decide) (by decide)) (g := (mkF m 155 #[vI p0, vI p1, vI p2, vA b2, vA b5, vA b12, vI 1, vI 0, vA b5] [(.int 0), (.ref b12), (.ref b5), (.int p2)])) rfl (by rw [hml]; rfl) (argsL := [(.int p2), (.ref b5), (.ref b12), (.int 0)]) (rest := []) (lenOf pd_15 rfl) rfl (Nat.le_of_eq rfl) (hb hby at_155) (fun _ _ => ⟨rfl, Kq35, (by decide : 5 + 0 ≤ _), (by decide : 5517 + 0 ≤ _)⟩)
  dsimp only [Pt.U, Pt.locs, Pt.cells, Pt.slots] at X36 l36 y36 z36 st36 hQ36
  rw [l36, y36, z36] at X36
  obtain ⟨rfl, Nq36, Kq36⟩ := hQ36
  have N36 := Fr.app N35 Nq36
  have f38 := f16.keep Kq14 (allS (by omega) all0)
  have f39 := f38.keep Kq29 (allS (by omega) all0)
  have f40 := r7_0.ext E12
  have f41 := f40.keep Kq14
  have f42 := f41.keep Kq29
  have f43 := r7_1.ext E12
  have f44 := Unt.keep Kq14 (ninS (own_ne (by omega)) nin0) f43
  have f45 := Unt.keep Kq29 (ninS (own_ne (by omega)) nin0) f44
  have f46 := r7_2.ext E12
  have f47 := f46.keep Kq14 (ninS (own_ne (by omega)) nin0)
  have f48 := f47.keep Kq29 (ninS (own_ne (by omega)) nin0)
  have f49 := r14_0.keep Kq29
  obtain ⟨cq37, kq37, qa37, qb37, qc37⟩ := isOf hZ Kq36 r29_0
  obtain ⟨_, _, ⟨T37, L37, k37, n37⟩, -, X37, hSb37, hgr37, ⟨Lc37, hQ37, l37, y37, z37⟩, st37⟩ := X36.virtualBackS hx (y := m_27) (z := m_27) hown (mvT hZ (w_79 hw)) (mvT hZ (w_80 hw)) (notFace_of_selects (args := #[]) (mvT hZ (w_82 hw))) (mvT hZ (w_82 hw)) (mvT hZ (w_81 hw)) (by decide) (backOfS (W := 0) (rm_fa0 l Z a0 hw [] b2 b5 b12 sn T29.heap n0 (by omega) r29_0 r29_1 f39 P2 f42 f45 f48 f49 (by omega) (own_ne (by omega))) hZ (w_83 hw) (w_2 hw) (by decide) (by decide)) qa37 qc37 (g := (mkF m 163 #[vI p0, vI p1, vI p2, vA b2, vA b5, vA b12, vI 1, vI 0, vA b12] [(.ref b12), (.ref b2)])) rfl (by rw [hml]; rfl) (Steps.refl _) (argsL := [(.ref b12)]) (rest := []) (lenOf pd_13 rfl) rfl (Nat.le_of_eq rfl) (hb hby at_163) (fun _ _ => ⟨rfl, Kq36, (by decide : 5 + 4 ≤ _), (by decide : 5517 + 140 ≤ _)⟩)
  dsimp only [Pt.U, Pt.locs, Pt.cells, Pt.slots] at X37 l37 y37 z37 st37 hQ37 hSb37 hgr37
  rw [l37, y37, z37] at X37
  rw [Kq36] at hgr37
  obtain ⟨X37, hS37, hZ37, hown37⟩ := rebS hS0 (by omega) X37 hSb37 hgr37 hZ hown
  have hk37 : T37.heap.size ≤ T37.heap.size := Nat.le_refl _
  obtain ⟨x37_al, x37_v_, x37_kv, x37_mc, rfl, Nq37, Kq37, r37_0, r37_1, r37_2, r37_3, r37_4, r37_5, r37_6, r37_7, r37_8, r37_9, r37_10, r37_11⟩ := hQ37
  have N37 := Fr.app N36 Nq37
  have z37' := Kq37.1
  have lt50 := own_l r37_3.lt
  have lt51 := own_l r37_5.lt
  have lt52 := own_l r37_6.lt
  have lt53 := own_l r37_7.lt
  have lt54 := own_l r37_8.lt
  have lt55 := own_l r37_9.lt
  have lt56 := own_l r37_10.lt
  have lt57 := own_l r37_11.lt
  have f59 := r29_0.keep Kq37
  have f60 := r29_1.keep Kq37 (ninS (own_ne (by omega)) nin0)
  obtain ⟨_, _, ⟨T58, L58, k58, n58⟩, -, X58, ⟨Lc58, hQ58, l58, y58, z58⟩, st58⟩ := Jvm.LawKit.callS X37 hx (y := m_26) hown37 (mvT hZ37 (w_60 hw)) (mvT hZ37 (w_61 hw)) (mvT hZ37 (w_62 hw)) (mvT hZ37 (w_63 hw)) (by decide) (backOf (W := 0) (rm_agr l Z a0 hw [] b2 b5 T37.heap n0 (by omega) f59 f60) hZ37 (w_63 hw) (w_62 hw) (by decide) (by decide)) (g := (mkF m 191 #[vI p0, vI p1, vI p2, vA b2, vA b5, vA b12, vI 1, vI 0, vA b12] [(.int 0), (.ref b2)])) rfl (by rw [hml]; rfl) (argsL := [(.ref b2), (.int 0)]) (rest := []) (lenOf pd_14 rfl) rfl (Nat.le_of_eq rfl) (hb hby at_191) (fun _ _ => ⟨rfl, rfl, (by decide : 9 + 0 ≤ _), (by decide : 5657 + 0 ≤ _)⟩)
  dsimp only [Pt.U, Pt.locs, Pt.cells, Pt.slots] at X58 l58 y58 z58 st58 hQ58
  rw [l58, y58, z58] at X58
  obtain ⟨rfl, Nq58, Kq58⟩ := hQ58
  have N58 := Fr.app N37 Nq58
  obtain ⟨fs, hr, hrun, hended, hEnd⟩ := X58.leaveW hS37 (by first | omega | (rw [(Kq58 : T58.heap = T37.heap)]; omega)) (v := some (.int 1)) (fun h => by rw [Bd.returns] at h; cases h)
  refine ⟨_, _, castTop (ef_10 m p0 p1 p2) ?_, hrun, hended, _, _, rfl, ?_, hEnd.1, hEnd.2.1, hEnd.2.2.1, hEnd.2.2.2.mono (by decide) (by decide)⟩
  · show Steps _ _ _ (s₁.setTop (mkF m 0 #[vI p0, vI p1, vI p2, .unset, .unset, .unset, .unset, .unset, .unset] [])) _
    refine st2 _ ?_
    show Steps _ _ _ (T2.setTop (mkF m 3 #[vI p0, vI p1, vI p2, .unset, .unset, .unset, .unset, .unset, .unset] [(.ref b2)])) _
    refine XS.dup X2.here hx rfl (hb hby at_3) rfl rfl ?_
    refine st4.trans ?_
    show Steps _ _ _ (T4.setTop (mkF m 7 #[vI p0, vI p1, vI p2, .unset, .unset, .unset, .unset, .unset, .unset] [(.ref b2)])) _
    refine XS.astoreN X4.here hx rfl (hb hby at_7) rfl rfl (l' := #[vI p0, vI p1, vI p2, vA b2, .unset, .unset, .unset, .unset, .unset]) rfl ?_
    refine st5 _ ?_
    show Steps _ _ _ (T5.setTop (mkF m 11 #[vI p0, vI p1, vI p2, vA b2, .unset, .unset, .unset, .unset, .unset] [(.ref b5)])) _
    refine XS.dup X5.here hx rfl (hb hby at_11) rfl rfl ?_
    refine st7.trans ?_
    show Steps _ _ _ (T7.setTop (mkF m 15 #[vI p0, vI p1, vI p2, vA b2, .unset, .unset, .unset, .unset, .unset] [(.ref b5)])) _
    refine XS.astore X7.here hx rfl (hb hby at_15) rfl rfl (l' := #[vI p0, vI p1, vI p2, vA b2, vA b5, .unset, .unset, .unset, .unset]) rfl ?_
    refine st12 _ ?_
    show Steps _ _ _ (T12.setTop (mkF m 20 #[vI p0, vI p1, vI p2, vA b2, vA b5, .unset, .unset, .unset, .unset] [(.ref b12)])) _
    refine XS.dup X12.here hx rfl (hb hby at_20) rfl rfl ?_
    refine st14.trans ?_
    show Steps _ _ _ (T14.setTop (mkF m 24 #[vI p0, vI p1, vI p2, vA b2, vA b5, .unset, .unset, .unset, .unset] [(.ref b12)])) _
    refine XS.astore X14.here hx rfl (hb hby at_24) rfl rfl (l' := #[vI p0, vI p1, vI p2, vA b2, vA b5, vA b12, .unset, .unset, .unset]) rfl ?_
    refine XS.aloadN X14.here hx rfl (hb hby at_26) rfl rfl ?_
    refine XS.iconst X14.here hx rfl (hb hby at_27) ?_
    refine st19 _ ?_
    show Steps _ _ _ (T19.setTop (mkF m 31 #[vI p0, vI p1, vI p2, vA b2, vA b5, vA b12, .unset, .unset, .unset] [(.int 1)])) _
    refine XS.istore X19.here hx rfl (hb hby at_31) rfl (l' := #[vI p0, vI p1, vI p2, vA b2, vA b5, vA b12, vI 1, .unset, .unset]) rfl ?_
    refine XS.iconst X19.here hx rfl (hb hby at_33) ?_
    refine XS.istore X19.here hx rfl (hb hby at_34) rfl (l' := #[vI p0, vI p1, vI p2, vA b2, vA b5, vA b12, vI 1, vI 1, .unset]) rfl ?_
    refine XS.iloadN X19.here hx rfl (hb hby at_36) rfl ?_
    refine XS.aload X19.here hx rfl (hb hby at_37) rfl rfl ?_
    refine XS.aload X19.here hx rfl (hb hby at_39) rfl rfl ?_
    refine XS.iload X19.here hx rfl (hb hby at_41) rfl ?_
    refine st28 _ ?_
    show Steps _ _ _ (T28.setTop (mkF m 46 #[vI p0, vI p1, vI p2, vA b2, vA b5, vA b12, vI 1, vI 1, .unset] [(.ref b5)])) _
    refine XS.astore X28.here hx rfl (hb hby at_46) rfl rfl (l' := #[vI p0, vI p1, vI p2, vA b2, vA b5, vA b12, vI 1, vI 1, vA b5]) rfl ?_
    refine XS.aloadN X28.here hx rfl (hb hby at_48) rfl rfl ?_
    refine XS.aload X28.here hx rfl (hb hby at_49) rfl rfl ?_
    refine st29.trans ?_
    show Steps _ _ _ (T29.setTop (mkF m 54 #[vI p0, vI p1, vI p2, vA b2, vA b5, vA b12, vI 1, vI 1, vA b5] [])) _
    refine XS.iload X29.here hx rfl (hb hby at_54) rfl ?_
    refine XS.ifNo X29.here hx rfl (hb hby at_56) rfl ((if0 _ _).trans (feq ((by decide) : ¬ ((1 : Int32) = (0 : Int32)))).1) ?_
    refine XS.aload X29.here hx rfl (hb hby at_59) rfl rfl ?_
    refine XS.ifnonnullYes X29.here hx rfl (pc0 := 61) (pc' := 68) rfl (hb hby at_61) rfl (by decide) (by decide) ?_
    refine XS.iconst X29.here hx rfl (hb hby at_68) ?_
    refine XS.istore X29.here hx rfl (hb hby at_69) rfl (l' := #[vI p0, vI p1, vI p2, vA b2, vA b5, vA b12, vI 1, vI 0, vA b5]) rfl ?_
    refine XS.iload X29.here hx rfl (hb hby at_71) rfl ?_
    refine XS.ifNo X29.here hx rfl (hb hby at_73) rfl ((if0 _ _).trans (feq ((by decide) : ¬ ((1 : Int32) = (0 : Int32)))).1) ?_
    refine XS.aloadN X29.here hx rfl (hb hby at_76) rfl rfl ?_
    refine XS.iload X29.here hx rfl (hb hby at_77) rfl ?_
    refine st32 _ ?_
    show Steps _ _ _ (T32.setTop (mkF m 82 #[vI p0, vI p1, vI p2, vA b2, vA b5, vA b12, vI 1, vI 0, vA b5] [(.int 1)])) _
    refine XS.ifNo X32.here hx rfl (hb hby at_82) rfl ((if0 _ _).trans (feq ((by decide) : ¬ ((1 : Int32) = (0 : Int32)))).1) ?_
    refine XS.iconst X32.here hx rfl (hb hby at_85) ?_
    refine XS.goto X32.here hx rfl (pc0 := 86) (pc' := 90) rfl (hb hby at_86) (by decide) (by decide) ?_
    refine XS.istore X32.here hx rfl (hb hby at_90) rfl (l' := #[vI p0, vI p1, vI p2, vA b2, vA b5, vA b12, vI 1, vI 0, vA b5]) rfl ?_
    refine XS.iloadN X32.here hx rfl (hb hby at_92) rfl ?_
    refine XS.aload X32.here hx rfl (hb hby at_93) rfl rfl ?_
    refine XS.aload X32.here hx rfl (hb hby at_95) rfl rfl ?_
    refine XS.iload X32.here hx rfl (hb hby at_97) rfl ?_
    refine st33 _ ?_
    show Steps _ _ _ (T33.setTop (mkF m 102 #[vI p0, vI p1, vI p2, vA b2, vA b5, vA b12, vI 1, vI 0, vA b5] [(.ref b5)])) _
    refine XS.astore X33.here hx rfl (hb hby at_102) rfl rfl (l' := #[vI p0, vI p1, vI p2, vA b2, vA b5, vA b12, vI 1, vI 0, vA b5]) rfl ?_
    refine XS.aloadN X33.here hx rfl (hb hby at_104) rfl rfl ?_
    refine XS.aload X33.here hx rfl (hb hby at_105) rfl rfl ?_
    refine st34.trans ?_
    show Steps _ _ _ (T34.setTop (mkF m 110 #[vI p0, vI p1, vI p2, vA b2, vA b5, vA b12, vI 1, vI 0, vA b5] [])) _
    refine XS.iload X34.here hx rfl (hb hby at_110) rfl ?_
    refine XS.ifYes X34.here hx rfl (pc0 := 112) (pc' := 124) rfl (hb hby at_112) rfl ((if0 _ _).trans (teq ((by decide) : (0 : Int32) = (0 : Int32))).1) (by decide) (by decide) ?_
    refine XS.iconst X34.here hx rfl (hb hby at_124) ?_
    refine XS.istore X34.here hx rfl (hb hby at_125) rfl (l' := #[vI p0, vI p1, vI p2, vA b2, vA b5, vA b12, vI 1, vI 0, vA b5]) rfl ?_
    refine XS.iload X34.here hx rfl (hb hby at_127) rfl ?_
    refine XS.ifNo X34.here hx rfl (hb hby at_129) rfl ((if0 _ _).trans (feq ((by decide) : ¬ ((1 : Int32) = (0 : Int32)))).1) ?_
    refine XS.aloadN X34.here hx rfl (hb hby at_132) rfl rfl ?_
    refine XS.iload X34.here hx rfl (hb hby at_133) rfl ?_
    refine st35 _ ?_
    show Steps _ _ _ (T35.setTop (mkF m 138 #[vI p0, vI p1, vI p2, vA b2, vA b5, vA b12, vI 1, vI 0, vA b5] [(.int 1)])) _
    refine XS.ifNo X35.here hx rfl (hb hby at_138) rfl ((if0 _ _).trans (feq ((by decide) : ¬ ((1 : Int32) = (0 : Int32)))).1) ?_
    refine XS.iconst X35.here hx rfl (hb hby at_141) ?_
    refine XS.goto X35.here hx rfl (pc0 := 142) (pc' := 146) rfl (hb hby at_142) (by decide) (by decide) ?_
    refine XS.istore X35.here hx rfl (hb hby at_146) rfl (l' := #[vI p0, vI p1, vI p2, vA b2, vA b5, vA b12, vI 1, vI 0, vA b5]) rfl ?_
    refine XS.iloadN X35.here hx rfl (hb hby at_148) rfl ?_
    refine XS.aload X35.here hx rfl (hb hby at_149) rfl rfl ?_
    refine XS.aload X35.here hx rfl (hb hby at_151) rfl rfl ?_
    refine XS.iload X35.here hx rfl (hb hby at_153) rfl ?_
    refine st36 _ ?_
    show Steps _ _ _ (T36.setTop (mkF m 158 #[vI p0, vI p1, vI p2, vA b2, vA b5, vA b12, vI 1, vI 0, vA b5] [(.ref b12)])) _
    refine XS.astore X36.here hx rfl (hb hby at_158) rfl rfl (l' := #[vI p0, vI p1, vI p2, vA b2, vA b5, vA b12, vI 1, vI 0, vA b12]) rfl ?_
    refine XS.aloadN X36.here hx rfl (hb hby at_160) rfl rfl ?_
    refine XS.aload X36.here hx rfl (hb hby at_161) rfl rfl ?_
    refine st37.trans ?_
    show Steps _ _ _ (T37.setTop (mkF m 166 #[vI p0, vI p1, vI p2, vA b2, vA b5, vA b12, vI 1, vI 0, vA b12] [])) _
    refine XS.iload X37.here hx rfl (hb hby at_166) rfl ?_
    refine XS.ifYes X37.here hx rfl (pc0 := 168) (pc' := 180) rfl (hb hby at_168) rfl ((if0 _ _).trans (teq ((by decide) : (0 : Int32) = (0 : Int32))).1) (by decide) (by decide) ?_
    refine XS.iconst X37.here hx rfl (hb hby at_180) ?_
    refine XS.istore X37.here hx rfl (hb hby at_181) rfl (l' := #[vI p0, vI p1, vI p2, vA b2, vA b5, vA b12, vI 1, vI 0, vA b12]) rfl ?_
    refine XS.iload X37.here hx rfl (hb hby at_183) rfl ?_
    refine XS.ifNo X37.here hx rfl (hb hby at_185) rfl ((if0 _ _).trans (feq ((by decide) : ¬ ((1 : Int32) = (0 : Int32)))).1) ?_
    refine XS.aloadN X37.here hx rfl (hb hby at_188) rfl rfl ?_
    refine XS.iload X37.here hx rfl (hb hby at_189) rfl ?_
    refine st58 _ ?_
    show Steps _ _ _ (T58.setTop (mkF m 194 #[vI p0, vI p1, vI p2, vA b2, vA b5, vA b12, vI 1, vI 0, vA b12] [(.int 1)])) _
    refine XS.ifNo X58.here hx rfl (hb hby at_194) rfl ((if0 _ _).trans (feq ((by decide) : ¬ ((1 : Int32) = (0 : Int32)))).1) ?_
    refine XS.iconst X58.here hx rfl (hb hby at_197) ?_
    refine XS.goto X58.here hx rfl (pc0 := 198) (pc' := 202) rfl (hb hby at_198) (by decide) (by decide) ?_
    refine XS.istore X58.here hx rfl (hb hby at_202) rfl (l' := #[vI p0, vI p1, vI p2, vA b2, vA b5, vA b12, vI 1, vI 0, vA b12]) rfl ?_
    refine XS.iload X58.here hx rfl (hb hby at_204) rfl ?_
    exact retN X58 hx (t := .boolean) Bd.returns (by simp) (hb hby at_206) hr
  · show Q_law Z p0 p1 p2 su sn mo h0 n0 _ T58.heap _
    rw [(Kq58 : T58.heap = T37.heap)]
    exact ⟨rfl, N58⟩
theorem rm_law_121 (l : Launch) (Z : State) (a0 : Array Value) (hw : HW Z a0) (ws : List Jvm.Cond) (p0 : Int32) (p1 : Int32) (p2 : Int32) (su : Addr) (sn : Addr) (mo : Addr) (h0 : Heap) (n0 : Nat) (Z0 : n0 ≤ h0.size) (P0 : Old Z n0 h0) (P1 : sta0 Z (.ref su)) (P2 : sta1 Z (.ref sn)) (P3 : Mi Z "[Ljava/lang/Object;" mo) (P4 : Exa Z h0 sn "java/util/Collections$EmptyList") (hst : l.stackTraces = true) (q0 : ¬ ((p0 &&& (3 : Int32)) = (0 : Int32))) (w0 : ¬ ((p0 &&& (3 : Int32)) = (2 : Int32))) (w1 : (p1 &&& (3 : Int32)) = (2 : Int32)) (w2 : ¬ ((p2 &&& (3 : Int32)) = (2 : Int32))) :
    MetFree l x (head1 (Jvm.Cond.code x code maxLocals ret :: ws) room_1) (fun as' U => as' = #[(.int p0), (.int p1), (.int p2)] ∧ Z.Warmed39 U.vm ∧ U.heap = h0) (fun _ _ bl s _ => s.vm.MethodsKnown ∧ s.vm.FramesKnown bl) (fun _ U o U' => ∃ v L, o = .returned v ∧ Q_law Z p0 p1 p2 su sn mo h0 n0 v U'.heap L ∧ ReturnedEndW U o U' L room_1.cells room_1.slots) := by
  refine MetFree.of_bodySF (plainFor_of_name pn_12) hisR ?_
  intro p e s m args below meth c s₁ Bd hml0 hP hK
  obtain ⟨hTK, hBl⟩ := hK
  obtain ⟨rfl, hZ, hh⟩ := hP
  have hx := Bd.exec
  have hby := Bd.bytes
  have hml : c.maxLocals = 9 := hml0
  have hown : (s.setVm s.vm).vm.findClass "com/example/maat/maat/FailuresIsEmptyPinLaw" = some m.cls := findClass_of_methodNamed Bd.named
  have hnm := (name_of_methodNamed Bd.named Bd.method).1
  have X0 : Stand p l e room_1 (s.setVm s.vm) m #[(.int p0), (.int p1), (.int p2)] below meth c s₁ [] 0 0 := Stand.of_body Bd
  have e0 : s₁.heap = h0 := by rw [← hh, Bd.state]; rfl
  have N0 := Fr.nil n0
  have hZ : Z.Warmed39 (s.setVm s.vm).vm := hZ
  have hS0 : s.Since s.vm h0.size := (State.WarmedH.refl s).since _
  have hk0 : h0.size ≤ h0.size := Nat.le_refl _
  have lt1 := own_l P4.lt
  obtain ⟨T2, h2, X2, e2, E2, A2, D2, -, st2⟩ := newO X0 hx hZ hown (w_0 hw) (w_1 hw) (w_2 hw) e0 (g := (mkF m 0 #[vI p0, vI p1, vI p2, .unset, .unset, .unset, .unset, .unset, .unset] [])) rfl (hb hby at_0) (by decide) (by decide)
  obtain ⟨b2, g2⟩ : ∃ z, z = h0.size := ⟨_, rfl⟩
  rw [← g2] at A2 D2 st2
  have z2 := E2.1
  have lt3 := own_l A2.lt
  have F2_70 : Fld Z h2 b2 "com/example/maat/maat/Failures" "first" "Ljava/lang/Throwable;" .null := D2 (Or.inl (w_70 hw)) (ty := (.object "java/lang/Throwable")) (by decide)
  obtain ⟨_, _, ⟨T4, L4, k4, n4⟩, -, X4, ⟨Lc4, hQ4, l4, y4, z4⟩, st4⟩ := X2.specialBack hx (y := m_23) rfl hown (mvT hZ (w_3 hw)) (mvT hZ (w_4 hw)) (mvT hZ (w_5 hw)) (by decide) (backOf (W := 1) (rm_fin l Z a0 hw [] b2 h2 n0 (by omega) ) hZ (w_5 hw) (w_2 hw) (by decide) (by decide)) (g := (mkF m 4 #[vI p0, vI p1, vI p2, .unset, .unset, .unset, .unset, .unset, .unset] [(.ref b2), (.ref b2)])) rfl (by rw [hml]; rfl) (Steps.refl _) (a := b2) (argsL := []) (rest := [(.ref b2)]) (lenOf pd_0 rfl) rfl (Nat.le_of_eq rfl) (hb hby at_4) (fun _ _ => ⟨rfl, e2, (by decide : 1 + 0 ≤ _), (by decide : 1 + 0 ≤ _)⟩)
  dsimp only [Pt.U, Pt.locs, Pt.cells, Pt.slots] at X4 l4 y4 z4 st4 hQ4
  rw [l4, y4, z4] at X4
  obtain ⟨rfl, Nq4, Kq4⟩ := hQ4
  have N4 := Fr.app N0 Nq4
  obtain ⟨T5, h5, X5, e5, E5, A5, D5, U5, st5⟩ := newO X4 hx hZ hown (w_9 hw) (w_10 hw) (w_11 hw) Kq4 (g := (mkF m 8 #[vI p0, vI p1, vI p2, vA b2, .unset, .unset, .unset, .unset, .unset] [])) rfl (hb hby at_8) (by decide) (by decide)
  obtain ⟨b5, g5⟩ : ∃ z, z = h2.size := ⟨_, rfl⟩
  rw [← g5] at A5 D5 U5 st5
  have z5 := E5.1
  have lt6 := own_l A5.lt
  replace U5 : Unt h5 b5 := U5
  have F5_29 : Fld Z h5 b5 "java/lang/Throwable" "cause" "Ljava/lang/Throwable;" .null := D5 (Or.inl (w_29 hw)) (ty := (.object "java/lang/Throwable")) (by decide)
  have F5_32 : Fld Z h5 b5 "java/lang/Throwable" "stackTrace" "[Ljava/lang/StackTraceElement;" .null := D5 (Or.inl (w_32 hw)) (ty := (.array (.object "java/lang/StackTraceElement"))) (by decide)
  have F5_35 : Fld Z h5 b5 "java/lang/Throwable" "suppressedExceptions" "Ljava/util/List;" .null := D5 (Or.inl (w_35 hw)) (ty := (.object "java/util/List")) (by decide)
  have F5_56 : Fld Z h5 b5 "java/lang/Throwable" "detailMessage" "Ljava/lang/String;" .null := D5 (Or.inl (w_56 hw)) (ty := (.object "java/lang/String")) (by decide)
  have F5_57 : Fld Z h5 b5 "java/lang/Throwable" "backtrace" "Ljava/lang/Object;" .null := D5 (Or.inl (w_57 hw)) (ty := (.object "java/lang/Object")) (by decide)
  have F5_58 : Fld Z h5 b5 "java/lang/Throwable" "depth" "I" (.int 0) := D5 (Or.inl (w_58 hw)) (ty := .int) (by decide)
  have f8 := P0.ext E2
  have f9 := f8.ext E5
  obtain ⟨_, _, ⟨T7, L7, k7, n7⟩, -, X7, ⟨Lc7, hQ7, l7, y7, z7⟩, st7⟩ := X5.specialBack hx (y := m_5) rfl hown (mvT hZ (w_12 hw)) (mvT hZ (w_13 hw)) (mvT hZ (w_14 hw)) (by decide) (backOfKL (W := 1) (rm_rti l Z a0 hw [] b5 su sn h5 n0 (by omega) f9 P1 P2 A5 U5 F5_29 F5_32 F5_35 F5_57 F5_58 (by omega) hst) hZ (w_14 hw) (w_11 hw) (by decide) (by decide) hTK hBl) (g := (mkF m 12 #[vI p0, vI p1, vI p2, vA b2, .unset, .unset, .unset, .unset, .unset] [(.ref b5), (.ref b5)])) rfl (by rw [hml]; rfl) (Steps.refl _) (a := b5) (argsL := []) (rest := [(.ref b5)]) (lenOf pd_0 rfl) rfl (Nat.le_of_eq rfl) (hb hby at_12) (fun _ _ => ⟨rfl, e5, (by decide : 2 + 1 ≤ _), (by decide : 7 + 2752 ≤ _)⟩)
  dsimp only [Pt.U, Pt.locs, Pt.cells, Pt.slots] at X7 l7 y7 z7 st7 hQ7
  rw [l7, y7, z7] at X7
  obtain ⟨rfl, Nq7, Kq7, r7_0, r7_1, r7_2⟩ := hQ7
  have N7 := Fr.app N4 Nq7
  have z7' := Kq7.1
  have lt10 := own_l r7_0.lt
  have lt11 := own_l r7_2.lt
  obtain ⟨T12, h12, X12, e12, E12, A12, D12, U12, st12⟩ := newO X7 hx hZ hown (w_9 hw) (w_10 hw) (w_11 hw) rfl (g := (mkF m 17 #[vI p0, vI p1, vI p2, vA b2, vA b5, .unset, .unset, .unset, .unset] [])) rfl (hb hby at_17) (by decide) (by decide)
  obtain ⟨b12, g12⟩ : ∃ z, z = T7.heap.size := ⟨_, rfl⟩
  rw [← g12] at A12 D12 U12 st12
  have z12 := E12.1
  have lt13 := own_l A12.lt
  replace U12 : Unt h12 b12 := U12
  have F12_29 : Fld Z h12 b12 "java/lang/Throwable" "cause" "Ljava/lang/Throwable;" .null := D12 (Or.inl (w_29 hw)) (ty := (.object "java/lang/Throwable")) (by decide)
  have F12_32 : Fld Z h12 b12 "java/lang/Throwable" "stackTrace" "[Ljava/lang/StackTraceElement;" .null := D12 (Or.inl (w_32 hw)) (ty := (.array (.object "java/lang/StackTraceElement"))) (by decide)
  have F12_35 : Fld Z h12 b12 "java/lang/Throwable" "suppressedExceptions" "Ljava/util/List;" .null := D12 (Or.inl (w_35 hw)) (ty := (.object "java/util/List")) (by decide)
  have F12_56 : Fld Z h12 b12 "java/lang/Throwable" "detailMessage" "Ljava/lang/String;" .null := D12 (Or.inl (w_56 hw)) (ty := (.object "java/lang/String")) (by decide)
  have F12_57 : Fld Z h12 b12 "java/lang/Throwable" "backtrace" "Ljava/lang/Object;" .null := D12 (Or.inl (w_57 hw)) (ty := (.object "java/lang/Object")) (by decide)
  have F12_58 : Fld Z h12 b12 "java/lang/Throwable" "depth" "I" (.int 0) := D12 (Or.inl (w_58 hw)) (ty := .int) (by decide)
  have f15 := f9.keep Kq7 (allS (by omega) all0)
  have f16 := f15.ext E12
  obtain ⟨_, _, ⟨T14, L14, k14, n14⟩, -, X14, ⟨Lc14, hQ14, l14, y14, z14⟩, st14⟩ := X12.specialBack hx (y := m_5) rfl hown (mvT hZ (w_12 hw)) (mvT hZ (w_13 hw)) (mvT hZ (w_14 hw)) (by decide) (backOfKL (W := 1) (rm_rti l Z a0 hw [] b12 su sn h12 n0 (by omega) f16 P1 P2 A12 U12 F12_29 F12_32 F12_35 F12_57 F12_58 (by omega) hst) hZ (w_14 hw) (w_11 hw) (by decide) (by decide) hTK hBl) (g := (mkF m 21 #[vI p0, vI p1, vI p2, vA b2, vA b5, .unset, .unset, .unset, .unset] [(.ref b12), (.ref b12)])) rfl (by rw [hml]; rfl) (Steps.refl _) (a := b12) (argsL := []) (rest := [(.ref b12)]) (lenOf pd_0 rfl) rfl (Nat.le_of_eq rfl) (hb hby at_21) (fun _ _ => ⟨rfl, e12, (by decide : 4 + 1 ≤ _), (by decide : 2765 + 2752 ≤ _)⟩)
  dsimp only [Pt.U, Pt.locs, Pt.cells, Pt.slots] at X14 l14 y14 z14 st14 hQ14
  rw [l14, y14, z14] at X14
  obtain ⟨rfl, Nq14, Kq14, r14_0, r14_1, r14_2⟩ := hQ14
  have N14 := Fr.app N7 Nq14
  have z14' := Kq14.1
  have lt17 := own_l r14_0.lt
  have lt18 := own_l r14_2.lt
  have f20 := A2.ext E5
  have f21 := f20.keep Kq7
  have f22 := f21.ext E12
  have f23 := f22.keep Kq14
  have f24 := F2_70.ext E5
  have f25 := f24.keep Kq7 (ninS (own_ne (by omega)) nin0)
  have f26 := f25.ext E12
  have f27 := f26.keep Kq14 (ninS (own_ne (by omega)) nin0)
  obtain ⟨_, _, ⟨T19, L19, k19, n19⟩, -, X19, ⟨Lc19, hQ19, l19, y19, z19⟩, st19⟩ := Jvm.LawKit.callS X14 hx (y := m_26) hown (mvT hZ (w_60 hw)) (mvT hZ (w_61 hw)) (mvT hZ (w_62 hw)) (mvT hZ (w_63 hw)) (by decide) (backOf (W := 0) (rm_agn l Z a0 hw [] b2 T14.heap n0 (by omega) f23 f27) hZ (w_63 hw) (w_62 hw) (by decide) (by decide)) (g := (mkF m 28 #[vI p0, vI p1, vI p2, vA b2, vA b5, vA b12, .unset, .unset, .unset] [(.int 1), (.ref b2)])) rfl (by rw [hml]; rfl) (argsL := [(.ref b2), (.int 1)]) (rest := []) (lenOf pd_14 rfl) rfl (Nat.le_of_eq rfl) (hb hby at_28) (fun _ _ => ⟨rfl, rfl, (by decide : 5 + 0 ≤ _), (by decide : 5517 + 0 ≤ _)⟩)
  dsimp only [Pt.U, Pt.locs, Pt.cells, Pt.slots] at X19 l19 y19 z19 st19 hQ19
  rw [l19, y19, z19] at X19
  obtain ⟨rfl, Nq19, Kq19⟩ := hQ19
  have N19 := Fr.app N14 Nq19
  obtain ⟨_, _, ⟨T28, L28, k28, n28⟩, -, X28, ⟨Lc28, hQ28, l28, y28, z28⟩, st28⟩ := Jvm.LawKit.callS X19 hx (y := m_28) hown (mvT hZ (w_76 hw)) (mvT hZ (w_77 hw)) (mvT hZ (w_62 hw)) (mvT hZ (w_78 hw)) (by decide) (backOf (W := 0) (rm_pk1e l Z a0 hw [] p0 b5 b12 T14.heap n0 (by omega) q0 w0) hZ (w_78 hw) (w_62 hw) (by decide) (by decide)) (g := (mkF m 43 #[vI p0, vI p1, vI p2, vA b2, vA b5, vA b12, vI 1, vI 1, .unset] [(.int 1), (.ref b12), (.ref b5), (.int p0)])) rfl (by rw [hml]; rfl) (argsL := [(.int p0), (.ref b5), (.ref b12), (.int 1)]) (rest := []) (lenOf pd_15 rfl) rfl (Nat.le_of_eq rfl) (hb hby at_43) (fun _ _ => ⟨rfl, Kq19, (by decide : 5 + 0 ≤ _), (by decide : 5517 + 0 ≤ _)⟩)
  dsimp only [Pt.U, Pt.locs, Pt.cells, Pt.slots] at X28 l28 y28 z28 st28 hQ28
  rw [l28, y28, z28] at X28
  obtain ⟨rfl, Nq28, Kq28⟩ := hQ28
  have N28 := Fr.app N19 Nq28
  obtain ⟨cq29, kq29, qa29, qb29, qc29⟩ := isOf hZ Kq28 f23
  obtain ⟨_, _, ⟨T29, L29, k29, n29⟩, -, X29, ⟨Lc29, hQ29, l29, y29, z29⟩, st29⟩ := X28.virtualBack hx (y := m_27) (z := m_27) hown (mvT hZ (w_79 hw)) (mvT hZ (w_80 hw)) (notFace_of_selects (args := #[]) (mvT hZ (w_82 hw))) (mvT hZ (w_82 hw)) (mvT hZ (w_81 hw)) (by decide) (backOf (W := 0) (rm_far l Z a0 hw [] b2 b5 T14.heap n0 (by omega) f23 f27 (by omega)) hZ (w_83 hw) (w_2 hw) (by decide) (by decide)) qa29 qc29 (g := (mkF m 51 #[vI p0, vI p1, vI p2, vA b2, vA b5, vA b12, vI 1, vI 1, vA b5] [(.ref b5), (.ref b2)])) rfl (by rw [hml]; rfl) (Steps.refl _) (argsL := [(.ref b5)]) (rest := []) (lenOf pd_13 rfl) rfl (Nat.le_of_eq rfl) (hb hby at_51) (fun _ _ => ⟨rfl, Kq28, (by decide : 5 + 0 ≤ _), (by decide : 5517 + 0 ≤ _)⟩)
  dsimp only [Pt.U, Pt.locs, Pt.cells, Pt.slots] at X29 l29 y29 z29 st29 hQ29
  rw [l29, y29, z29] at X29
  obtain ⟨rfl, Nq29, Kq29, r29_0, r29_1⟩ := hQ29
  have N29 := Fr.app N28 Nq29
  have z29' := Kq29.1
  have lt30 := own_l r29_0.lt
  have lt31 := own_l r29_1.lt
  obtain ⟨_, _, ⟨T32, L32, k32, n32⟩, -, X32, ⟨Lc32, hQ32, l32, y32, z32⟩, st32⟩ := Jvm.LawKit.callS X29 hx (y := m_26) hown (mvT hZ (w_60 hw)) (mvT hZ (w_61 hw)) (mvT hZ (w_62 hw)) (mvT hZ (w_63 hw)) (by decide) (backOf (W := 0) (rm_agr l Z a0 hw [] b2 b5 T29.heap n0 (by omega) r29_0 r29_1) hZ (w_63 hw) (w_62 hw) (by decide) (by decide)) (g := (mkF m 79 #[vI p0, vI p1, vI p2, vA b2, vA b5, vA b12, vI 1, vI 0, vA b5] [(.int 0), (.ref b2)])) rfl (by rw [hml]; rfl) (argsL := [(.ref b2), (.int 0)]) (rest := []) (lenOf pd_14 rfl) rfl (Nat.le_of_eq rfl) (hb hby at_79) (fun _ _ => ⟨rfl, rfl, (by decide : 5 + 0 ≤ _), (by decide : 5517 + 0 ≤ _)⟩)
  dsimp only [Pt.U, Pt.locs, Pt.cells, Pt.slots] at X32 l32 y32 z32 st32 hQ32
  rw [l32, y32, z32] at X32
  obtain ⟨rfl, Nq32, Kq32⟩ := hQ32
  have N32 := Fr.app N29 Nq32
  obtain ⟨_, _, ⟨T33, L33, k33, n33⟩, -, X33, ⟨Lc33, hQ33, l33, y33, z33⟩, st33⟩ := Jvm.LawKit.callS X32 hx (y := m_28) hown (mvT hZ (w_76 hw)) (mvT hZ (w_77 hw)) (mvT hZ (w_62 hw)) (mvT hZ (w_78 hw)) (by decide) (backOf (W := 0) (rm_pk2 l Z a0 hw [] p1 b5 b12 T29.heap n0 (by omega) (own_20 w1) w1) hZ (w_78 hw) (w_62 hw) (by decide) (by decide)) (g := (mkF m 99 #[vI p0, vI p1, vI p2, vA b2, vA b5, vA b12, vI 1, vI 0, vA b5] [(.int 0), (.ref b12), (.ref b5), (.int p1)])) rfl (by rw [hml]; rfl) (argsL := [(.int p1), (.ref b5), (.ref b12), (.int 0)]) (rest := []) (lenOf pd_15 rfl) rfl (Nat.le_of_eq rfl) (hb hby at_99) (fun _ _ => ⟨rfl, Kq32, (by decide : 5 + 0 ≤ _), (by decide : 5517 + 0 ≤ _)⟩)
  dsimp only [Pt.U, Pt.locs, Pt.cells, Pt.slots] at X33 l33 y33 z33 st33 hQ33
  rw [l33, y33, z33] at X33
  obtain ⟨rfl, Nq33, Kq33⟩ := hQ33
  have N33 := Fr.app N32 Nq33
  have f35 := f16.keep Kq14 (allS (by omega) all0)
  have f36 := f35.keep Kq29 (allS (by omega) all0)
  have f37 := r7_0.ext E12
  have f38 := f37.keep Kq14
  have f39 := f38.keep Kq29
  have f40 := r7_1.ext E12
  have f41 := Unt.keep Kq14 (ninS (own_ne (by omega)) nin0) f40
  have f42 := Unt.keep Kq29 (ninS (own_ne (by omega)) nin0) f41
  have f43 := r7_2.ext E12
  have f44 := f43.keep Kq14 (ninS (own_ne (by omega)) nin0)
  have f45 := f44.keep Kq29 (ninS (own_ne (by omega)) nin0)
  have f46 := r14_0.keep Kq29
  obtain ⟨cq34, kq34, qa34, qb34, qc34⟩ := isOf hZ Kq33 r29_0
  obtain ⟨_, _, ⟨T34, L34, k34, n34⟩, -, X34, hSb34, hgr34, ⟨Lc34, hQ34, l34, y34, z34⟩, st34⟩ := X33.virtualBackS hx (y := m_27) (z := m_27) hown (mvT hZ (w_79 hw)) (mvT hZ (w_80 hw)) (notFace_of_selects (args := #[]) (mvT hZ (w_82 hw))) (mvT hZ (w_82 hw)) (mvT hZ (w_81 hw)) (by decide) (backOfS (W := 0) (rm_fa0 l Z a0 hw [] b2 b5 b12 sn T29.heap n0 (by omega) r29_0 r29_1 f36 P2 f39 f42 f45 f46 (by omega) (own_ne (by omega))) hZ (w_83 hw) (w_2 hw) (by decide) (by decide)) qa34 qc34 (g := (mkF m 107 #[vI p0, vI p1, vI p2, vA b2, vA b5, vA b12, vI 1, vI 0, vA b12] [(.ref b12), (.ref b2)])) rfl (by rw [hml]; rfl) (Steps.refl _) (argsL := [(.ref b12)]) (rest := []) (lenOf pd_13 rfl) rfl (Nat.le_of_eq rfl) (hb hby at_107) (fun _ _ => ⟨rfl, Kq33, (by decide : 5 + 4 ≤ _), (by decide : 5517 + 140 ≤ _)⟩)
  dsimp only [Pt.U, Pt.locs, Pt.cells, Pt.slots] at X34 l34 y34 z34 st34 hQ34 hSb34 hgr34
  rw [l34, y34, z34] at X34
  rw [Kq33] at hgr34
  obtain ⟨X34, hS34, hZ34, hown34⟩ := rebS hS0 (by omega) X34 hSb34 hgr34 hZ hown
  have hk34 : T34.heap.size ≤ T34.heap.size := Nat.le_refl _
  obtain ⟨x34_al, x34_v_, x34_kv, x34_mc, rfl, Nq34, Kq34, r34_0, r34_1, r34_2, r34_3, r34_4, r34_5, r34_6, r34_7, r34_8, r34_9, r34_10, r34_11⟩ := hQ34
  have N34 := Fr.app N33 Nq34
  have z34' := Kq34.1
  have lt47 := own_l r34_3.lt
  have lt48 := own_l r34_5.lt
  have lt49 := own_l r34_6.lt
  have lt50 := own_l r34_7.lt
  have lt51 := own_l r34_8.lt
  have lt52 := own_l r34_9.lt
  have lt53 := own_l r34_10.lt
  have lt54 := own_l r34_11.lt
  have f56 := r29_0.keep Kq34
  have f57 := r29_1.keep Kq34 (ninS (own_ne (by omega)) nin0)
  obtain ⟨_, _, ⟨T55, L55, k55, n55⟩, -, X55, ⟨Lc55, hQ55, l55, y55, z55⟩, st55⟩ := Jvm.LawKit.callS X34 hx (y := m_26) hown34 (mvT hZ34 (w_60 hw)) (mvT hZ34 (w_61 hw)) (mvT hZ34 (w_62 hw)) (mvT hZ34 (w_63 hw)) (by decide) (backOf (W := 0) (rm_agr l Z a0 hw [] b2 b5 T34.heap n0 (by omega) f56 f57) hZ34 (w_63 hw) (w_62 hw) (by decide) (by decide)) (g := (mkF m 135 #[vI p0, vI p1, vI p2, vA b2, vA b5, vA b12, vI 1, vI 0, vA b12] [(.int 0), (.ref b2)])) rfl (by rw [hml]; rfl) (argsL := [(.ref b2), (.int 0)]) (rest := []) (lenOf pd_14 rfl) rfl (Nat.le_of_eq rfl) (hb hby at_135) (fun _ _ => ⟨rfl, rfl, (by decide : 9 + 0 ≤ _), (by decide : 5657 + 0 ≤ _)⟩)
  dsimp only [Pt.U, Pt.locs, Pt.cells, Pt.slots] at X55 l55 y55 z55 st55 hQ55
  rw [l55, y55, z55] at X55
  obtain ⟨rfl, Nq55, Kq55⟩ := hQ55
  have N55 := Fr.app N34 Nq55
  obtain ⟨_, _, ⟨T58, L58, k58, n58⟩, -, X58, ⟨Lc58, hQ58, l58, y58, z58⟩, st58⟩ := Jvm.LawKit.callS X55 hx (y := m_28) hown34 (mvT hZ34 (w_76 hw)) (mvT hZ34 (w_77 hw)) (mvT hZ34 (w_62 hw)) (mvT hZ34 (w_78 hw)) (by decide) (backOf (W := 0) (rm_pk1 l Z a0 hw [] p2 b5 b12 T34.heap n0 (by omega) w2) hZ34 (w_78 hw) (w_62 hw) (by decide) (by decide)) (g := (mkF m 155 #[vI p0, vI p1, vI p2, vA b2, vA b5, vA b12, vI 1, vI 0, vA b12] [(.int 0), (.ref b12), (.ref b5), (.int p2)])) rfl (by rw [hml]; rfl) (argsL := [(.int p2), (.ref b5), (.ref b12), (.int 0)]) (rest := []) (lenOf pd_15 rfl) rfl (Nat.le_of_eq rfl) (hb hby at_155) (fun _ _ => ⟨rfl, Kq55, (by decide : 9 + 0 ≤ _), (by decide : 5657 + 0 ≤ _)⟩)
  dsimp only [Pt.U, Pt.locs, Pt.cells, Pt.slots] at X58 l58 y58 z58 st58 hQ58
  rw [l58, y58, z58] at X58
  obtain ⟨rfl, Nq58, Kq58⟩ := hQ58
  have N58 := Fr.app N55 Nq58
  obtain ⟨cq59, kq59, qa59, qb59, qc59⟩ := isOf hZ34 Kq58 f56
  obtain ⟨_, _, ⟨T59, L59, k59, n59⟩, -, X59, ⟨Lc59, hQ59, l59, y59, z59⟩, st59⟩ := X58.virtualBack hx (y := m_27) (z := m_27) hown34 (mvT hZ34 (w_79 hw)) (mvT hZ34 (w_80 hw)) (notFace_of_selects (args := #[]) (mvT hZ34 (w_82 hw))) (mvT hZ34 (w_82 hw)) (mvT hZ34 (w_81 hw)) (by decide) (backOf (W := 0) (rm_fas l Z a0 hw [] b2 b5 T34.heap n0 (by omega) f56 f57) hZ34 (w_83 hw) (w_2 hw) (by decide) (by decide)) qa59 qc59 (g := (mkF m 163 #[vI p0, vI p1, vI p2, vA b2, vA b5, vA b12, vI 1, vI 0, vA b5] [(.ref b5), (.ref b2)])) rfl (by rw [hml]; rfl) (Steps.refl _) (argsL := [(.ref b5)]) (rest := []) (lenOf pd_13 rfl) rfl (Nat.le_of_eq rfl) (hb hby at_163) (fun _ _ => ⟨rfl, Kq58, (by decide : 9 + 0 ≤ _), (by decide : 5657 + 0 ≤ _)⟩)
  dsimp only [Pt.U, Pt.locs, Pt.cells, Pt.slots] at X59 l59 y59 z59 st59 hQ59
  rw [l59, y59, z59] at X59
  obtain ⟨rfl, Nq59, Kq59⟩ := hQ59
  have N59 := Fr.app N58 Nq59
  obtain ⟨_, _, ⟨T60, L60, k60, n60⟩, -, X60, ⟨Lc60, hQ60, l60, y60, z60⟩, st60⟩ := Jvm.LawKit.callS X59 hx (y := m_26) hown34 (mvT hZ34 (w_60 hw)) (mvT hZ34 (w_61 hw)) (mvT hZ34 (w_62 hw)) (mvT hZ34 (w_63 hw)) (by decide) (backOf (W := 0) (rm_agr l Z a0 hw [] b2 b5 T34.heap n0 (by omega) f56 f57) hZ34 (w_63 hw) (w_62 hw) (by decide) (by decide)) (g := (mkF m 191 #[vI p0, vI p1, vI p2, vA b2, vA b5, vA b12, vI 1, vI 0, vA b5] [(.int 0), (.ref b2)])) rfl (by rw [hml]; rfl) (argsL := [(.ref b2), (.int 0)]) (rest := []) (lenOf pd_14 rfl) rfl (Nat.le_of_eq rfl) (hb hby at_191) (fun _ _ => ⟨rfl, Kq59, (by decide : 9 + 0 ≤ _), (by decide : 5657 + 0 ≤ _)⟩)
  dsimp only [Pt.U, Pt.locs, Pt.cells, Pt.slots] at X60 l60 y60 z60 st60 hQ60
  rw [l60, y60, z60] at X60
  obtain ⟨rfl, Nq60, Kq60⟩ := hQ60
  have N60 := Fr.app N59 Nq60
  obtain ⟨fs, hr, hrun, hended, hEnd⟩ := X60.leaveW hS34 (by first | omega | (rw [(Kq60 : T60.heap = T34.heap)]; omega)) (v := some (.int 1)) (fun h => by rw [Bd.returns] at h; cases h)
  refine ⟨_, _, castTop (ef_10 m p0 p1 p2) ?_, hrun, hended, _, _, rfl, ?_, hEnd.1, hEnd.2.1, hEnd.2.2.1, hEnd.2.2.2.mono (by decide) (by decide)⟩
  · show Steps _ _ _ (s₁.setTop (mkF m 0 #[vI p0, vI p1, vI p2, .unset, .unset, .unset, .unset, .unset, .unset] [])) _
    refine st2 _ ?_
    show Steps _ _ _ (T2.setTop (mkF m 3 #[vI p0, vI p1, vI p2, .unset, .unset, .unset, .unset, .unset, .unset] [(.ref b2)])) _
    refine XS.dup X2.here hx rfl (hb hby at_3) rfl rfl ?_
    refine st4.trans ?_
    show Steps _ _ _ (T4.setTop (mkF m 7 #[vI p0, vI p1, vI p2, .unset, .unset, .unset, .unset, .unset, .unset] [(.ref b2)])) _
    refine XS.astoreN X4.here hx rfl (hb hby at_7) rfl rfl (l' := #[vI p0, vI p1, vI p2, vA b2, .unset, .unset, .unset, .unset, .unset]) rfl ?_
    refine st5 _ ?_
    show Steps _ _ _ (T5.setTop (mkF m 11 #[vI p0, vI p1, vI p2, vA b2, .unset, .unset, .unset, .unset, .unset] [(.ref b5)])) _
    refine XS.dup X5.here hx rfl (hb hby at_11) rfl rfl ?_
    refine st7.trans ?_
    show Steps _ _ _ (T7.setTop (mkF m 15 #[vI p0, vI p1, vI p2, vA b2, .unset, .unset, .unset, .unset, .unset] [(.ref b5)])) _
    refine XS.astore X7.here hx rfl (hb hby at_15) rfl rfl (l' := #[vI p0, vI p1, vI p2, vA b2, vA b5, .unset, .unset, .unset, .unset]) rfl ?_
    refine st12 _ ?_
    show Steps _ _ _ (T12.setTop (mkF m 20 #[vI p0, vI p1, vI p2, vA b2, vA b5, .unset, .unset, .unset, .unset] [(.ref b12)])) _
    refine XS.dup X12.here hx rfl (hb hby at_20) rfl rfl ?_
    refine st14.trans ?_
    show Steps _ _ _ (T14.setTop (mkF m 24 #[vI p0, vI p1, vI p2, vA b2, vA b5, .unset, .unset, .unset, .unset] [(.ref b12)])) _
    refine XS.astore X14.here hx rfl (hb hby at_24) rfl rfl (l' := #[vI p0, vI p1, vI p2, vA b2, vA b5, vA b12, .unset, .unset, .unset]) rfl ?_
    refine XS.aloadN X14.here hx rfl (hb hby at_26) rfl rfl ?_
    refine XS.iconst X14.here hx rfl (hb hby at_27) ?_
    refine st19 _ ?_
    show Steps _ _ _ (T19.setTop (mkF m 31 #[vI p0, vI p1, vI p2, vA b2, vA b5, vA b12, .unset, .unset, .unset] [(.int 1)])) _
    refine XS.istore X19.here hx rfl (hb hby at_31) rfl (l' := #[vI p0, vI p1, vI p2, vA b2, vA b5, vA b12, vI 1, .unset, .unset]) rfl ?_
    refine XS.iconst X19.here hx rfl (hb hby at_33) ?_
    refine XS.istore X19.here hx rfl (hb hby at_34) rfl (l' := #[vI p0, vI p1, vI p2, vA b2, vA b5, vA b12, vI 1, vI 1, .unset]) rfl ?_
    refine XS.iloadN X19.here hx rfl (hb hby at_36) rfl ?_
    refine XS.aload X19.here hx rfl (hb hby at_37) rfl rfl ?_
    refine XS.aload X19.here hx rfl (hb hby at_39) rfl rfl ?_
    refine XS.iload X19.here hx rfl (hb hby at_41) rfl ?_
    refine st28 _ ?_
    show Steps _ _ _ (T28.setTop (mkF m 46 #[vI p0, vI p1, vI p2, vA b2, vA b5, vA b12, vI 1, vI 1, .unset] [(.ref b5)])) _
    refine XS.astore X28.here hx rfl (hb hby at_46) rfl rfl (l' := #[vI p0, vI p1, vI p2, vA b2, vA b5, vA b12, vI 1, vI 1, vA b5]) rfl ?_
    refine XS.aloadN X28.here hx rfl (hb hby at_48) rfl rfl ?_
    refine XS.aload X28.here hx rfl (hb hby at_49) rfl rfl ?_
    refine st29.trans ?_
    show Steps _ _ _ (T29.setTop (mkF m 54 #[vI p0, vI p1, vI p2, vA b2, vA b5, vA b12, vI 1, vI 1, vA b5] [])) _
    refine XS.iload X29.here hx rfl (hb hby at_54) rfl ?_
    refine XS.ifNo X29.here hx rfl (hb hby at_56) rfl ((if0 _ _).trans (feq ((by decide) : ¬ ((1 : Int32) = (0 : Int32)))).1) ?_
    refine XS.aload X29.here hx rfl (hb hby at_59) rfl rfl ?_
    refine XS.ifnonnullYes X29.here hx rfl (pc0 := 61) (pc' := 68) rfl (hb hby at_61) rfl (by decide) (by decide) ?_
    refine XS.iconst X29.here hx rfl (hb hby at_68) ?_
    refine XS.istore X29.here hx rfl (hb hby at_69) rfl (l' := #[vI p0, vI p1, vI p2, vA b2, vA b5, vA b12, vI 1, vI 0, vA b5]) rfl ?_
    refine XS.iload X29.here hx rfl (hb hby at_71) rfl ?_
    refine XS.ifNo X29.here hx rfl (hb hby at_73) rfl ((if0 _ _).trans (feq ((by decide) : ¬ ((1 : Int32) = (0 : Int32)))).1) ?_
    refine XS.aloadN X29.here hx rfl (hb hby at_76) rfl rfl ?_
    refine XS.iload X29.here hx rfl (hb hby at_77) rfl ?_
    refine st32 _ ?_
    show Steps _ _ _ (T32.setTop (mkF m 82 #[vI p0, vI p1, vI p2, vA b2, vA b5, vA b12, vI 1, vI 0, vA b5] [(.int 1)])) _
    refine XS.ifNo X32.here hx rfl (hb hby at_82) rfl ((if0 _ _).trans (feq ((by decide) : ¬ ((1 : Int32) = (0 : Int32)))).1) ?_
    refine XS.iconst X32.here hx rfl (hb hby at_85) ?_
    refine XS.goto X32.here hx rfl (pc0 := 86) (pc' := 90) rfl (hb hby at_86) (by decide) (by decide) ?_
    refine XS.istore X32.here hx rfl (hb hby at_90) rfl (l' := #[vI p0, vI p1, vI p2, vA b2, vA b5, vA b12, vI 1, vI 0, vA b5]) rfl ?_
    refine XS.iloadN X32.here hx rfl (hb hby at_92) rfl ?_
    refine XS.aload X32.here hx rfl (hb hby at_93) rfl rfl ?_
    refine XS.aload X32.here hx rfl (hb hby at_95) rfl rfl ?_
    refine XS.iload X32.here hx rfl (hb hby at_97) rfl ?_
    refine st33 _ ?_
    show Steps _ _ _ (T33.setTop (mkF m 102 #[vI p0, vI p1, vI p2, vA b2, vA b5, vA b12, vI 1, vI 0, vA b5] [(.ref b12)])) _
    refine XS.astore X33.here hx rfl (hb hby at_102) rfl rfl (l' := #[vI p0, vI p1, vI p2, vA b2, vA b5, vA b12, vI 1, vI 0, vA b12]) rfl ?_
    refine XS.aloadN X33.here hx rfl (hb hby at_104) rfl rfl ?_
    refine XS.aload X33.here hx rfl (hb hby at_105) rfl rfl ?_
    refine st34.trans ?_
    show Steps _ _ _ (T34.setTop (mkF m 110 #[vI p0, vI p1, vI p2, vA b2, vA b5, vA b12, vI 1, vI 0, vA b12] [])) _
    refine XS.iload X34.here hx rfl (hb hby at_110) rfl ?_
    refine XS.ifYes X34.here hx rfl (pc0 := 112) (pc' := 124) rfl (hb hby at_112) rfl ((if0 _ _).trans (teq ((by decide) : (0 : Int32) = (0 : Int32))).1) (by decide) (by decide) ?_
    refine XS.iconst X34.here hx rfl (hb hby at_124) ?_
    refine XS.istore X34.here hx rfl (hb hby at_125) rfl (l' := #[vI p0, vI p1, vI p2, vA b2, vA b5, vA b12, vI 1, vI 0, vA b12]) rfl ?_
    refine XS.iload X34.here hx rfl (hb hby at_127) rfl ?_
    refine XS.ifNo X34.here hx rfl (hb hby at_129) rfl ((if0 _ _).trans (feq ((by decide) : ¬ ((1 : Int32) = (0 : Int32)))).1) ?_
    refine XS.aloadN X34.here hx rfl (hb hby at_132) rfl rfl ?_
    refine XS.iload X34.here hx rfl (hb hby at_133) rfl ?_
    refine st55 _ ?_
    show Steps _ _ _ (T55.setTop (mkF m 138 #[vI p0, vI p1, vI p2, vA b2, vA b5, vA b12, vI 1, vI 0, vA b12] [(.int 1)])) _
    refine XS.ifNo X55.here hx rfl (hb hby at_138) rfl ((if0 _ _).trans (feq ((by decide) : ¬ ((1 : Int32) = (0 : Int32)))).1) ?_
    refine XS.iconst X55.here hx rfl (hb hby at_141) ?_
    refine XS.goto X55.here hx rfl (pc0 := 142) (pc' := 146) rfl (hb hby at_142) (by decide) (by decide) ?_
    refine XS.istore X55.here hx rfl (hb hby at_146) rfl (l' := #[vI p0, vI p1, vI p2, vA b2, vA b5, vA b12, vI 1, vI 0, vA b12]) rfl ?_
    refine XS.iloadN X55.here hx rfl (hb hby at_148) rfl ?_
    refine XS.aload X55.here hx rfl (hb hby at_149) rfl rfl ?_
    refine XS.aload X55.here hx rfl (hb hby at_151) rfl rfl ?_
    refine XS.iload X55.here hx rfl (hb hby at_153) rfl ?_
    refine st58 _ ?_
    show Steps _ _ _ (T58.setTop (mkF m 158 #[vI p0, vI p1, vI p2, vA b2, vA b5, vA b12, vI 1, vI 0, vA b12] [(.ref b5)])) _
    refine XS.astore X58.here hx rfl (hb hby at_158) rfl rfl (l' := #[vI p0, vI p1, vI p2, vA b2, vA b5, vA b12, vI 1, vI 0, vA b5]) rfl ?_
    refine XS.aloadN X58.here hx rfl (hb hby at_160) rfl rfl ?_
    refine XS.aload X58.here hx rfl (hb hby at_161) rfl rfl ?_
    refine st59.trans ?_
    show Steps _ _ _ (T59.setTop (mkF m 166 #[vI p0, vI p1, vI p2, vA b2, vA b5, vA b12, vI 1, vI 0, vA b5] [])) _
    refine XS.iload X59.here hx rfl (hb hby at_166) rfl ?_
    refine XS.ifYes X59.here hx rfl (pc0 := 168) (pc' := 180) rfl (hb hby at_168) rfl ((if0 _ _).trans (teq ((by decide) : (0 : Int32) = (0 : Int32))).1) (by decide) (by decide) ?_
    refine XS.iconst X59.here hx rfl (hb hby at_180) ?_
    refine XS.istore X59.here hx rfl (hb hby at_181) rfl (l' := #[vI p0, vI p1, vI p2, vA b2, vA b5, vA b12, vI 1, vI 0, vA b5]) rfl ?_
    refine XS.iload X59.here hx rfl (hb hby at_183) rfl ?_
    refine XS.ifNo X59.here hx rfl (hb hby at_185) rfl ((if0 _ _).trans (feq ((by decide) : ¬ ((1 : Int32) = (0 : Int32)))).1) ?_
    refine XS.aloadN X59.here hx rfl (hb hby at_188) rfl rfl ?_
    refine XS.iload X59.here hx rfl (hb hby at_189) rfl ?_
    refine st60 _ ?_
    show Steps _ _ _ (T60.setTop (mkF m 194 #[vI p0, vI p1, vI p2, vA b2, vA b5, vA b12, vI 1, vI 0, vA b5] [(.int 1)])) _
    refine XS.ifNo X60.here hx rfl (hb hby at_194) rfl ((if0 _ _).trans (feq ((by decide) : ¬ ((1 : Int32) = (0 : Int32)))).1) ?_
    refine XS.iconst X60.here hx rfl (hb hby at_197) ?_
    refine XS.goto X60.here hx rfl (pc0 := 198) (pc' := 202) rfl (hb hby at_198) (by decide) (by decide) ?_
    refine XS.istore X60.here hx rfl (hb hby at_202) rfl (l' := #[vI p0, vI p1, vI p2, vA b2, vA b5, vA b12, vI 1, vI 0, vA b5]) rfl ?_
    refine XS.iload X60.here hx rfl (hb hby at_204) rfl ?_
    exact retN X60 hx (t := .boolean) Bd.returns (by simp) (hb hby at_206) hr
  · show Q_law Z p0 p1 p2 su sn mo h0 n0 _ T60.heap _
    rw [(Kq60 : T60.heap = T34.heap)]
    exact ⟨rfl, N60⟩
theorem rm_law_122 (l : Launch) (Z : State) (a0 : Array Value) (hw : HW Z a0) (ws : List Jvm.Cond) (p0 : Int32) (p1 : Int32) (p2 : Int32) (su : Addr) (sn : Addr) (mo : Addr) (h0 : Heap) (n0 : Nat) (Z0 : n0 ≤ h0.size) (P0 : Old Z n0 h0) (P1 : sta0 Z (.ref su)) (P2 : sta1 Z (.ref sn)) (P3 : Mi Z "[Ljava/lang/Object;" mo) (P4 : Exa Z h0 sn "java/util/Collections$EmptyList") (hst : l.stackTraces = true) (q0 : ¬ ((p0 &&& (3 : Int32)) = (0 : Int32))) (w0 : ¬ ((p0 &&& (3 : Int32)) = (2 : Int32))) (w1 : (p1 &&& (3 : Int32)) = (2 : Int32)) (w2 : (p2 &&& (3 : Int32)) = (2 : Int32)) :
    MetFree l x (head1 (Jvm.Cond.code x code maxLocals ret :: ws) room_1) (fun as' U => as' = #[(.int p0), (.int p1), (.int p2)] ∧ Z.Warmed39 U.vm ∧ U.heap = h0) (fun _ _ bl s _ => s.vm.MethodsKnown ∧ s.vm.FramesKnown bl) (fun _ U o U' => ∃ v L, o = .returned v ∧ Q_law Z p0 p1 p2 su sn mo h0 n0 v U'.heap L ∧ ReturnedEndW U o U' L room_1.cells room_1.slots) := by
  refine MetFree.of_bodySF (plainFor_of_name pn_12) hisR ?_
  intro p e s m args below meth c s₁ Bd hml0 hP hK
  obtain ⟨hTK, hBl⟩ := hK
  obtain ⟨rfl, hZ, hh⟩ := hP
  have hx := Bd.exec
  have hby := Bd.bytes
  have hml : c.maxLocals = 9 := hml0
  have hown : (s.setVm s.vm).vm.findClass "com/example/maat/maat/FailuresIsEmptyPinLaw" = some m.cls := findClass_of_methodNamed Bd.named
  have hnm := (name_of_methodNamed Bd.named Bd.method).1
  have X0 : Stand p l e room_1 (s.setVm s.vm) m #[(.int p0), (.int p1), (.int p2)] below meth c s₁ [] 0 0 := Stand.of_body Bd
  have e0 : s₁.heap = h0 := by rw [← hh, Bd.state]; rfl
  have N0 := Fr.nil n0
  have hZ : Z.Warmed39 (s.setVm s.vm).vm := hZ
  have hS0 : s.Since s.vm h0.size := (State.WarmedH.refl s).since _
  have hk0 : h0.size ≤ h0.size := Nat.le_refl _
  have lt1 := own_l P4.lt
  obtain ⟨T2, h2, X2, e2, E2, A2, D2, -, st2⟩ := newO X0 hx hZ hown (w_0 hw) (w_1 hw) (w_2 hw) e0 (g := (mkF m 0 #[vI p0, vI p1, vI p2, .unset, .unset, .unset, .unset, .unset, .unset] [])) rfl (hb hby at_0) (by decide) (by decide)
  obtain ⟨b2, g2⟩ : ∃ z, z = h0.size := ⟨_, rfl⟩
  rw [← g2] at A2 D2 st2
  have z2 := E2.1
  have lt3 := own_l A2.lt
  have F2_70 : Fld Z h2 b2 "com/example/maat/maat/Failures" "first" "Ljava/lang/Throwable;" .null := D2 (Or.inl (w_70 hw)) (ty := (.object "java/lang/Throwable")) (by decide)
  obtain ⟨_, _, ⟨T4, L4, k4, n4⟩, -, X4, ⟨Lc4, hQ4, l4, y4, z4⟩, st4⟩ := X2.specialBack hx (y := m_23) rfl hown (mvT hZ (w_3 hw)) (mvT hZ (w_4 hw)) (mvT hZ (w_5 hw)) (by decide) (backOf (W := 1) (rm_fin l Z a0 hw [] b2 h2 n0 (by omega) ) hZ (w_5 hw) (w_2 hw) (by decide) (by decide)) (g := (mkF m 4 #[vI p0, vI p1, vI p2, .unset, .unset, .unset, .unset, .unset, .unset] [(.ref b2), (.ref b2)])) rfl (by rw [hml]; rfl) (Steps.refl _) (a := b2) (argsL := []) (rest := [(.ref b2)]) (lenOf pd_0 rfl) rfl (Nat.le_of_eq rfl) (hb hby at_4) (fun _ _ => ⟨rfl, e2, (by decide : 1 + 0 ≤ _), (by decide : 1 + 0 ≤ _)⟩)
  dsimp only [Pt.U, Pt.locs, Pt.cells, Pt.slots] at X4 l4 y4 z4 st4 hQ4
  rw [l4, y4, z4] at X4
  obtain ⟨rfl, Nq4, Kq4⟩ := hQ4
  have N4 := Fr.app N0 Nq4
  obtain ⟨T5, h5, X5, e5, E5, A5, D5, U5, st5⟩ := newO X4 hx hZ hown (w_9 hw) (w_10 hw) (w_11 hw) Kq4 (g := (mkF m 8 #[vI p0, vI p1, vI p2, vA b2, .unset, .unset, .unset, .unset, .unset] [])) rfl (hb hby at_8) (by decide) (by decide)
  obtain ⟨b5, g5⟩ : ∃ z, z = h2.size := ⟨_, rfl⟩
  rw [← g5] at A5 D5 U5 st5
  have z5 := E5.1
  have lt6 := own_l A5.lt
  replace U5 : Unt h5 b5 := U5
  have F5_29 : Fld Z h5 b5 "java/lang/Throwable" "cause" "Ljava/lang/Throwable;" .null := D5 (Or.inl (w_29 hw)) (ty := (.object "java/lang/Throwable")) (by decide)
  have F5_32 : Fld Z h5 b5 "java/lang/Throwable" "stackTrace" "[Ljava/lang/StackTraceElement;" .null := D5 (Or.inl (w_32 hw)) (ty := (.array (.object "java/lang/StackTraceElement"))) (by decide)
  have F5_35 : Fld Z h5 b5 "java/lang/Throwable" "suppressedExceptions" "Ljava/util/List;" .null := D5 (Or.inl (w_35 hw)) (ty := (.object "java/util/List")) (by decide)
  have F5_56 : Fld Z h5 b5 "java/lang/Throwable" "detailMessage" "Ljava/lang/String;" .null := D5 (Or.inl (w_56 hw)) (ty := (.object "java/lang/String")) (by decide)
  have F5_57 : Fld Z h5 b5 "java/lang/Throwable" "backtrace" "Ljava/lang/Object;" .null := D5 (Or.inl (w_57 hw)) (ty := (.object "java/lang/Object")) (by decide)
  have F5_58 : Fld Z h5 b5 "java/lang/Throwable" "depth" "I" (.int 0) := D5 (Or.inl (w_58 hw)) (ty := .int) (by decide)
  have f8 := P0.ext E2
  have f9 := f8.ext E5
  obtain ⟨_, _, ⟨T7, L7, k7, n7⟩, -, X7, ⟨Lc7, hQ7, l7, y7, z7⟩, st7⟩ := X5.specialBack hx (y := m_5) rfl hown (mvT hZ (w_12 hw)) (mvT hZ (w_13 hw)) (mvT hZ (w_14 hw)) (by decide) (backOfKL (W := 1) (rm_rti l Z a0 hw [] b5 su sn h5 n0 (by omega) f9 P1 P2 A5 U5 F5_29 F5_32 F5_35 F5_57 F5_58 (by omega) hst) hZ (w_14 hw) (w_11 hw) (by decide) (by decide) hTK hBl) (g := (mkF m 12 #[vI p0, vI p1, vI p2, vA b2, .unset, .unset, .unset, .unset, .unset] [(.ref b5), (.ref b5)])) rfl (by rw [hml]; rfl) (Steps.refl _) (a := b5) (argsL := []) (rest := [(.ref b5)]) (lenOf pd_0 rfl) rfl (Nat.le_of_eq rfl) (hb hby at_12) (fun _ _ => ⟨rfl, e5, (by decide : 2 + 1 ≤ _), (by decide : 7 + 2752 ≤ _)⟩)
  dsimp only [Pt.U, Pt.locs, Pt.cells, Pt.slots] at X7 l7 y7 z7 st7 hQ7
  rw [l7, y7, z7] at X7
  obtain ⟨rfl, Nq7, Kq7, r7_0, r7_1, r7_2⟩ := hQ7
  have N7 := Fr.app N4 Nq7
  have z7' := Kq7.1
  have lt10 := own_l r7_0.lt
  have lt11 := own_l r7_2.lt
  obtain ⟨T12, h12, X12, e12, E12, A12, D12, U12, st12⟩ := newO X7 hx hZ hown (w_9 hw) (w_10 hw) (w_11 hw) rfl (g := (mkF m 17 #[vI p0, vI p1, vI p2, vA b2, vA b5, .unset, .unset, .unset, .unset] [])) rfl (hb hby at_17) (by decide) (by decide)
  obtain ⟨b12, g12⟩ : ∃ z, z = T7.heap.size := ⟨_, rfl⟩
  rw [← g12] at A12 D12 U12 st12
  have z12 := E12.1
  have lt13 := own_l A12.lt
  replace U12 : Unt h12 b12 := U12
  have F12_29 : Fld Z h12 b12 "java/lang/Throwable" "cause" "Ljava/lang/Throwable;" .null := D12 (Or.inl (w_29 hw)) (ty := (.object "java/lang/Throwable")) (by decide)
  have F12_32 : Fld Z h12 b12 "java/lang/Throwable" "stackTrace" "[Ljava/lang/StackTraceElement;" .null := D12 (Or.inl (w_32 hw)) (ty := (.array (.object "java/lang/StackTraceElement"))) (by decide)
  have F12_35 : Fld Z h12 b12 "java/lang/Throwable" "suppressedExceptions" "Ljava/util/List;" .null := D12 (Or.inl (w_35 hw)) (ty := (.object "java/util/List")) (by decide)
  have F12_56 : Fld Z h12 b12 "java/lang/Throwable" "detailMessage" "Ljava/lang/String;" .null := D12 (Or.inl (w_56 hw)) (ty := (.object "java/lang/String")) (by decide)
  have F12_57 : Fld Z h12 b12 "java/lang/Throwable" "backtrace" "Ljava/lang/Object;" .null := D12 (Or.inl (w_57 hw)) (ty := (.object "java/lang/Object")) (by decide)
  have F12_58 : Fld Z h12 b12 "java/lang/Throwable" "depth" "I" (.int 0) := D12 (Or.inl (w_58 hw)) (ty := .int) (by decide)
  have f15 := f9.keep Kq7 (allS (by omega) all0)
  have f16 := f15.ext E12
  obtain ⟨_, _, ⟨T14, L14, k14, n14⟩, -, X14, ⟨Lc14, hQ14, l14, y14, z14⟩, st14⟩ := X12.specialBack hx (y := m_5) rfl hown (mvT hZ (w_12 hw)) (mvT hZ (w_13 hw)) (mvT hZ (w_14 hw)) (by decide) (backOfKL (W := 1) (rm_rti l Z a0 hw [] b12 su sn h12 n0 (by omega) f16 P1 P2 A12 U12 F12_29 F12_32 F12_35 F12_57 F12_58 (by omega) hst) hZ (w_14 hw) (w_11 hw) (by decide) (by decide) hTK hBl) (g := (mkF m 21 #[vI p0, vI p1, vI p2, vA b2, vA b5, .unset, .unset, .unset, .unset] [(.ref b12), (.ref b12)])) rfl (by rw [hml]; rfl) (Steps.refl _) (a := b12) (argsL := []) (rest := [(.ref b12)]) (lenOf pd_0 rfl) rfl (Nat.le_of_eq rfl) (hb hby at_21) (fun _ _ => ⟨rfl, e12, (by decide : 4 + 1 ≤ _), (by decide : 2765 + 2752 ≤ _)⟩)
  dsimp only [Pt.U, Pt.locs, Pt.cells, Pt.slots] at X14 l14 y14 z14 st14 hQ14
  rw [l14, y14, z14] at X14
  obtain ⟨rfl, Nq14, Kq14, r14_0, r14_1, r14_2⟩ := hQ14
  have N14 := Fr.app N7 Nq14
  have z14' := Kq14.1
  have lt17 := own_l r14_0.lt
  have lt18 := own_l r14_2.lt
  have f20 := A2.ext E5
  have f21 := f20.keep Kq7
  have f22 := f21.ext E12
  have f23 := f22.keep Kq14
  have f24 := F2_70.ext E5
  have f25 := f24.keep Kq7 (ninS (own_ne (by omega)) nin0)
  have f26 := f25.ext E12
  have f27 := f26.keep Kq14 (ninS (own_ne (by omega)) nin0)
  obtain ⟨_, _, ⟨T19, L19, k19, n19⟩, -, X19, ⟨Lc19, hQ19, l19, y19, z19⟩, st19⟩ := Jvm.LawKit.callS X14 hx (y := m_26) hown (mvT hZ (w_60 hw)) (mvT hZ (w_61 hw)) (mvT hZ (w_62 hw)) (mvT hZ (w_63 hw)) (by decide) (backOf (W := 0) (rm_agn l Z a0 hw [] b2 T14.heap n0 (by omega) f23 f27) hZ (w_63 hw) (w_62 hw) (by decide) (by decide)) (g := (mkF m 28 #[vI p0, vI p1, vI p2, vA b2, vA b5, vA b12, .unset, .unset, .unset] [(.int 1), (.ref b2)])) rfl (by rw [hml]; rfl) (argsL := [(.ref b2), (.int 1)]) (rest := []) (lenOf pd_14 rfl) rfl (Nat.le_of_eq rfl) (hb hby at_28) (fun _ _ => ⟨rfl, rfl, (by decide : 5 + 0 ≤ _), (by decide : 5517 + 0 ≤ _)⟩)
  dsimp only [Pt.U, Pt.locs, Pt.cells, Pt.slots] at X19 l19 y19 z19 st19 hQ19
  rw [l19, y19, z19] at X19
  obtain ⟨rfl, Nq19, Kq19⟩ := hQ19
  have N19 := Fr.app N14 Nq19
  obtain ⟨_, _, ⟨T28, L28, k28, n28⟩, -, X28, ⟨Lc28, hQ28, l28, y28, z28⟩, st28⟩ := Jvm.LawKit.callS X19 hx (y := m_28) hown (mvT hZ (w_76 hw)) (mvT hZ (w_77 hw)) (mvT hZ (w_62 hw)) (mvT hZ (w_78 hw)) (by decide) (backOf (W := 0) (rm_pk1e l Z a0 hw [] p0 b5 b12 T14.heap n0 (by omega) q0 w0) hZ (w_78 hw) (w_62 hw) (by decide) (by decide)) (g := (mkF m 43 #[vI p0, vI p1, vI p2, vA b2, vA b5, vA b12, vI 1, vI 1, .unset] [(.int 1), (.ref b12), (.ref b5), (.int p0)])) rfl (by rw [hml]; rfl) (argsL := [(.int p0), (.ref b5), (.ref b12), (.int 1)]) (rest := []) (lenOf pd_15 rfl) rfl (Nat.le_of_eq rfl) (hb hby at_43) (fun _ _ => ⟨rfl, Kq19, (by decide : 5 + 0 ≤ _), (by decide : 5517 + 0 ≤ _)⟩)
  dsimp only [Pt.U, Pt.locs, Pt.cells, Pt.slots] at X28 l28 y28 z28 st28 hQ28
  rw [l28, y28, z28] at X28
  obtain ⟨rfl, Nq28, Kq28⟩ := hQ28
  have N28 := Fr.app N19 Nq28
  obtain ⟨cq29, kq29, qa29, qb29, qc29⟩ := isOf hZ Kq28 f23
  obtain ⟨_, _, ⟨T29, L29, k29, n29⟩, -, X29, ⟨Lc29, hQ29, l29, y29, z29⟩, st29⟩ := X28.virtualBack hx (y := m_27) (z := m_27) hown (mvT hZ (w_79 hw)) (mvT hZ (w_80 hw)) (notFace_of_selects (args := #[]) (mvT hZ (w_82 hw))) (mvT hZ (w_82 hw)) (mvT hZ (w_81 hw)) (by decide) (backOf (W := 0) (rm_far l Z a0 hw [] b2 b5 T14.heap n0 (by omega) f23 f27 (by omega)) hZ (w_83 hw) (w_2 hw) (by decide) (by decide)) qa29 qc29 (g := (mkF m 51 #[vI p0, vI p1, vI p2, vA b2, vA b5, vA b12, vI 1, vI 1, vA b5] [(.ref b5), (.ref b2)])) rfl (by rw [hml]; rfl) (Steps.refl _) (argsL := [(.ref b5)]) (rest := []) (lenOf pd_13 rfl) rfl (Nat.le_of_eq rfl) (hb hby at_51) (fun _ _ => ⟨rfl, Kq28, (by decide : 5 + 0 ≤ _), (by decide : 5517 + 0 ≤ _)⟩)
  dsimp only [Pt.U, Pt.locs, Pt.cells, Pt.slots] at X29 l29 y29 z29 st29 hQ29
  rw [l29, y29, z29] at X29
  obtain ⟨rfl, Nq29, Kq29, r29_0, r29_1⟩ := hQ29
  have N29 := Fr.app N28 Nq29
  have z29' := Kq29.1
  have lt30 := own_l r29_0.lt
  have lt31 := own_l r29_1.lt
  obtain ⟨_, _, ⟨T32, L32, k32, n32⟩, -, X32, ⟨Lc32, hQ32, l32, y32, z32⟩, st32⟩ := Jvm.LawKit.callS X29 hx (y := m_26) hown (mvT hZ (w_60 hw)) (mvT hZ (w_61 hw)) (mvT hZ (w_62 hw)) (mvT hZ (w_63 hw)) (by decide) (backOf (W := 0) (rm_agr l Z a0 hw [] b2 b5 T29.heap n0 (by omega) r29_0 r29_1) hZ (w_63 hw) (w_62 hw) (by decide) (by decide)) (g := (mkF m 79 #[vI p0, vI p1, vI p2, vA b2, vA b5, vA b12, vI 1, vI 0, vA b5] [(.int 0), (.ref b2)])) rfl (by rw [hml]; rfl) (argsL := [(.ref b2), (.int 0)]) (rest := []) (lenOf pd_14 rfl) rfl (Nat.le_of_eq rfl) (hb hby at_79) (fun _ _ => ⟨rfl, rfl, (by decide : 5 + 0 ≤ _), (by decide : 5517 + 0 ≤ _)⟩)
  dsimp only [Pt.U, Pt.locs, Pt.cells, Pt.slots] at X32 l32 y32 z32 st32 hQ32
  rw [l32, y32, z32] at X32
  obtain ⟨rfl, Nq32, Kq32⟩ := hQ32
  have N32 := Fr.app N29 Nq32
  obtain ⟨_, _, ⟨T33, L33, k33, n33⟩, -, X33, ⟨Lc33, hQ33, l33, y33, z33⟩, st33⟩ := Jvm.LawKit.callS X32 hx (y := m_28) hown (mvT hZ (w_76 hw)) (mvT hZ (w_77 hw)) (mvT hZ (w_62 hw)) (mvT hZ (w_78 hw)) (by decide) (backOf (W := 0) (rm_pk2 l Z a0 hw [] p1 b5 b12 T29.heap n0 (by omega) (own_20 w1) w1) hZ (w_78 hw) (w_62 hw) (by decide) (by decide)) (g := (mkF m 99 #[vI p0, vI p1, vI p2, vA b2, vA b5, vA b12, vI 1, vI 0, vA b5] [(.int 0), (.ref b12), (.ref b5), (.int p1)])) rfl (by rw [hml]; rfl) (argsL := [(.int p1), (.ref b5), (.ref b12), (.int 0)]) (rest := []) (lenOf pd_15 rfl) rfl (Nat.le_of_eq rfl) (hb hby at_99) (fun _ _ => ⟨rfl, Kq32, (by decide : 5 + 0 ≤ _), (by decide : 5517 + 0 ≤ _)⟩)
  dsimp only [Pt.U, Pt.locs, Pt.cells, Pt.slots] at X33 l33 y33 z33 st33 hQ33
  rw [l33, y33, z33] at X33
  obtain ⟨rfl, Nq33, Kq33⟩ := hQ33
  have N33 := Fr.app N32 Nq33
  have f35 := f16.keep Kq14 (allS (by omega) all0)
  have f36 := f35.keep Kq29 (allS (by omega) all0)
  have f37 := r7_0.ext E12
  have f38 := f37.keep Kq14
  have f39 := f38.keep Kq29
  have f40 := r7_1.ext E12
  have f41 := Unt.keep Kq14 (ninS (own_ne (by omega)) nin0) f40
  have f42 := Unt.keep Kq29 (ninS (own_ne (by omega)) nin0) f41
  have f43 := r7_2.ext E12
  have f44 := f43.keep Kq14 (ninS (own_ne (by omega)) nin0)
  have f45 := f44.keep Kq29 (ninS (own_ne (by omega)) nin0)
  have f46 := r14_0.keep Kq29
  obtain ⟨cq34, kq34, qa34, qb34, qc34⟩ := isOf hZ Kq33 r29_0
  obtain ⟨_, _, ⟨T34, L34, k34, n34⟩, -, X34, hSb34, hgr34, ⟨Lc34, hQ34, l34, y34, z34⟩, st34⟩ := X33.virtualBackS hx (y := m_27) (z := m_27) hown (mvT hZ (w_79 hw)) (mvT hZ (w_80 hw)) (notFace_of_selects (args := #[]) (mvT hZ (w_82 hw))) (mvT hZ (w_82 hw)) (mvT hZ (w_81 hw)) (by decide) (backOfS (W := 0) (rm_fa0 l Z a0 hw [] b2 b5 b12 sn T29.heap n0 (by omega) r29_0 r29_1 f36 P2 f39 f42 f45 f46 (by omega) (own_ne (by omega))) hZ (w_83 hw) (w_2 hw) (by decide) (by decide)) qa34 qc34 (g := (mkF m 107 #[vI p0, vI p1, vI p2, vA b2, vA b5, vA b12, vI 1, vI 0, vA b12] [(.ref b12), (.ref b2)])) rfl (by rw [hml]; rfl) (Steps.refl _) (argsL := [(.ref b12)]) (rest := []) (lenOf pd_13 rfl) rfl (Nat.le_of_eq rfl) (hb hby at_107) (fun _ _ => ⟨rfl, Kq33, (by decide : 5 + 4 ≤ _), (by decide : 5517 + 140 ≤ _)⟩)
  dsimp only [Pt.U, Pt.locs, Pt.cells, Pt.slots] at X34 l34 y34 z34 st34 hQ34 hSb34 hgr34
  rw [l34, y34, z34] at X34
  rw [Kq33] at hgr34
  obtain ⟨X34, hS34, hZ34, hown34⟩ := rebS hS0 (by omega) X34 hSb34 hgr34 hZ hown
  have hk34 : T34.heap.size ≤ T34.heap.size := Nat.le_refl _
  obtain ⟨x34_al, x34_v_, x34_kv, x34_mc, rfl, Nq34, Kq34, r34_0, r34_1, r34_2, r34_3, r34_4, r34_5, r34_6, r34_7, r34_8, r34_9, r34_10, r34_11⟩ := hQ34
  have N34 := Fr.app N33 Nq34
  have z34' := Kq34.1
  have lt47 := own_l r34_3.lt
  have lt48 := own_l r34_5.lt
  have lt49 := own_l r34_6.lt
  have lt50 := own_l r34_7.lt
  have lt51 := own_l r34_8.lt
  have lt52 := own_l r34_9.lt
  have lt53 := own_l r34_10.lt
  have lt54 := own_l r34_11.lt
  have f56 := r29_0.keep Kq34
  have f57 := r29_1.keep Kq34 (ninS (own_ne (by omega)) nin0)
  obtain ⟨_, _, ⟨T55, L55, k55, n55⟩, -, X55, ⟨Lc55, hQ55, l55, y55, z55⟩, st55⟩ := Jvm.LawKit.callS X34 hx (y := m_26) hown34 (mvT hZ34 (w_60 hw)) (mvT hZ34 (w_61 hw)) (mvT hZ34 (w_62 hw)) (mvT hZ34 (w_63 hw)) (by decide) (backOf (W := 0) (rm_agr l Z a0 hw [] b2 b5 T34.heap n0 (by omega) f56 f57) hZ34 (w_63 hw) (w_62 hw) (by decide) (by decide)) (g := (mkF m 135 #[vI p0, vI p1, vI p2, vA b2, vA b5, vA b12, vI 1, vI 0, vA b12] [(.int 0), (.ref b2)])) rfl (by rw [hml]; rfl) (argsL := [(.ref b2), (.int 0)]) (rest := []) (lenOf pd_14 rfl) rfl (Nat.le_of_eq rfl) (hb hby at_135) (fun _ _ => ⟨rfl, rfl, (by decide : 9 + 0 ≤ _), (by decide : 5657 + 0 ≤ _)⟩)
  dsimp only [Pt.U, Pt.locs, Pt.cells, Pt.slots] at X55 l55 y55 z55 st55 hQ55
  rw [l55, y55, z55] at X55
  obtain ⟨rfl, Nq55, Kq55⟩ := hQ55
  have N55 := Fr.app N34 Nq55
  obtain ⟨_, _, ⟨T58, L58, k58, n58⟩, -, X58, ⟨Lc58, hQ58, l58, y58, z58⟩, st58⟩ := Jvm.LawKit.callS X55 hx (y := m_28) hown34 (mvT hZ34 (w_76 hw)) (mvT hZ34 (w_77 hw)) (mvT hZ34 (w_62 hw)) (mvT hZ34 (w_78 hw)) (by decide) (backOf (W := 0) (rm_pk2 l Z a0 hw [] p2 b5 b12 T34.heap n0 (by omega) (own_20 w2) w2) hZ34 (w_78 hw) (w_62 hw) (by decide) (by decide)) (g := (mkF m 155 #[vI p0, vI p1, vI p2, vA b2, vA b5, vA b12, vI 1, vI 0, vA b12] [(.int 0), (.ref b12), (.ref b5), (.int p2)])) rfl (by rw [hml]; rfl) (argsL := [(.int p2), (.ref b5), (.ref b12), (.int 0)]) (rest := []) (lenOf pd_15 rfl) rfl (Nat.le_of_eq rfl) (hb hby at_155) (fun _ _ => ⟨rfl, Kq55, (by decide : 9 + 0 ≤ _), (by decide : 5657 + 0 ≤ _)⟩)
  dsimp only [Pt.U, Pt.locs, Pt.cells, Pt.slots] at X58 l58 y58 z58 st58 hQ58
  rw [l58, y58, z58] at X58
  obtain ⟨rfl, Nq58, Kq58⟩ := hQ58
  have N58 := Fr.app N55 Nq58
  have f60 := f36.keep Kq34 (allS (by omega) all0)
  have f61 := f46.keep Kq34
  obtain ⟨cq59, kq59, qa59, qb59, qc59⟩ := isOf hZ34 Kq58 f56
  obtain ⟨_, _, ⟨T59, L59, k59, n59⟩, -, X59, hSb59, hgr59, ⟨Lc59, hQ59, l59, y59, z59⟩, st59⟩ := X58.virtualBackS hx (y := m_27) (z := m_27) hown34 (mvT hZ34 (w_79 hw)) (mvT hZ34 (w_80 hw)) (notFace_of_selects (args := #[]) (mvT hZ34 (w_82 hw))) (mvT hZ34 (w_82 hw)) (mvT hZ34 (w_81 hw)) (by decide) (backOfS (W := 0) (rm_fa1 l Z a0 hw [] b2 b5 b12 sn x34_al x34_v_ x34_kv x34_mc b12 mo T34.heap n0 (by omega) f56 f57 f60 P2 P3 r34_3 r34_4 r34_5 f61 r34_6 r34_7 r34_8 r34_9 r34_10 r34_11 f61 (by omega) (by omega) (own_ne (by omega)) (own_ne (by omega)) (fun q => r34_2 q) (own_ne (by omega)) (own_ne (by omega))) hZ34 (w_83 hw) (w_2 hw) (by decide) (by decide)) qa59 qc59 (g := (mkF m 163 #[vI p0, vI p1, vI p2, vA b2, vA b5, vA b12, vI 1, vI 0, vA b12] [(.ref b12), (.ref b2)])) rfl (by rw [hml]; rfl) (Steps.refl _) (argsL := [(.ref b12)]) (rest := []) (lenOf pd_13 rfl) rfl (Nat.le_of_eq rfl) (hb hby at_163) (fun _ _ => ⟨rfl, Kq58, (by decide : 9 + 3 ≤ _), (by decide : 5657 + 138 ≤ _)⟩)
  dsimp only [Pt.U, Pt.locs, Pt.cells, Pt.slots] at X59 l59 y59 z59 st59 hQ59 hSb59 hgr59
  rw [l59, y59, z59] at X59
  rw [Kq58] at hgr59
  obtain ⟨X59, hS59, hZ59, hown59⟩ := rebS hS34 (by omega) X59 hSb59 hgr59 hZ34 hown34
  have hk59 : T59.heap.size ≤ T59.heap.size := Nat.le_refl _
  obtain ⟨rfl, Nq59, Kq59, r59_0⟩ := hQ59
  have N59 := Fr.app N58 Nq59
  have z59' := Kq59.1
  have lt62 := own_l r59_0.lt
  have f64 := f56.keep Kq59
  have f65 := f57.keep Kq59 (ninS (own_ne (by omega)) (ninS (own_ne (by omega)) nin0))
  obtain ⟨_, _, ⟨T63, L63, k63, n63⟩, -, X63, ⟨Lc63, hQ63, l63, y63, z63⟩, st63⟩ := Jvm.LawKit.callS X59 hx (y := m_26) hown59 (mvT hZ59 (w_60 hw)) (mvT hZ59 (w_61 hw)) (mvT hZ59 (w_62 hw)) (mvT hZ59 (w_63 hw)) (by decide) (backOf (W := 0) (rm_agr l Z a0 hw [] b2 b5 T59.heap n0 (by omega) f64 f65) hZ59 (w_63 hw) (w_62 hw) (by decide) (by decide)) (g := (mkF m 191 #[vI p0, vI p1, vI p2, vA b2, vA b5, vA b12, vI 1, vI 0, vA b12] [(.int 0), (.ref b2)])) rfl (by rw [hml]; rfl) (argsL := [(.ref b2), (.int 0)]) (rest := []) (lenOf pd_14 rfl) rfl (Nat.le_of_eq rfl) (hb hby at_191) (fun _ _ => ⟨rfl, rfl, (by decide : 12 + 0 ≤ _), (by decide : 5795 + 0 ≤ _)⟩)
  dsimp only [Pt.U, Pt.locs, Pt.cells, Pt.slots] at X63 l63 y63 z63 st63 hQ63
  rw [l63, y63, z63] at X63
  obtain ⟨rfl, Nq63, Kq63⟩ := hQ63
  have N63 := Fr.app N59 Nq63
  obtain ⟨fs, hr, hrun, hended, hEnd⟩ := X63.leaveW hS59 (by first | omega | (rw [(Kq63 : T63.heap = T59.heap)]; omega)) (v := some (.int 1)) (fun h => by rw [Bd.returns] at h; cases h)
  refine ⟨_, _, castTop (ef_10 m p0 p1 p2) ?_, hrun, hended, _, _, rfl, ?_, hEnd.1, hEnd.2.1, hEnd.2.2.1, hEnd.2.2.2.mono (by decide) (by decide)⟩
  · show Steps _ _ _ (s₁.setTop (mkF m 0 #[vI p0, vI p1, vI p2, .unset, .unset, .unset, .unset, .unset, .unset] [])) _
    refine st2 _ ?_
    show Steps _ _ _ (T2.setTop (mkF m 3 #[vI p0, vI p1, vI p2, .unset, .unset, .unset, .unset, .unset, .unset] [(.ref b2)])) _
    refine XS.dup X2.here hx rfl (hb hby at_3) rfl rfl ?_
    refine st4.trans ?_
    show Steps _ _ _ (T4.setTop (mkF m 7 #[vI p0, vI p1, vI p2, .unset, .unset, .unset, .unset, .unset, .unset] [(.ref b2)])) _
    refine XS.astoreN X4.here hx rfl (hb hby at_7) rfl rfl (l' := #[vI p0, vI p1, vI p2, vA b2, .unset, .unset, .unset, .unset, .unset]) rfl ?_
    refine st5 _ ?_
    show Steps _ _ _ (T5.setTop (mkF m 11 #[vI p0, vI p1, vI p2, vA b2, .unset, .unset, .unset, .unset, .unset] [(.ref b5)])) _
    refine XS.dup X5.here hx rfl (hb hby at_11) rfl rfl ?_
    refine st7.trans ?_
    show Steps _ _ _ (T7.setTop (mkF m 15 #[vI p0, vI p1, vI p2, vA b2, .unset, .unset, .unset, .unset, .unset] [(.ref b5)])) _
    refine XS.astore X7.here hx rfl (hb hby at_15) rfl rfl (l' := #[vI p0, vI p1, vI p2, vA b2, vA b5, .unset, .unset, .unset, .unset]) rfl ?_
    refine st12 _ ?_
    show Steps _ _ _ (T12.setTop (mkF m 20 #[vI p0, vI p1, vI p2, vA b2, vA b5, .unset, .unset, .unset, .unset] [(.ref b12)])) _
    refine XS.dup X12.here hx rfl (hb hby at_20) rfl rfl ?_
    refine st14.trans ?_
    show Steps _ _ _ (T14.setTop (mkF m 24 #[vI p0, vI p1, vI p2, vA b2, vA b5, .unset, .unset, .unset, .unset] [(.ref b12)])) _
    refine XS.astore X14.here hx rfl (hb hby at_24) rfl rfl (l' := #[vI p0, vI p1, vI p2, vA b2, vA b5, vA b12, .unset, .unset, .unset]) rfl ?_
    refine XS.aloadN X14.here hx rfl (hb hby at_26) rfl rfl ?_
    refine XS.iconst X14.here hx rfl (hb hby at_27) ?_
    refine st19 _ ?_
    show Steps _ _ _ (T19.setTop (mkF m 31 #[vI p0, vI p1, vI p2, vA b2, vA b5, vA b12, .unset, .unset, .unset] [(.int 1)])) _
    refine XS.istore X19.here hx rfl (hb hby at_31) rfl (l' := #[vI p0, vI p1, vI p2, vA b2, vA b5, vA b12, vI 1, .unset, .unset]) rfl ?_
    refine XS.iconst X19.here hx rfl (hb hby at_33) ?_
    refine XS.istore X19.here hx rfl (hb hby at_34) rfl (l' := #[vI p0, vI p1, vI p2, vA b2, vA b5, vA b12, vI 1, vI 1, .unset]) rfl ?_
    refine XS.iloadN X19.here hx rfl (hb hby at_36) rfl ?_
    refine XS.aload X19.here hx rfl (hb hby at_37) rfl rfl ?_
    refine XS.aload X19.here hx rfl (hb hby at_39) rfl rfl ?_
    refine XS.iload X19.here hx rfl (hb hby at_41) rfl ?_
    refine st28 _ ?_
    show Steps _ _ _ (T28.setTop (mkF m 46 #[vI p0, vI p1, vI p2, vA b2, vA b5, vA b12, vI 1, vI 1, .unset] [(.ref b5)])) _
    refine XS.astore X28.here hx rfl (hb hby at_46) rfl rfl (l' := #[vI p0, vI p1, vI p2, vA b2, vA b5, vA b12, vI 1, vI 1, vA b5]) rfl ?_
    refine XS.aloadN X28.here hx rfl (hb hby at_48) rfl rfl ?_
    refine XS.aload X28.here hx rfl (hb hby at_49) rfl rfl ?_
    refine st29.trans ?_
    show Steps _ _ _ (T29.setTop (mkF m 54 #[vI p0, vI p1, vI p2, vA b2, vA b5, vA b12, vI 1, vI 1, vA b5] [])) _
    refine XS.iload X29.here hx rfl (hb hby at_54) rfl ?_
    refine XS.ifNo X29.here hx rfl (hb hby at_56) rfl ((if0 _ _).trans (feq ((by decide) : ¬ ((1 : Int32) = (0 : Int32)))).1) ?_
    refine XS.aload X29.here hx rfl (hb hby at_59) rfl rfl ?_
    refine XS.ifnonnullYes X29.here hx rfl (pc0 := 61) (pc' := 68) rfl (hb hby at_61) rfl (by decide) (by decide) ?_
    refine XS.iconst X29.here hx rfl (hb hby at_68) ?_
    refine XS.istore X29.here hx rfl (hb hby at_69) rfl (l' := #[vI p0, vI p1, vI p2, vA b2, vA b5, vA b12, vI 1, vI 0, vA b5]) rfl ?_
    refine XS.iload X29.here hx rfl (hb hby at_71) rfl ?_
    refine XS.ifNo X29.here hx rfl (hb hby at_73) rfl ((if0 _ _).trans (feq ((by decide) : ¬ ((1 : Int32) = (0 : Int32)))).1) ?_
    refine XS.aloadN X29.here hx rfl (hb hby at_76) rfl rfl ?_
    refine XS.iload X29.here hx rfl (hb hby at_77) rfl ?_
    refine st32 _ ?_
    show Steps _ _ _ (T32.setTop (mkF m 82 #[vI p0, vI p1, vI p2, vA b2, vA b5, vA b12, vI 1, vI 0, vA b5] [(.int 1)])) _
    refine XS.ifNo X32.here hx rfl (hb hby at_82) rfl ((if0 _ _).trans (feq ((by decide) : ¬ ((1 : Int32) = (0 : Int32)))).1) ?_
    refine XS.iconst X32.here hx rfl (hb hby at_85) ?_
    refine XS.goto X32.here hx rfl (pc0 := 86) (pc' := 90) rfl (hb hby at_86) (by decide) (by decide) ?_
    refine XS.istore X32.here hx rfl (hb hby at_90) rfl (l' := #[vI p0, vI p1, vI p2, vA b2, vA b5, vA b12, vI 1, vI 0, vA b5]) rfl ?_
    refine XS.iloadN X32.here hx rfl (hb hby at_92) rfl ?_
    refine XS.aload X32.here hx rfl (hb hby at_93) rfl rfl ?_
    refine XS.aload X32.here hx rfl (hb hby at_95) rfl rfl ?_
    refine XS.iload X32.here hx rfl (hb hby at_97) rfl ?_
    refine st33 _ ?_
    show Steps _ _ _ (T33.setTop (mkF m 102 #[vI p0, vI p1, vI p2, vA b2, vA b5, vA b12, vI 1, vI 0, vA b5] [(.ref b12)])) _
    refine XS.astore X33.here hx rfl (hb hby at_102) rfl rfl (l' := #[vI p0, vI p1, vI p2, vA b2, vA b5, vA b12, vI 1, vI 0, vA b12]) rfl ?_
    refine XS.aloadN X33.here hx rfl (hb hby at_104) rfl rfl ?_
    refine XS.aload X33.here hx rfl (hb hby at_105) rfl rfl ?_
    refine st34.trans ?_
    show Steps _ _ _ (T34.setTop (mkF m 110 #[vI p0, vI p1, vI p2, vA b2, vA b5, vA b12, vI 1, vI 0, vA b12] [])) _
    refine XS.iload X34.here hx rfl (hb hby at_110) rfl ?_
    refine XS.ifYes X34.here hx rfl (pc0 := 112) (pc' := 124) rfl (hb hby at_112) rfl ((if0 _ _).trans (teq ((by decide) : (0 : Int32) = (0 : Int32))).1) (by decide) (by decide) ?_
    refine XS.iconst X34.here hx rfl (hb hby at_124) ?_
    refine XS.istore X34.here hx rfl (hb hby at_125) rfl (l' := #[vI p0, vI p1, vI p2, vA b2, vA b5, vA b12, vI 1, vI 0, vA b12]) rfl ?_
    refine XS.iload X34.here hx rfl (hb hby at_127) rfl ?_
    refine XS.ifNo X34.here hx rfl (hb hby at_129) rfl ((if0 _ _).trans (feq ((by decide) : ¬ ((1 : Int32) = (0 : Int32)))).1) ?_
    refine XS.aloadN X34.here hx rfl (hb hby at_132) rfl rfl ?_
    refine XS.iload X34.here hx rfl (hb hby at_133) rfl ?_
    refine st55 _ ?_
    show Steps _ _ _ (T55.setTop (mkF m 138 #[vI p0, vI p1, vI p2, vA b2, vA b5, vA b12, vI 1, vI 0, vA b12] [(.int 1)])) _
    refine XS.ifNo X55.here hx rfl (hb hby at_138) rfl ((if0 _ _).trans (feq ((by decide) : ¬ ((1 : Int32) = (0 : Int32)))).1) ?_
    refine XS.iconst X55.here hx rfl (hb hby at_141) ?_
    refine XS.goto X55.here hx rfl (pc0 := 142) (pc' := 146) rfl (hb hby at_142) (by decide) (by decide) ?_
    refine XS.istore X55.here hx rfl (hb hby at_146) rfl (l' := #[vI p0, vI p1, vI p2, vA b2, vA b5, vA b12, vI 1, vI 0, vA b12]) rfl ?_
    refine XS.iloadN X55.here hx rfl (hb hby at_148) rfl ?_
    refine XS.aload X55.here hx rfl (hb hby at_149) rfl rfl ?_
    refine XS.aload X55.here hx rfl (hb hby at_151) rfl rfl ?_
    refine XS.iload X55.here hx rfl (hb hby at_153) rfl ?_
    refine st58 _ ?_
    show Steps _ _ _ (T58.setTop (mkF m 158 #[vI p0, vI p1, vI p2, vA b2, vA b5, vA b12, vI 1, vI 0, vA b12] [(.ref b12)])) _
    refine XS.astore X58.here hx rfl (hb hby at_158) rfl rfl (l' := #[vI p0, vI p1, vI p2, vA b2, vA b5, vA b12, vI 1, vI 0, vA b12]) rfl ?_
    refine XS.aloadN X58.here hx rfl (hb hby at_160) rfl rfl ?_
    refine XS.aload X58.here hx rfl (hb hby at_161) rfl rfl ?_
    refine st59.trans ?_
    show Steps _ _ _ (T59.setTop (mkF m 166 #[vI p0, vI p1, vI p2, vA b2, vA b5, vA b12, vI 1, vI 0, vA b12] [])) _
    refine XS.iload X59.here hx rfl (hb hby at_166) rfl ?_
    refine XS.ifYes X59.here hx rfl (pc0 := 168) (pc' := 180) rfl (hb hby at_168) rfl ((if0 _ _).trans (teq ((by decide) : (0 : Int32) = (0 : Int32))).1) (by decide) (by decide) ?_
    refine XS.iconst X59.here hx rfl (hb hby at_180) ?_
    refine XS.istore X59.here hx rfl (hb hby at_181) rfl (l' := #[vI p0, vI p1, vI p2, vA b2, vA b5, vA b12, vI 1, vI 0, vA b12]) rfl ?_
    refine XS.iload X59.here hx rfl (hb hby at_183) rfl ?_
    refine XS.ifNo X59.here hx rfl (hb hby at_185) rfl ((if0 _ _).trans (feq ((by decide) : ¬ ((1 : Int32) = (0 : Int32)))).1) ?_
    refine XS.aloadN X59.here hx rfl (hb hby at_188) rfl rfl ?_
    refine XS.iload X59.here hx rfl (hb hby at_189) rfl ?_
    refine st63 _ ?_
    show Steps _ _ _ (T63.setTop (mkF m 194 #[vI p0, vI p1, vI p2, vA b2, vA b5, vA b12, vI 1, vI 0, vA b12] [(.int 1)])) _
    refine XS.ifNo X63.here hx rfl (hb hby at_194) rfl ((if0 _ _).trans (feq ((by decide) : ¬ ((1 : Int32) = (0 : Int32)))).1) ?_
    refine XS.iconst X63.here hx rfl (hb hby at_197) ?_
    refine XS.goto X63.here hx rfl (pc0 := 198) (pc' := 202) rfl (hb hby at_198) (by decide) (by decide) ?_
    refine XS.istore X63.here hx rfl (hb hby at_202) rfl (l' := #[vI p0, vI p1, vI p2, vA b2, vA b5, vA b12, vI 1, vI 0, vA b12]) rfl ?_
    refine XS.iload X63.here hx rfl (hb hby at_204) rfl ?_
    exact retN X63 hx (t := .boolean) Bd.returns (by simp) (hb hby at_206) hr
  · show Q_law Z p0 p1 p2 su sn mo h0 n0 _ T63.heap _
    rw [(Kq63 : T63.heap = T59.heap)]
    exact ⟨rfl, N63⟩
theorem rm_law_211 (l : Launch) (Z : State) (a0 : Array Value) (hw : HW Z a0) (ws : List Jvm.Cond) (p0 : Int32) (p1 : Int32) (p2 : Int32) (su : Addr) (sn : Addr) (mo : Addr) (h0 : Heap) (n0 : Nat) (Z0 : n0 ≤ h0.size) (P0 : Old Z n0 h0) (P1 : sta0 Z (.ref su)) (P2 : sta1 Z (.ref sn)) (P3 : Mi Z "[Ljava/lang/Object;" mo) (P4 : Exa Z h0 sn "java/util/Collections$EmptyList") (hst : l.stackTraces = true) (q0 : ¬ ((p0 &&& (3 : Int32)) = (0 : Int32))) (w0 : (p0 &&& (3 : Int32)) = (2 : Int32)) (w1 : ¬ ((p1 &&& (3 : Int32)) = (2 : Int32))) (w2 : ¬ ((p2 &&& (3 : Int32)) = (2 : Int32))) :
    MetFree l x (head1 (Jvm.Cond.code x code maxLocals ret :: ws) room_1) (fun as' U => as' = #[(.int p0), (.int p1), (.int p2)] ∧ Z.Warmed39 U.vm ∧ U.heap = h0) (fun _ _ bl s _ => s.vm.MethodsKnown ∧ s.vm.FramesKnown bl) (fun _ U o U' => ∃ v L, o = .returned v ∧ Q_law Z p0 p1 p2 su sn mo h0 n0 v U'.heap L ∧ ReturnedEndW U o U' L room_1.cells room_1.slots) := by
  refine MetFree.of_bodySF (plainFor_of_name pn_12) hisR ?_
  intro p e s m args below meth c s₁ Bd hml0 hP hK
  obtain ⟨hTK, hBl⟩ := hK
  obtain ⟨rfl, hZ, hh⟩ := hP
  have hx := Bd.exec
  have hby := Bd.bytes
  have hml : c.maxLocals = 9 := hml0
  have hown : (s.setVm s.vm).vm.findClass "com/example/maat/maat/FailuresIsEmptyPinLaw" = some m.cls := findClass_of_methodNamed Bd.named
  have hnm := (name_of_methodNamed Bd.named Bd.method).1
  have X0 : Stand p l e room_1 (s.setVm s.vm) m #[(.int p0), (.int p1), (.int p2)] below meth c s₁ [] 0 0 := Stand.of_body Bd
  have e0 : s₁.heap = h0 := by rw [← hh, Bd.state]; rfl
  have N0 := Fr.nil n0
  have hZ : Z.Warmed39 (s.setVm s.vm).vm := hZ
  have hS0 : s.Since s.vm h0.size := (State.WarmedH.refl s).since _
  have hk0 : h0.size ≤ h0.size := Nat.le_refl _
  have lt1 := own_l P4.lt
  obtain ⟨T2, h2, X2, e2, E2, A2, D2, -, st2⟩ := newO X0 hx hZ hown (w_0 hw) (w_1 hw) (w_2 hw) e0 (g := (mkF m 0 #[vI p0, vI p1, vI p2, .unset, .unset, .unset, .unset, .unset, .unset] [])) rfl (hb hby at_0) (by decide) (by decide)
  obtain ⟨b2, g2⟩ : ∃ z, z = h0.size := ⟨_, rfl⟩
  rw [← g2] at A2 D2 st2
  have z2 := E2.1
  have lt3 := own_l A2.lt
  have F2_70 : Fld Z h2 b2 "com/example/maat/maat/Failures" "first" "Ljava/lang/Throwable;" .null := D2 (Or.inl (w_70 hw)) (ty := (.object "java/lang/Throwable")) (by decide)
  obtain ⟨_, _, ⟨T4, L4, k4, n4⟩, -, X4, ⟨Lc4, hQ4, l4, y4, z4⟩, st4⟩ := X2.specialBack hx (y := m_23) rfl hown (mvT hZ (w_3 hw)) (mvT hZ (w_4 hw)) (mvT hZ (w_5 hw)) (by decide) (backOf (W := 1) (rm_fin l Z a0 hw [] b2 h2 n0 (by omega) ) hZ (w_5 hw) (w_2 hw) (by decide) (by decide)) (g := (mkF m 4 #[vI p0, vI p1, vI p2, .unset, .unset, .unset, .unset, .unset, .unset] [(.ref b2), (.ref b2)])) rfl (by rw [hml]; rfl) (Steps.refl _) (a := b2) (argsL := []) (rest := [(.ref b2)]) (lenOf pd_0 rfl) rfl (Nat.le_of_eq rfl) (hb hby at_4) (fun _ _ => ⟨rfl, e2, (by decide : 1 + 0 ≤ _), (by decide : 1 + 0 ≤ _)⟩)
  dsimp only [Pt.U, Pt.locs, Pt.cells, Pt.slots] at X4 l4 y4 z4 st4 hQ4
  rw [l4, y4, z4] at X4
  obtain ⟨rfl, Nq4, Kq4⟩ := hQ4
  have N4 := Fr.app N0 Nq4
  obtain ⟨T5, h5, X5, e5, E5, A5, D5, U5, st5⟩ := newO X4 hx hZ hown (w_9 hw) (w_10 hw) (w_11 hw) Kq4 (g := (mkF m 8 #[vI p0, vI p1, vI p2, vA b2, .unset, .unset, .unset, .unset, .unset] [])) rfl (hb hby at_8) (by decide) (by decide)
  obtain ⟨b5, g5⟩ : ∃ z, z = h2.size := ⟨_, rfl⟩
  rw [← g5] at A5 D5 U5 st5
  have z5 := E5.1
  have lt6 := own_l A5.lt
  replace U5 : Unt h5 b5 := U5
  have F5_29 : Fld Z h5 b5 "java/lang/Throwable" "cause" "Ljava/lang/Throwable;" .null := D5 (Or.inl (w_29 hw)) (ty := (.object "java/lang/Throwable")) (by decide)
  have F5_32 : Fld Z h5 b5 "java/lang/Throwable" "stackTrace" "[Ljava/lang/StackTraceElement;" .null := D5 (Or.inl (w_32 hw)) (ty := (.array (.object "java/lang/StackTraceElement"))) (by decide)
  have F5_35 : Fld Z h5 b5 "java/lang/Throwable" "suppressedExceptions" "Ljava/util/List;" .null := D5 (Or.inl (w_35 hw)) (ty := (.object "java/util/List")) (by decide)
  have F5_56 : Fld Z h5 b5 "java/lang/Throwable" "detailMessage" "Ljava/lang/String;" .null := D5 (Or.inl (w_56 hw)) (ty := (.object "java/lang/String")) (by decide)
  have F5_57 : Fld Z h5 b5 "java/lang/Throwable" "backtrace" "Ljava/lang/Object;" .null := D5 (Or.inl (w_57 hw)) (ty := (.object "java/lang/Object")) (by decide)
  have F5_58 : Fld Z h5 b5 "java/lang/Throwable" "depth" "I" (.int 0) := D5 (Or.inl (w_58 hw)) (ty := .int) (by decide)
  have f8 := P0.ext E2
  have f9 := f8.ext E5
  obtain ⟨_, _, ⟨T7, L7, k7, n7⟩, -, X7, ⟨Lc7, hQ7, l7, y7, z7⟩, st7⟩ := X5.specialBack hx (y := m_5) rfl hown (mvT hZ (w_12 hw)) (mvT hZ (w_13 hw)) (mvT hZ (w_14 hw)) (by decide) (backOfKL (W := 1) (rm_rti l Z a0 hw [] b5 su sn h5 n0 (by omega) f9 P1 P2 A5 U5 F5_29 F5_32 F5_35 F5_57 F5_58 (by omega) hst) hZ (w_14 hw) (w_11 hw) (by decide) (by decide) hTK hBl) (g := (mkF m 12 #[vI p0, vI p1, vI p2, vA b2, .unset, .unset, .unset, .unset, .unset] [(.ref b5), (.ref b5)])) rfl (by rw [hml]; rfl) (Steps.refl _) (a := b5) (argsL := []) (rest := [(.ref b5)]) (lenOf pd_0 rfl) rfl (Nat.le_of_eq rfl) (hb hby at_12) (fun _ _ => ⟨rfl, e5, (by decide : 2 + 1 ≤ _), (by decide : 7 + 2752 ≤ _)⟩)
  dsimp only [Pt.U, Pt.locs, Pt.cells, Pt.slots] at X7 l7 y7 z7 st7 hQ7
  rw [l7, y7, z7] at X7
  obtain ⟨rfl, Nq7, Kq7, r7_0, r7_1, r7_2⟩ := hQ7
  have N7 := Fr.app N4 Nq7
  have z7' := Kq7.1
  have lt10 := own_l r7_0.lt
  have lt11 := own_l r7_2.lt
  obtain ⟨T12, h12, X12, e12, E12, A12, D12, U12, st12⟩ := newO X7 hx hZ hown (w_9 hw) (w_10 hw) (w_11 hw) rfl (g := (mkF m 17 #[vI p0, vI p1, vI p2, vA b2, vA b5, .unset, .unset, .unset, .unset] [])) rfl (hb hby at_17) (by decide) (by decide)
  obtain ⟨b12, g12⟩ : ∃ z, z = T7.heap.size := ⟨_, rfl⟩
  rw [← g12] at A12 D12 U12 st12
  have z12 := E12.1
  have lt13 := own_l A12.lt
  replace U12 : Unt h12 b12 := U12
  have F12_29 : Fld Z h12 b12 "java/lang/Throwable" "cause" "Ljava/lang/Throwable;" .null := D12 (Or.inl (w_29 hw)) (ty := (.object "java/lang/Throwable")) (by decide)
  have F12_32 : Fld Z h12 b12 "java/lang/Throwable" "stackTrace" "[Ljava/lang/StackTraceElement;" .null := D12 (Or.inl (w_32 hw)) (ty := (.array (.object "java/lang/StackTraceElement"))) (by decide)
  have F12_35 : Fld Z h12 b12 "java/lang/Throwable" "suppressedExceptions" "Ljava/util/List;" .null := D12 (Or.inl (w_35 hw)) (ty := (.object "java/util/List")) (by decide)
  have F12_56 : Fld Z h12 b12 "java/lang/Throwable" "detailMessage" "Ljava/lang/String;" .null := D12 (Or.inl (w_56 hw)) (ty := (.object "java/lang/String")) (by decide)
  have F12_57 : Fld Z h12 b12 "java/lang/Throwable" "backtrace" "Ljava/lang/Object;" .null := D12 (Or.inl (w_57 hw)) (ty := (.object "java/lang/Object")) (by decide)
  have F12_58 : Fld Z h12 b12 "java/lang/Throwable" "depth" "I" (.int 0) := D12 (Or.inl (w_58 hw)) (ty := .int) (by decide)
  have f15 := f9.keep Kq7 (allS (by omega) all0)
  have f16 := f15.ext E12
  obtain ⟨_, _, ⟨T14, L14, k14, n14⟩, -, X14, ⟨Lc14, hQ14, l14, y14, z14⟩, st14⟩ := X12.specialBack hx (y := m_5) rfl hown (mvT hZ (w_12 hw)) (mvT hZ (w_13 hw)) (mvT hZ (w_14 hw)) (by decide) (backOfKL (W := 1) (rm_rti l Z a0 hw [] b12 su sn h12 n0 (by omega) f16 P1 P2 A12 U12 F12_29 F12_32 F12_35 F12_57 F12_58 (by omega) hst) hZ (w_14 hw) (w_11 hw) (by decide) (by decide) hTK hBl) (g := (mkF m 21 #[vI p0, vI p1, vI p2, vA b2, vA b5, .unset, .unset, .unset, .unset] [(.ref b12), (.ref b12)])) rfl (by rw [hml]; rfl) (Steps.refl _) (a := b12) (argsL := []) (rest := [(.ref b12)]) (lenOf pd_0 rfl) rfl (Nat.le_of_eq rfl) (hb hby at_21) (fun _ _ => ⟨rfl, e12, (by decide : 4 + 1 ≤ _), (by decide : 2765 + 2752 ≤ _)⟩)
  dsimp only [Pt.U, Pt.locs, Pt.cells, Pt.slots] at X14 l14 y14 z14 st14 hQ14
  rw [l14, y14, z14] at X14
  obtain ⟨rfl, Nq14, Kq14, r14_0, r14_1, r14_2⟩ := hQ14
  have N14 := Fr.app N7 Nq14
  have z14' := Kq14.1
  have lt17 := own_l r14_0.lt
  have lt18 := own_l r14_2.lt
  have f20 := A2.ext E5
  have f21 := f20.keep Kq7
  have f22 := f21.ext E12
  have f23 := f22.keep Kq14
  have f24 := F2_70.ext E5
  have f25 := f24.keep Kq7 (ninS (own_ne (by omega)) nin0)
  have f26 := f25.ext E12
  have f27 := f26.keep Kq14 (ninS (own_ne (by omega)) nin0)
  obtain ⟨_, _, ⟨T19, L19, k19, n19⟩, -, X19, ⟨Lc19, hQ19, l19, y19, z19⟩, st19⟩ := Jvm.LawKit.callS X14 hx (y := m_26) hown (mvT hZ (w_60 hw)) (mvT hZ (w_61 hw)) (mvT hZ (w_62 hw)) (mvT hZ (w_63 hw)) (by decide) (backOf (W := 0) (rm_agn l Z a0 hw [] b2 T14.heap n0 (by omega) f23 f27) hZ (w_63 hw) (w_62 hw) (by decide) (by decide)) (g := (mkF m 28 #[vI p0, vI p1, vI p2, vA b2, vA b5, vA b12, .unset, .unset, .unset] [(.int 1), (.ref b2)])) rfl (by rw [hml]; rfl) (argsL := [(.ref b2), (.int 1)]) (rest := []) (lenOf pd_14 rfl) rfl (Nat.le_of_eq rfl) (hb hby at_28) (fun _ _ => ⟨rfl, rfl, (by decide : 5 + 0 ≤ _), (by decide : 5517 + 0 ≤ _)⟩)
  dsimp only [Pt.U, Pt.locs, Pt.cells, Pt.slots] at X19 l19 y19 z19 st19 hQ19
  rw [l19, y19, z19] at X19
  obtain ⟨rfl, Nq19, Kq19⟩ := hQ19
  have N19 := Fr.app N14 Nq19
  obtain ⟨_, _, ⟨T28, L28, k28, n28⟩, -, X28, ⟨Lc28, hQ28, l28, y28, z28⟩, st28⟩ := Jvm.LawKit.callS X19 hx (y := m_28) hown (mvT hZ (w_76 hw)) (mvT hZ (w_77 hw)) (mvT hZ (w_62 hw)) (mvT hZ (w_78 hw)) (by decide) (backOf (W := 0) (rm_pk2e l Z a0 hw [] p0 b5 b12 T14.heap n0 (by omega) q0 w0) hZ (w_78 hw) (w_62 hw) (by decide) (by decide)) (g := (mkF m 43 #[vI p0, vI p1, vI p2, vA b2, vA b5, vA b12, vI 1, vI 1, .unset] [(.int 1), (.ref b12), (.ref b5), (.int p0)])) rfl (by rw [hml]; rfl) (argsL := [(.int p0), (.ref b5), (.ref b12), (.int 1)]) (rest := []) (lenOf pd_15 rfl) rfl (Nat.le_of_eq rfl) (hb hby at_43) (fun _ _ => ⟨rfl, Kq19, (by decide : 5 + 0 ≤ _), (by decide : 5517 + 0 ≤ _)⟩)
  dsimp only [Pt.U, Pt.locs, Pt.cells, Pt.slots] at X28 l28 y28 z28 st28 hQ28
  rw [l28, y28, z28] at X28
  obtain ⟨rfl, Nq28, Kq28⟩ := hQ28
  have N28 := Fr.app N19 Nq28
  obtain ⟨cq29, kq29, qa29, qb29, qc29⟩ := isOf hZ Kq28 f23
  obtain ⟨_, _, ⟨T29, L29, k29, n29⟩, -, X29, ⟨Lc29, hQ29, l29, y29, z29⟩, st29⟩ := X28.virtualBack hx (y := m_27) (z := m_27) hown (mvT hZ (w_79 hw)) (mvT hZ (w_80 hw)) (notFace_of_selects (args := #[]) (mvT hZ (w_82 hw))) (mvT hZ (w_82 hw)) (mvT hZ (w_81 hw)) (by decide) (backOf (W := 0) (rm_far l Z a0 hw [] b2 b12 T14.heap n0 (by omega) f23 f27 (by omega)) hZ (w_83 hw) (w_2 hw) (by decide) (by decide)) qa29 qc29 (g := (mkF m 51 #[vI p0, vI p1, vI p2, vA b2, vA b5, vA b12, vI 1, vI 1, vA b12] [(.ref b12), (.ref b2)])) rfl (by rw [hml]; rfl) (Steps.refl _) (argsL := [(.ref b12)]) (rest := []) (lenOf pd_13 rfl) rfl (Nat.le_of_eq rfl) (hb hby at_51) (fun _ _ => ⟨rfl, Kq28, (by decide : 5 + 0 ≤ _), (by decide : 5517 + 0 ≤ _)⟩)
  dsimp only [Pt.U, Pt.locs, Pt.cells, Pt.slots] at X29 l29 y29 z29 st29 hQ29
  rw [l29, y29, z29] at X29
  obtain ⟨rfl, Nq29, Kq29, r29_0, r29_1⟩ := hQ29
  have N29 := Fr.app N28 Nq29
  have z29' := Kq29.1
  have lt30 := own_l r29_0.lt
  have lt31 := own_l r29_1.lt
  obtain ⟨_, _, ⟨T32, L32, k32, n32⟩, -, X32, ⟨Lc32, hQ32, l32, y32, z32⟩, st32⟩ := Jvm.LawKit.callS X29 hx (y := m_26) hown (mvT hZ (w_60 hw)) (mvT hZ (w_61 hw)) (mvT hZ (w_62 hw)) (mvT hZ (w_63 hw)) (by decide) (backOf (W := 0) (rm_agr l Z a0 hw [] b2 b12 T29.heap n0 (by omega) r29_0 r29_1) hZ (w_63 hw) (w_62 hw) (by decide) (by decide)) (g := (mkF m 79 #[vI p0, vI p1, vI p2, vA b2, vA b5, vA b12, vI 1, vI 0, vA b12] [(.int 0), (.ref b2)])) rfl (by rw [hml]; rfl) (argsL := [(.ref b2), (.int 0)]) (rest := []) (lenOf pd_14 rfl) rfl (Nat.le_of_eq rfl) (hb hby at_79) (fun _ _ => ⟨rfl, rfl, (by decide : 5 + 0 ≤ _), (by decide : 5517 + 0 ≤ _)⟩)
  dsimp only [Pt.U, Pt.locs, Pt.cells, Pt.slots] at X32 l32 y32 z32 st32 hQ32
  rw [l32, y32, z32] at X32
  obtain ⟨rfl, Nq32, Kq32⟩ := hQ32
  have N32 := Fr.app N29 Nq32
  obtain ⟨_, _, ⟨T33, L33, k33, n33⟩, -, X33, ⟨Lc33, hQ33, l33, y33, z33⟩, st33⟩ := Jvm.LawKit.callS X32 hx (y := m_28) hown (mvT hZ (w_76 hw)) (mvT hZ (w_77 hw)) (mvT hZ (w_62 hw)) (mvT hZ (w_78 hw)) (by decide) (backOf (W := 0) (rm_pk1 l Z a0 hw [] p1 b5 b12 T29.heap n0 (by omega) w1) hZ (w_78 hw) (w_62 hw) (by decide) (by decide)) (g := (mkF m 99 #[vI p0, vI p1, vI p2, vA b2, vA b5, vA b12, vI 1, vI 0, vA b12] [(.int 0), (.ref b12), (.ref b5), (.int p1)])) rfl (by rw [hml]; rfl) (argsL := [(.int p1), (.ref b5), (.ref b12), (.int 0)]) (rest := []) (lenOf pd_15 rfl) rfl (Nat.le_of_eq rfl) (hb hby at_99) (fun _ _ => ⟨rfl, Kq32, (by decide : 5 + 0 ≤ _), (by decide : 5517 + 0 ≤ _)⟩)
  dsimp only [Pt.U, Pt.locs, Pt.cells, Pt.slots] at X33 l33 y33 z33 st33 hQ33
  rw [l33, y33, z33] at X33
  obtain ⟨rfl, Nq33, Kq33⟩ := hQ33
  have N33 := Fr.app N32 Nq33
  have f35 := f16.keep Kq14 (allS (by omega) all0)
  have f36 := f35.keep Kq29 (allS (by omega) all0)
  have f37 := r14_0.keep Kq29
  have f38 := Unt.keep Kq29 (ninS (own_ne (by omega)) nin0) r14_1
  have f39 := r14_2.keep Kq29 (ninS (own_ne (by omega)) nin0)
  have f40 := r7_0.ext E12
  have f41 := f40.keep Kq14
  have f42 := f41.keep Kq29
  obtain ⟨cq34, kq34, qa34, qb34, qc34⟩ := isOf hZ Kq33 r29_0
  obtain ⟨_, _, ⟨T34, L34, k34, n34⟩, -, X34, hSb34, hgr34, ⟨Lc34, hQ34, l34, y34, z34⟩, st34⟩ := X33.virtualBackS hx (y := m_27) (z := m_27) hown (mvT hZ (w_79 hw)) (mvT hZ (w_80 hw)) (notFace_of_selects (args := #[]) (mvT hZ (w_82 hw))) (mvT hZ (w_82 hw)) (mvT hZ (w_81 hw)) (by decide) (backOfS (W := 0) (rm_fa0 l Z a0 hw [] b2 b12 b5 sn T29.heap n0 (by omega) r29_0 r29_1 f36 P2 f37 f38 f39 f42 (by omega) (own_ne (by omega))) hZ (w_83 hw) (w_2 hw) (by decide) (by decide)) qa34 qc34 (g := (mkF m 107 #[vI p0, vI p1, vI p2, vA b2, vA b5, vA b12, vI 1, vI 0, vA b5] [(.ref b5), (.ref b2)])) rfl (by rw [hml]; rfl) (Steps.refl _) (argsL := [(.ref b5)]) (rest := []) (lenOf pd_13 rfl) rfl (Nat.le_of_eq rfl) (hb hby at_107) (fun _ _ => ⟨rfl, Kq33, (by decide : 5 + 4 ≤ _), (by decide : 5517 + 140 ≤ _)⟩)
  dsimp only [Pt.U, Pt.locs, Pt.cells, Pt.slots] at X34 l34 y34 z34 st34 hQ34 hSb34 hgr34
  rw [l34, y34, z34] at X34
  rw [Kq33] at hgr34
  obtain ⟨X34, hS34, hZ34, hown34⟩ := rebS hS0 (by omega) X34 hSb34 hgr34 hZ hown
  have hk34 : T34.heap.size ≤ T34.heap.size := Nat.le_refl _
  obtain ⟨x34_al, x34_v_, x34_kv, x34_mc, rfl, Nq34, Kq34, r34_0, r34_1, r34_2, r34_3, r34_4, r34_5, r34_6, r34_7, r34_8, r34_9, r34_10, r34_11⟩ := hQ34
  have N34 := Fr.app N33 Nq34
  have z34' := Kq34.1
  have lt43 := own_l r34_3.lt
  have lt44 := own_l r34_5.lt
  have lt45 := own_l r34_6.lt
  have lt46 := own_l r34_7.lt
  have lt47 := own_l r34_8.lt
  have lt48 := own_l r34_9.lt
  have lt49 := own_l r34_10.lt
  have lt50 := own_l r34_11.lt
  have f52 := r29_0.keep Kq34
  have f53 := r29_1.keep Kq34 (ninS (own_ne (by omega)) nin0)
  obtain ⟨_, _, ⟨T51, L51, k51, n51⟩, -, X51, ⟨Lc51, hQ51, l51, y51, z51⟩, st51⟩ := Jvm.LawKit.callS X34 hx (y := m_26) hown34 (mvT hZ34 (w_60 hw)) (mvT hZ34 (w_61 hw)) (mvT hZ34 (w_62 hw)) (mvT hZ34 (w_63 hw)) (by decide) (backOf (W := 0) (rm_agr l Z a0 hw [] b2 b12 T34.heap n0 (by omega) f52 f53) hZ34 (w_63 hw) (w_62 hw) (by decide) (by decide)) (g := (mkF m 135 #[vI p0, vI p1, vI p2, vA b2, vA b5, vA b12, vI 1, vI 0, vA b5] [(.int 0), (.ref b2)])) rfl (by rw [hml]; rfl) (argsL := [(.ref b2), (.int 0)]) (rest := []) (lenOf pd_14 rfl) rfl (Nat.le_of_eq rfl) (hb hby at_135) (fun _ _ => ⟨rfl, rfl, (by decide : 9 + 0 ≤ _), (by decide : 5657 + 0 ≤ _)⟩)
  dsimp only [Pt.U, Pt.locs, Pt.cells, Pt.slots] at X51 l51 y51 z51 st51 hQ51
  rw [l51, y51, z51] at X51
  obtain ⟨rfl, Nq51, Kq51⟩ := hQ51
  have N51 := Fr.app N34 Nq51
  obtain ⟨_, _, ⟨T54, L54, k54, n54⟩, -, X54, ⟨Lc54, hQ54, l54, y54, z54⟩, st54⟩ := Jvm.LawKit.callS X51 hx (y := m_28) hown34 (mvT hZ34 (w_76 hw)) (mvT hZ34 (w_77 hw)) (mvT hZ34 (w_62 hw)) (mvT hZ34 (w_78 hw)) (by decide) (backOf (W := 0) (rm_pk1 l Z a0 hw [] p2 b5 b12 T34.heap n0 (by omega) w2) hZ34 (w_78 hw) (w_62 hw) (by decide) (by decide)) (g := (mkF m 155 #[vI p0, vI p1, vI p2, vA b2, vA b5, vA b12, vI 1, vI 0, vA b5] [(.int 0), (.ref b12), (.ref b5), (.int p2)])) rfl (by rw [hml]; rfl) (argsL := [(.int p2), (.ref b5), (.ref b12), (.int 0)]) (rest := []) (lenOf pd_15 rfl) rfl (Nat.le_of_eq rfl) (hb hby at_155) (fun _ _ => ⟨rfl, Kq51, (by decide : 9 + 0 ≤ _), (by decide : 5657 + 0 ≤ _)⟩)
  dsimp only [Pt.U, Pt.locs, Pt.cells, Pt.slots] at X54 l54 y54 z54 st54 hQ54
  rw [l54, y54, z54] at X54
  obtain ⟨rfl, Nq54, Kq54⟩ := hQ54
  have N54 := Fr.app N51 Nq54
  have f56 := f36.keep Kq34 (allS (by omega) all0)
  have f57 := f42.keep Kq34
  obtain ⟨cq55, kq55, qa55, qb55, qc55⟩ := isOf hZ34 Kq54 f52
  obtain ⟨_, _, ⟨T55, L55, k55, n55⟩, -, X55, hSb55, hgr55, ⟨Lc55, hQ55, l55, y55, z55⟩, st55⟩ := X54.virtualBackS hx (y := m_27) (z := m_27) hown34 (mvT hZ34 (w_79 hw)) (mvT hZ34 (w_80 hw)) (notFace_of_selects (args := #[]) (mvT hZ34 (w_82 hw))) (mvT hZ34 (w_82 hw)) (mvT hZ34 (w_81 hw)) (by decide) (backOfS (W := 0) (rm_fa1 l Z a0 hw [] b2 b12 b5 sn x34_al x34_v_ x34_kv x34_mc b5 mo T34.heap n0 (by omega) f52 f53 f56 P2 P3 r34_3 r34_4 r34_5 f57 r34_6 r34_7 r34_8 r34_9 r34_10 r34_11 f57 (by omega) (by omega) (own_ne (by omega)) (own_ne (by omega)) (fun q => r34_2 q) (own_ne (by omega)) (own_ne (by omega))) hZ34 (w_83 hw) (w_2 hw) (by decide) (by decide)) qa55 qc55 (g := (mkF m 163 #[vI p0, vI p1, vI p2, vA b2, vA b5, vA b12, vI 1, vI 0, vA b5] [(.ref b5), (.ref b2)])) rfl (by rw [hml]; rfl) (Steps.refl _) (argsL := [(.ref b5)]) (rest := []) (lenOf pd_13 rfl) rfl (Nat.le_of_eq rfl) (hb hby at_163) (fun _ _ => ⟨rfl, Kq54, (by decide : 9 + 3 ≤ _), (by decide : 5657 + 138 ≤ _)⟩)
  dsimp only [Pt.U, Pt.locs, Pt.cells, Pt.slots] at X55 l55 y55 z55 st55 hQ55 hSb55 hgr55
  rw [l55, y55, z55] at X55
  rw [Kq54] at hgr55
  obtain ⟨X55, hS55, hZ55, hown55⟩ := rebS hS34 (by omega) X55 hSb55 hgr55 hZ34 hown34
  have hk55 : T55.heap.size ≤ T55.heap.size := Nat.le_refl _
  obtain ⟨rfl, Nq55, Kq55, r55_0⟩ := hQ55
  have N55 := Fr.app N54 Nq55
  have z55' := Kq55.1
  have lt58 := own_l r55_0.lt
  have f60 := f52.keep Kq55
  have f61 := f53.keep Kq55 (ninS (own_ne (by omega)) (ninS (own_ne (by omega)) nin0))
  obtain ⟨_, _, ⟨T59, L59, k59, n59⟩, -, X59, ⟨Lc59, hQ59, l59, y59, z59⟩, st59⟩ := Jvm.LawKit.callS X55 hx (y := m_26) hown55 (mvT hZ55 (w_60 hw)) (mvT hZ55 (w_61 hw)) (mvT hZ55 (w_62 hw)) (mvT hZ55 (w_63 hw)) (by decide) (backOf (W := 0) (rm_agr l Z a0 hw [] b2 b12 T55.heap n0 (by omega) f60 f61) hZ55 (w_63 hw) (w_62 hw) (by decide) (by decide)) (g := (mkF m 191 #[vI p0, vI p1, vI p2, vA b2, vA b5, vA b12, vI 1, vI 0, vA b5] [(.int 0), (.ref b2)])) rfl (by rw [hml]; rfl) (argsL := [(.ref b2), (.int 0)]) (rest := []) (lenOf pd_14 rfl) rfl (Nat.le_of_eq rfl) (hb hby at_191) (fun _ _ => ⟨rfl, rfl, (by decide : 12 + 0 ≤ _), (by decide : 5795 + 0 ≤ _)⟩)
  dsimp only [Pt.U, Pt.locs, Pt.cells, Pt.slots] at X59 l59 y59 z59 st59 hQ59
  rw [l59, y59, z59] at X59
  obtain ⟨rfl, Nq59, Kq59⟩ := hQ59
  have N59 := Fr.app N55 Nq59
  obtain ⟨fs, hr, hrun, hended, hEnd⟩ := X59.leaveW hS55 (by first | omega | (rw [(Kq59 : T59.heap = T55.heap)]; omega)) (v := some (.int 1)) (fun h => by rw [Bd.returns] at h; cases h)
  refine ⟨_, _, castTop (ef_10 m p0 p1 p2) ?_, hrun, hended, _, _, rfl, ?_, hEnd.1, hEnd.2.1, hEnd.2.2.1, hEnd.2.2.2.mono (by decide) (by decide)⟩
  · show Steps _ _ _ (s₁.setTop (mkF m 0 #[vI p0, vI p1, vI p2, .unset, .unset, .unset, .unset, .unset, .unset] [])) _
    refine st2 _ ?_
    show Steps _ _ _ (T2.setTop (mkF m 3 #[vI p0, vI p1, vI p2, .unset, .unset, .unset, .unset, .unset, .unset] [(.ref b2)])) _
    refine XS.dup X2.here hx rfl (hb hby at_3) rfl rfl ?_
    refine st4.trans ?_
    show Steps _ _ _ (T4.setTop (mkF m 7 #[vI p0, vI p1, vI p2, .unset, .unset, .unset, .unset, .unset, .unset] [(.ref b2)])) _
    refine XS.astoreN X4.here hx rfl (hb hby at_7) rfl rfl (l' := #[vI p0, vI p1, vI p2, vA b2, .unset, .unset, .unset, .unset, .unset]) rfl ?_
    refine st5 _ ?_
    show Steps _ _ _ (T5.setTop (mkF m 11 #[vI p0, vI p1, vI p2, vA b2, .unset, .unset, .unset, .unset, .unset] [(.ref b5)])) _
    refine XS.dup X5.here hx rfl (hb hby at_11) rfl rfl ?_
    refine st7.trans ?_
    show Steps _ _ _ (T7.setTop (mkF m 15 #[vI p0, vI p1, vI p2, vA b2, .unset, .unset, .unset, .unset, .unset] [(.ref b5)])) _
    refine XS.astore X7.here hx rfl (hb hby at_15) rfl rfl (l' := #[vI p0, vI p1, vI p2, vA b2, vA b5, .unset, .unset, .unset, .unset]) rfl ?_
    refine st12 _ ?_
    show Steps _ _ _ (T12.setTop (mkF m 20 #[vI p0, vI p1, vI p2, vA b2, vA b5, .unset, .unset, .unset, .unset] [(.ref b12)])) _
    refine XS.dup X12.here hx rfl (hb hby at_20) rfl rfl ?_
    refine st14.trans ?_
    show Steps _ _ _ (T14.setTop (mkF m 24 #[vI p0, vI p1, vI p2, vA b2, vA b5, .unset, .unset, .unset, .unset] [(.ref b12)])) _
    refine XS.astore X14.here hx rfl (hb hby at_24) rfl rfl (l' := #[vI p0, vI p1, vI p2, vA b2, vA b5, vA b12, .unset, .unset, .unset]) rfl ?_
    refine XS.aloadN X14.here hx rfl (hb hby at_26) rfl rfl ?_
    refine XS.iconst X14.here hx rfl (hb hby at_27) ?_
    refine st19 _ ?_
    show Steps _ _ _ (T19.setTop (mkF m 31 #[vI p0, vI p1, vI p2, vA b2, vA b5, vA b12, .unset, .unset, .unset] [(.int 1)])) _
    refine XS.istore X19.here hx rfl (hb hby at_31) rfl (l' := #[vI p0, vI p1, vI p2, vA b2, vA b5, vA b12, vI 1, .unset, .unset]) rfl ?_
    refine XS.iconst X19.here hx rfl (hb hby at_33) ?_
    refine XS.istore X19.here hx rfl (hb hby at_34) rfl (l' := #[vI p0, vI p1, vI p2, vA b2, vA b5, vA b12, vI 1, vI 1, .unset]) rfl ?_
    refine XS.iloadN X19.here hx rfl (hb hby at_36) rfl ?_
    refine XS.aload X19.here hx rfl (hb hby at_37) rfl rfl ?_
    refine XS.aload X19.here hx rfl (hb hby at_39) rfl rfl ?_
    refine XS.iload X19.here hx rfl (hb hby at_41) rfl ?_
    refine st28 _ ?_
    show Steps _ _ _ (T28.setTop (mkF m 46 #[vI p0, vI p1, vI p2, vA b2, vA b5, vA b12, vI 1, vI 1, .unset] [(.ref b12)])) _
    refine XS.astore X28.here hx rfl (hb hby at_46) rfl rfl (l' := #[vI p0, vI p1, vI p2, vA b2, vA b5, vA b12, vI 1, vI 1, vA b12]) rfl ?_
    refine XS.aloadN X28.here hx rfl (hb hby at_48) rfl rfl ?_
    refine XS.aload X28.here hx rfl (hb hby at_49) rfl rfl ?_
    refine st29.trans ?_
    show Steps _ _ _ (T29.setTop (mkF m 54 #[vI p0, vI p1, vI p2, vA b2, vA b5, vA b12, vI 1, vI 1, vA b12] [])) _
    refine XS.iload X29.here hx rfl (hb hby at_54) rfl ?_
    refine XS.ifNo X29.here hx rfl (hb hby at_56) rfl ((if0 _ _).trans (feq ((by decide) : ¬ ((1 : Int32) = (0 : Int32)))).1) ?_
    refine XS.aload X29.here hx rfl (hb hby at_59) rfl rfl ?_
    refine XS.ifnonnullYes X29.here hx rfl (pc0 := 61) (pc' := 68) rfl (hb hby at_61) rfl (by decide) (by decide) ?_
    refine XS.iconst X29.here hx rfl (hb hby at_68) ?_
    refine XS.istore X29.here hx rfl (hb hby at_69) rfl (l' := #[vI p0, vI p1, vI p2, vA b2, vA b5, vA b12, vI 1, vI 0, vA b12]) rfl ?_
    refine XS.iload X29.here hx rfl (hb hby at_71) rfl ?_
    refine XS.ifNo X29.here hx rfl (hb hby at_73) rfl ((if0 _ _).trans (feq ((by decide) : ¬ ((1 : Int32) = (0 : Int32)))).1) ?_
    refine XS.aloadN X29.here hx rfl (hb hby at_76) rfl rfl ?_
    refine XS.iload X29.here hx rfl (hb hby at_77) rfl ?_
    refine st32 _ ?_
    show Steps _ _ _ (T32.setTop (mkF m 82 #[vI p0, vI p1, vI p2, vA b2, vA b5, vA b12, vI 1, vI 0, vA b12] [(.int 1)])) _
    refine XS.ifNo X32.here hx rfl (hb hby at_82) rfl ((if0 _ _).trans (feq ((by decide) : ¬ ((1 : Int32) = (0 : Int32)))).1) ?_
    refine XS.iconst X32.here hx rfl (hb hby at_85) ?_
    refine XS.goto X32.here hx rfl (pc0 := 86) (pc' := 90) rfl (hb hby at_86) (by decide) (by decide) ?_
    refine XS.istore X32.here hx rfl (hb hby at_90) rfl (l' := #[vI p0, vI p1, vI p2, vA b2, vA b5, vA b12, vI 1, vI 0, vA b12]) rfl ?_
    refine XS.iloadN X32.here hx rfl (hb hby at_92) rfl ?_
    refine XS.aload X32.here hx rfl (hb hby at_93) rfl rfl ?_
    refine XS.aload X32.here hx rfl (hb hby at_95) rfl rfl ?_
    refine XS.iload X32.here hx rfl (hb hby at_97) rfl ?_
    refine st33 _ ?_
    show Steps _ _ _ (T33.setTop (mkF m 102 #[vI p0, vI p1, vI p2, vA b2, vA b5, vA b12, vI 1, vI 0, vA b12] [(.ref b5)])) _
    refine XS.astore X33.here hx rfl (hb hby at_102) rfl rfl (l' := #[vI p0, vI p1, vI p2, vA b2, vA b5, vA b12, vI 1, vI 0, vA b5]) rfl ?_
    refine XS.aloadN X33.here hx rfl (hb hby at_104) rfl rfl ?_
    refine XS.aload X33.here hx rfl (hb hby at_105) rfl rfl ?_
    refine st34.trans ?_
    show Steps _ _ _ (T34.setTop (mkF m 110 #[vI p0, vI p1, vI p2, vA b2, vA b5, vA b12, vI 1, vI 0, vA b5] [])) _
    refine XS.iload X34.here hx rfl (hb hby at_110) rfl ?_
    refine XS.ifYes X34.here hx rfl (pc0 := 112) (pc' := 124) rfl (hb hby at_112) rfl ((if0 _ _).trans (teq ((by decide) : (0 : Int32) = (0 : Int32))).1) (by decide) (by decide) ?_
    refine XS.iconst X34.here hx rfl (hb hby at_124) ?_
    refine XS.istore X34.here hx rfl (hb hby at_125) rfl (l' := #[vI p0, vI p1, vI p2, vA b2, vA b5, vA b12, vI 1, vI 0, vA b5]) rfl ?_
    refine XS.iload X34.here hx rfl (hb hby at_127) rfl ?_
    refine XS.ifNo X34.here hx rfl (hb hby at_129) rfl ((if0 _ _).trans (feq ((by decide) : ¬ ((1 : Int32) = (0 : Int32)))).1) ?_
    refine XS.aloadN X34.here hx rfl (hb hby at_132) rfl rfl ?_
    refine XS.iload X34.here hx rfl (hb hby at_133) rfl ?_
    refine st51 _ ?_
    show Steps _ _ _ (T51.setTop (mkF m 138 #[vI p0, vI p1, vI p2, vA b2, vA b5, vA b12, vI 1, vI 0, vA b5] [(.int 1)])) _
    refine XS.ifNo X51.here hx rfl (hb hby at_138) rfl ((if0 _ _).trans (feq ((by decide) : ¬ ((1 : Int32) = (0 : Int32)))).1) ?_
    refine XS.iconst X51.here hx rfl (hb hby at_141) ?_
    refine XS.goto X51.here hx rfl (pc0 := 142) (pc' := 146) rfl (hb hby at_142) (by decide) (by decide) ?_
    refine XS.istore X51.here hx rfl (hb hby at_146) rfl (l' := #[vI p0, vI p1, vI p2, vA b2, vA b5, vA b12, vI 1, vI 0, vA b5]) rfl ?_
    refine XS.iloadN X51.here hx rfl (hb hby at_148) rfl ?_
    refine XS.aload X51.here hx rfl (hb hby at_149) rfl rfl ?_
    refine XS.aload X51.here hx rfl (hb hby at_151) rfl rfl ?_
    refine XS.iload X51.here hx rfl (hb hby at_153) rfl ?_
    refine st54 _ ?_
    show Steps _ _ _ (T54.setTop (mkF m 158 #[vI p0, vI p1, vI p2, vA b2, vA b5, vA b12, vI 1, vI 0, vA b5] [(.ref b5)])) _
    refine XS.astore X54.here hx rfl (hb hby at_158) rfl rfl (l' := #[vI p0, vI p1, vI p2, vA b2, vA b5, vA b12, vI 1, vI 0, vA b5]) rfl ?_
    refine XS.aloadN X54.here hx rfl (hb hby at_160) rfl rfl ?_
    refine XS.aload X54.here hx rfl (hb hby at_161) rfl rfl ?_
    refine st55.trans ?_
    show Steps _ _ _ (T55.setTop (mkF m 166 #[vI p0, vI p1, vI p2, vA b2, vA b5, vA b12, vI 1, vI 0, vA b5] [])) _
    refine XS.iload X55.here hx rfl (hb hby at_166) rfl ?_
    refine XS.ifYes X55.here hx rfl (pc0 := 168) (pc' := 180) rfl (hb hby at_168) rfl ((if0 _ _).trans (teq ((by decide) : (0 : Int32) = (0 : Int32))).1) (by decide) (by decide) ?_
    refine XS.iconst X55.here hx rfl (hb hby at_180) ?_
    refine XS.istore X55.here hx rfl (hb hby at_181) rfl (l' := #[vI p0, vI p1, vI p2, vA b2, vA b5, vA b12, vI 1, vI 0, vA b5]) rfl ?_
    refine XS.iload X55.here hx rfl (hb hby at_183) rfl ?_
    refine XS.ifNo X55.here hx rfl (hb hby at_185) rfl ((if0 _ _).trans (feq ((by decide) : ¬ ((1 : Int32) = (0 : Int32)))).1) ?_
    refine XS.aloadN X55.here hx rfl (hb hby at_188) rfl rfl ?_
    refine XS.iload X55.here hx rfl (hb hby at_189) rfl ?_
    refine st59 _ ?_
    show Steps _ _ _ (T59.setTop (mkF m 194 #[vI p0, vI p1, vI p2, vA b2, vA b5, vA b12, vI 1, vI 0, vA b5] [(.int 1)])) _
    refine XS.ifNo X59.here hx rfl (hb hby at_194) rfl ((if0 _ _).trans (feq ((by decide) : ¬ ((1 : Int32) = (0 : Int32)))).1) ?_
    refine XS.iconst X59.here hx rfl (hb hby at_197) ?_
    refine XS.goto X59.here hx rfl (pc0 := 198) (pc' := 202) rfl (hb hby at_198) (by decide) (by decide) ?_
    refine XS.istore X59.here hx rfl (hb hby at_202) rfl (l' := #[vI p0, vI p1, vI p2, vA b2, vA b5, vA b12, vI 1, vI 0, vA b5]) rfl ?_
    refine XS.iload X59.here hx rfl (hb hby at_204) rfl ?_
    exact retN X59 hx (t := .boolean) Bd.returns (by simp) (hb hby at_206) hr
  · show Q_law Z p0 p1 p2 su sn mo h0 n0 _ T59.heap _
    rw [(Kq59 : T59.heap = T55.heap)]
    exact ⟨rfl, N59⟩
theorem rm_law_212 (l : Launch) (Z : State) (a0 : Array Value) (hw : HW Z a0) (ws : List Jvm.Cond) (p0 : Int32) (p1 : Int32) (p2 : Int32) (su : Addr) (sn : Addr) (mo : Addr) (h0 : Heap) (n0 : Nat) (Z0 : n0 ≤ h0.size) (P0 : Old Z n0 h0) (P1 : sta0 Z (.ref su)) (P2 : sta1 Z (.ref sn)) (P3 : Mi Z "[Ljava/lang/Object;" mo) (P4 : Exa Z h0 sn "java/util/Collections$EmptyList") (hst : l.stackTraces = true) (q0 : ¬ ((p0 &&& (3 : Int32)) = (0 : Int32))) (w0 : (p0 &&& (3 : Int32)) = (2 : Int32)) (w1 : ¬ ((p1 &&& (3 : Int32)) = (2 : Int32))) (w2 : (p2 &&& (3 : Int32)) = (2 : Int32)) :
    MetFree l x (head1 (Jvm.Cond.code x code maxLocals ret :: ws) room_1) (fun as' U => as' = #[(.int p0), (.int p1), (.int p2)] ∧ Z.Warmed39 U.vm ∧ U.heap = h0) (fun _ _ bl s _ => s.vm.MethodsKnown ∧ s.vm.FramesKnown bl) (fun _ U o U' => ∃ v L, o = .returned v ∧ Q_law Z p0 p1 p2 su sn mo h0 n0 v U'.heap L ∧ ReturnedEndW U o U' L room_1.cells room_1.slots) := by
  refine MetFree.of_bodySF (plainFor_of_name pn_12) hisR ?_
  intro p e s m args below meth c s₁ Bd hml0 hP hK
  obtain ⟨hTK, hBl⟩ := hK
  obtain ⟨rfl, hZ, hh⟩ := hP
  have hx := Bd.exec
  have hby := Bd.bytes
  have hml : c.maxLocals = 9 := hml0
  have hown : (s.setVm s.vm).vm.findClass "com/example/maat/maat/FailuresIsEmptyPinLaw" = some m.cls := findClass_of_methodNamed Bd.named
  have hnm := (name_of_methodNamed Bd.named Bd.method).1
  have X0 : Stand p l e room_1 (s.setVm s.vm) m #[(.int p0), (.int p1), (.int p2)] below meth c s₁ [] 0 0 := Stand.of_body Bd
  have e0 : s₁.heap = h0 := by rw [← hh, Bd.state]; rfl
  have N0 := Fr.nil n0
  have hZ : Z.Warmed39 (s.setVm s.vm).vm := hZ
  have hS0 : s.Since s.vm h0.size := (State.WarmedH.refl s).since _
  have hk0 : h0.size ≤ h0.size := Nat.le_refl _
  have lt1 := own_l P4.lt
  obtain ⟨T2, h2, X2, e2, E2, A2, D2, -, st2⟩ := newO X0 hx hZ hown (w_0 hw) (w_1 hw) (w_2 hw) e0 (g := (mkF m 0 #[vI p0, vI p1, vI p2, .unset, .unset, .unset, .unset, .unset, .unset] [])) rfl (hb hby at_0) (by decide) (by decide)
  obtain ⟨b2, g2⟩ : ∃ z, z = h0.size := ⟨_, rfl⟩
  rw [← g2] at A2 D2 st2
  have z2 := E2.1
  have lt3 := own_l A2.lt
  have F2_70 : Fld Z h2 b2 "com/example/maat/maat/Failures" "first" "Ljava/lang/Throwable;" .null := D2 (Or.inl (w_70 hw)) (ty := (.object "java/lang/Throwable")) (by decide)
  obtain ⟨_, _, ⟨T4, L4, k4, n4⟩, -, X4, ⟨Lc4, hQ4, l4, y4, z4⟩, st4⟩ := X2.specialBack hx (y := m_23) rfl hown (mvT hZ (w_3 hw)) (mvT hZ (w_4 hw)) (mvT hZ (w_5 hw)) (by decide) (backOf (W := 1) (rm_fin l Z a0 hw [] b2 h2 n0 (by omega) ) hZ (w_5 hw) (w_2 hw) (by decide) (by decide)) (g := (mkF m 4 #[vI p0, vI p1, vI p2, .unset, .unset, .unset, .unset, .unset, .unset] [(.ref b2), (.ref b2)])) rfl (by rw [hml]; rfl) (Steps.refl _) (a := b2) (argsL := []) (rest := [(.ref b2)]) (lenOf pd_0 rfl) rfl (Nat.le_of_eq rfl) (hb hby at_4) (fun _ _ => ⟨rfl, e2, (by decide : 1 + 0 ≤ _), (by decide : 1 + 0 ≤ _)⟩)
  dsimp only [Pt.U, Pt.locs, Pt.cells, Pt.slots] at X4 l4 y4 z4 st4 hQ4
  rw [l4, y4, z4] at X4
  obtain ⟨rfl, Nq4, Kq4⟩ := hQ4
  have N4 := Fr.app N0 Nq4
  obtain ⟨T5, h5, X5, e5, E5, A5, D5, U5, st5⟩ := newO X4 hx hZ hown (w_9 hw) (w_10 hw) (w_11 hw) Kq4 (g := (mkF m 8 #[vI p0, vI p1, vI p2, vA b2, .unset, .unset, .unset, .unset, .unset] [])) rfl (hb hby at_8) (by decide) (by decide)
  obtain ⟨b5, g5⟩ : ∃ z, z = h2.size := ⟨_, rfl⟩
  rw [← g5] at A5 D5 U5 st5
  have z5 := E5.1
  have lt6 := own_l A5.lt
  replace U5 : Unt h5 b5 := U5
  have F5_29 : Fld Z h5 b5 "java/lang/Throwable" "cause" "Ljava/lang/Throwable;" .null := D5 (Or.inl (w_29 hw)) (ty := (.object "java/lang/Throwable")) (by decide)
  have F5_32 : Fld Z h5 b5 "java/lang/Throwable" "stackTrace" "[Ljava/lang/StackTraceElement;" .null := D5 (Or.inl (w_32 hw)) (ty := (.array (.object "java/lang/StackTraceElement"))) (by decide)
  have F5_35 : Fld Z h5 b5 "java/lang/Throwable" "suppressedExceptions" "Ljava/util/List;" .null := D5 (Or.inl (w_35 hw)) (ty := (.object "java/util/List")) (by decide)
  have F5_56 : Fld Z h5 b5 "java/lang/Throwable" "detailMessage" "Ljava/lang/String;" .null := D5 (Or.inl (w_56 hw)) (ty := (.object "java/lang/String")) (by decide)
  have F5_57 : Fld Z h5 b5 "java/lang/Throwable" "backtrace" "Ljava/lang/Object;" .null := D5 (Or.inl (w_57 hw)) (ty := (.object "java/lang/Object")) (by decide)
  have F5_58 : Fld Z h5 b5 "java/lang/Throwable" "depth" "I" (.int 0) := D5 (Or.inl (w_58 hw)) (ty := .int) (by decide)
  have f8 := P0.ext E2
  have f9 := f8.ext E5
  obtain ⟨_, _, ⟨T7, L7, k7, n7⟩, -, X7, ⟨Lc7, hQ7, l7, y7, z7⟩, st7⟩ := X5.specialBack hx (y := m_5) rfl hown (mvT hZ (w_12 hw)) (mvT hZ (w_13 hw)) (mvT hZ (w_14 hw)) (by decide) (backOfKL (W := 1) (rm_rti l Z a0 hw [] b5 su sn h5 n0 (by omega) f9 P1 P2 A5 U5 F5_29 F5_32 F5_35 F5_57 F5_58 (by omega) hst) hZ (w_14 hw) (w_11 hw) (by decide) (by decide) hTK hBl) (g := (mkF m 12 #[vI p0, vI p1, vI p2, vA b2, .unset, .unset, .unset, .unset, .unset] [(.ref b5), (.ref b5)])) rfl (by rw [hml]; rfl) (Steps.refl _) (a := b5) (argsL := []) (rest := [(.ref b5)]) (lenOf pd_0 rfl) rfl (Nat.le_of_eq rfl) (hb hby at_12) (fun _ _ => ⟨rfl, e5, (by decide : 2 + 1 ≤ _), (by decide : 7 + 2752 ≤ _)⟩)
  dsimp only [Pt.U, Pt.locs, Pt.cells, Pt.slots] at X7 l7 y7 z7 st7 hQ7
  rw [l7, y7, z7] at X7
  obtain ⟨rfl, Nq7, Kq7, r7_0, r7_1, r7_2⟩ := hQ7
  have N7 := Fr.app N4 Nq7
  have z7' := Kq7.1
  have lt10 := own_l r7_0.lt
  have lt11 := own_l r7_2.lt
  obtain ⟨T12, h12, X12, e12, E12, A12, D12, U12, st12⟩ := newO X7 hx hZ hown (w_9 hw) (w_10 hw) (w_11 hw) rfl (g := (mkF m 17 #[vI p0, vI p1, vI p2, vA b2, vA b5, .unset, .unset, .unset, .unset] [])) rfl (hb hby at_17) (by decide) (by decide)
  obtain ⟨b12, g12⟩ : ∃ z, z = T7.heap.size := ⟨_, rfl⟩
  rw [← g12] at A12 D12 U12 st12
  have z12 := E12.1
  have lt13 := own_l A12.lt
  replace U12 : Unt h12 b12 := U12
  have F12_29 : Fld Z h12 b12 "java/lang/Throwable" "cause" "Ljava/lang/Throwable;" .null := D12 (Or.inl (w_29 hw)) (ty := (.object "java/lang/Throwable")) (by decide)
  have F12_32 : Fld Z h12 b12 "java/lang/Throwable" "stackTrace" "[Ljava/lang/StackTraceElement;" .null := D12 (Or.inl (w_32 hw)) (ty := (.array (.object "java/lang/StackTraceElement"))) (by decide)
  have F12_35 : Fld Z h12 b12 "java/lang/Throwable" "suppressedExceptions" "Ljava/util/List;" .null := D12 (Or.inl (w_35 hw)) (ty := (.object "java/util/List")) (by decide)
  have F12_56 : Fld Z h12 b12 "java/lang/Throwable" "detailMessage" "Ljava/lang/String;" .null := D12 (Or.inl (w_56 hw)) (ty := (.object "java/lang/String")) (by decide)
  have F12_57 : Fld Z h12 b12 "java/lang/Throwable" "backtrace" "Ljava/lang/Object;" .null := D12 (Or.inl (w_57 hw)) (ty := (.object "java/lang/Object")) (by decide)
  have F12_58 : Fld Z h12 b12 "java/lang/Throwable" "depth" "I" (.int 0) := D12 (Or.inl (w_58 hw)) (ty := .int) (by decide)
  have f15 := f9.keep Kq7 (allS (by omega) all0)
  have f16 := f15.ext E12
  obtain ⟨_, _, ⟨T14, L14, k14, n14⟩, -, X14, ⟨Lc14, hQ14, l14, y14, z14⟩, st14⟩ := X12.specialBack hx (y := m_5) rfl hown (mvT hZ (w_12 hw)) (mvT hZ (w_13 hw)) (mvT hZ (w_14 hw)) (by decide) (backOfKL (W := 1) (rm_rti l Z a0 hw [] b12 su sn h12 n0 (by omega) f16 P1 P2 A12 U12 F12_29 F12_32 F12_35 F12_57 F12_58 (by omega) hst) hZ (w_14 hw) (w_11 hw) (by decide) (by decide) hTK hBl) (g := (mkF m 21 #[vI p0, vI p1, vI p2, vA b2, vA b5, .unset, .unset, .unset, .unset] [(.ref b12), (.ref b12)])) rfl (by rw [hml]; rfl) (Steps.refl _) (a := b12) (argsL := []) (rest := [(.ref b12)]) (lenOf pd_0 rfl) rfl (Nat.le_of_eq rfl) (hb hby at_21) (fun _ _ => ⟨rfl, e12, (by decide : 4 + 1 ≤ _), (by decide : 2765 + 2752 ≤ _)⟩)
  dsimp only [Pt.U, Pt.locs, Pt.cells, Pt.slots] at X14 l14 y14 z14 st14 hQ14
  rw [l14, y14, z14] at X14
  obtain ⟨rfl, Nq14, Kq14, r14_0, r14_1, r14_2⟩ := hQ14
  have N14 := Fr.app N7 Nq14
  have z14' := Kq14.1
  have lt17 := own_l r14_0.lt
  have lt18 := own_l r14_2.lt
  have f20 := A2.ext E5
  have f21 := f20.keep Kq7
  have f22 := f21.ext E12
  have f23 := f22.keep Kq14
  have f24 := F2_70.ext E5
  have f25 := f24.keep Kq7 (ninS (own_ne (by omega)) nin0)
  have f26 := f25.ext E12
  have f27 := f26.keep Kq14 (ninS (own_ne (by omega)) nin0)
  obtain ⟨_, _, ⟨T19, L19, k19, n19⟩, -, X19, ⟨Lc19, hQ19, l19, y19, z19⟩, st19⟩ := Jvm.LawKit.callS X14 hx (y := m_26) hown (mvT hZ (w_60 hw)) (mvT hZ (w_61 hw)) (mvT hZ (w_62 hw)) (mvT hZ (w_63 hw)) (by decide) (backOf (W := 0) (rm_agn l Z a0 hw [] b2 T14.heap n0 (by omega) f23 f27) hZ (w_63 hw) (w_62 hw) (by decide) (by decide)) (g := (mkF m 28 #[vI p0, vI p1, vI p2, vA b2, vA b5, vA b12, .unset, .unset, .unset] [(.int 1), (.ref b2)])) rfl (by rw [hml]; rfl) (argsL := [(.ref b2), (.int 1)]) (rest := []) (lenOf pd_14 rfl) rfl (Nat.le_of_eq rfl) (hb hby at_28) (fun _ _ => ⟨rfl, rfl, (by decide : 5 + 0 ≤ _), (by decide : 5517 + 0 ≤ _)⟩)
  dsimp only [Pt.U, Pt.locs, Pt.cells, Pt.slots] at X19 l19 y19 z19 st19 hQ19
  rw [l19, y19, z19] at X19
  obtain ⟨rfl, Nq19, Kq19⟩ := hQ19
  have N19 := Fr.app N14 Nq19
  obtain ⟨_, _, ⟨T28, L28, k28, n28⟩, -, X28, ⟨Lc28, hQ28, l28, y28, z28⟩, st28⟩ := Jvm.LawKit.callS X19 hx (y := m_28) hown (mvT hZ (w_76 hw)) (mvT hZ (w_77 hw)) (mvT hZ (w_62 hw)) (mvT hZ (w_78 hw)) (by decide) (backOf (W := 0) (rm_pk2e l Z a0 hw [] p0 b5 b12 T14.heap n0 (by omega) q0 w0) hZ (w_78 hw) (w_62 hw) (by decide) (by decide)) (g := (mkF m 43 #[vI p0, vI p1, vI p2, vA b2, vA b5, vA b12, vI 1, vI 1, .unset] [(.int 1), (.ref b12), (.ref b5), (.int p0)])) rfl (by rw [hml]; rfl) (argsL := [(.int p0), (.ref b5), (.ref b12), (.int 1)]) (rest := []) (lenOf pd_15 rfl) rfl (Nat.le_of_eq rfl) (hb hby at_43) (fun _ _ => ⟨rfl, Kq19, (by decide : 5 + 0 ≤ _), (by decide : 5517 + 0 ≤ _)⟩)
  dsimp only [Pt.U, Pt.locs, Pt.cells, Pt.slots] at X28 l28 y28 z28 st28 hQ28
  rw [l28, y28, z28] at X28
  obtain ⟨rfl, Nq28, Kq28⟩ := hQ28
  have N28 := Fr.app N19 Nq28
  obtain ⟨cq29, kq29, qa29, qb29, qc29⟩ := isOf hZ Kq28 f23
  obtain ⟨_, _, ⟨T29, L29, k29, n29⟩, -, X29, ⟨Lc29, hQ29, l29, y29, z29⟩, st29⟩ := X28.virtualBack hx (y := m_27) (z := m_27) hown (mvT hZ (w_79 hw)) (mvT hZ (w_80 hw)) (notFace_of_selects (args := #[]) (mvT hZ (w_82 hw))) (mvT hZ (w_82 hw)) (mvT hZ (w_81 hw)) (by decide) (backOf (W := 0) (rm_far l Z a0 hw [] b2 b12 T14.heap n0 (by omega) f23 f27 (by omega)) hZ (w_83 hw) (w_2 hw) (by decide) (by decide)) qa29 qc29 (g := (mkF m 51 #[vI p0, vI p1, vI p2, vA b2, vA b5, vA b12, vI 1, vI 1, vA b12] [(.ref b12), (.ref b2)])) rfl (by rw [hml]; rfl) (Steps.refl _) (argsL := [(.ref b12)]) (rest := []) (lenOf pd_13 rfl) rfl (Nat.le_of_eq rfl) (hb hby at_51) (fun _ _ => ⟨rfl, Kq28, (by decide : 5 + 0 ≤ _), (by decide : 5517 + 0 ≤ _)⟩)
  dsimp only [Pt.U, Pt.locs, Pt.cells, Pt.slots] at X29 l29 y29 z29 st29 hQ29
  rw [l29, y29, z29] at X29
  obtain ⟨rfl, Nq29, Kq29, r29_0, r29_1⟩ := hQ29
  have N29 := Fr.app N28 Nq29
  have z29' := Kq29.1
  have lt30 := own_l r29_0.lt
  have lt31 := own_l r29_1.lt
  obtain ⟨_, _, ⟨T32, L32, k32, n32⟩, -, X32, ⟨Lc32, hQ32, l32, y32, z32⟩, st32⟩ := Jvm.LawKit.callS X29 hx (y := m_26) hown (mvT hZ (w_60 hw)) (mvT hZ (w_61 hw)) (mvT hZ (w_62 hw)) (mvT hZ (w_63 hw)) (by decide) (backOf (W := 0) (rm_agr l Z a0 hw [] b2 b12 T29.heap n0 (by omega) r29_0 r29_1) hZ (w_63 hw) (w_62 hw) (by decide) (by decide)) (g := (mkF m 79 #[vI p0, vI p1, vI p2, vA b2, vA b5, vA b12, vI 1, vI 0, vA b12] [(.int 0), (.ref b2)])) rfl (by rw [hml]; rfl) (argsL := [(.ref b2), (.int 0)]) (rest := []) (lenOf pd_14 rfl) rfl (Nat.le_of_eq rfl) (hb hby at_79) (fun _ _ => ⟨rfl, rfl, (by decide : 5 + 0 ≤ _), (by decide : 5517 + 0 ≤ _)⟩)
  dsimp only [Pt.U, Pt.locs, Pt.cells, Pt.slots] at X32 l32 y32 z32 st32 hQ32
  rw [l32, y32, z32] at X32
  obtain ⟨rfl, Nq32, Kq32⟩ := hQ32
  have N32 := Fr.app N29 Nq32
  obtain ⟨_, _, ⟨T33, L33, k33, n33⟩, -, X33, ⟨Lc33, hQ33, l33, y33, z33⟩, st33⟩ := Jvm.LawKit.callS X32 hx (y := m_28) hown (mvT hZ (w_76 hw)) (mvT hZ (w_77 hw)) (mvT hZ (w_62 hw)) (mvT hZ (w_78 hw)) (by decide) (backOf (W := 0) (rm_pk1 l Z a0 hw [] p1 b5 b12 T29.heap n0 (by omega) w1) hZ (w_78 hw) (w_62 hw) (by decide) (by decide)) (g := (mkF m 99 #[vI p0, vI p1, vI p2, vA b2, vA b5, vA b12, vI 1, vI 0, vA b12] [(.int 0), (.ref b12), (.ref b5), (.int p1)])) rfl (by rw [hml]; rfl) (argsL := [(.int p1), (.ref b5), (.ref b12), (.int 0)]) (rest := []) (lenOf pd_15 rfl) rfl (Nat.le_of_eq rfl) (hb hby at_99) (fun _ _ => ⟨rfl, Kq32, (by decide : 5 + 0 ≤ _), (by decide : 5517 + 0 ≤ _)⟩)
  dsimp only [Pt.U, Pt.locs, Pt.cells, Pt.slots] at X33 l33 y33 z33 st33 hQ33
  rw [l33, y33, z33] at X33
  obtain ⟨rfl, Nq33, Kq33⟩ := hQ33
  have N33 := Fr.app N32 Nq33
  have f35 := f16.keep Kq14 (allS (by omega) all0)
  have f36 := f35.keep Kq29 (allS (by omega) all0)
  have f37 := r14_0.keep Kq29
  have f38 := Unt.keep Kq29 (ninS (own_ne (by omega)) nin0) r14_1
  have f39 := r14_2.keep Kq29 (ninS (own_ne (by omega)) nin0)
  have f40 := r7_0.ext E12
  have f41 := f40.keep Kq14
  have f42 := f41.keep Kq29
  obtain ⟨cq34, kq34, qa34, qb34, qc34⟩ := isOf hZ Kq33 r29_0
  obtain ⟨_, _, ⟨T34, L34, k34, n34⟩, -, X34, hSb34, hgr34, ⟨Lc34, hQ34, l34, y34, z34⟩, st34⟩ := X33.virtualBackS hx (y := m_27) (z := m_27) hown (mvT hZ (w_79 hw)) (mvT hZ (w_80 hw)) (notFace_of_selects (args := #[]) (mvT hZ (w_82 hw))) (mvT hZ (w_82 hw)) (mvT hZ (w_81 hw)) (by decide) (backOfS (W := 0) (rm_fa0 l Z a0 hw [] b2 b12 b5 sn T29.heap n0 (by omega) r29_0 r29_1 f36 P2 f37 f38 f39 f42 (by omega) (own_ne (by omega))) hZ (w_83 hw) (w_2 hw) (by decide) (by decide)) qa34 qc34 (g := (mkF m 107 #[vI p0, vI p1, vI p2, vA b2, vA b5, vA b12, vI 1, vI 0, vA b5] [(.ref b5), (.ref b2)])) rfl (by rw [hml]; rfl) (Steps.refl _) (argsL := [(.ref b5)]) (rest := []) (lenOf pd_13 rfl) rfl (Nat.le_of_eq rfl) (hb hby at_107) (fun _ _ => ⟨rfl, Kq33, (by decide : 5 + 4 ≤ _), (by decide : 5517 + 140 ≤ _)⟩)
  dsimp only [Pt.U, Pt.locs, Pt.cells, Pt.slots] at X34 l34 y34 z34 st34 hQ34 hSb34 hgr34
  rw [l34, y34, z34] at X34
  rw [Kq33] at hgr34
  obtain ⟨X34, hS34, hZ34, hown34⟩ := rebS hS0 (by omega) X34 hSb34 hgr34 hZ hown
  have hk34 : T34.heap.size ≤ T34.heap.size := Nat.le_refl _
  obtain ⟨x34_al, x34_v_, x34_kv, x34_mc, rfl, Nq34, Kq34, r34_0, r34_1, r34_2, r34_3, r34_4, r34_5, r34_6, r34_7, r34_8, r34_9, r34_10, r34_11⟩ := hQ34
  have N34 := Fr.app N33 Nq34
  have z34' := Kq34.1
  have lt43 := own_l r34_3.lt
  have lt44 := own_l r34_5.lt
  have lt45 := own_l r34_6.lt
  have lt46 := own_l r34_7.lt
  have lt47 := own_l r34_8.lt
  have lt48 := own_l r34_9.lt
  have lt49 := own_l r34_10.lt
  have lt50 := own_l r34_11.lt
  have f52 := r29_0.keep Kq34
  have f53 := r29_1.keep Kq34 (ninS (own_ne (by omega)) nin0)
  obtain ⟨_, _, ⟨T51, L51, k51, n51⟩, -, X51, ⟨Lc51, hQ51, l51, y51, z51⟩, st51⟩ := Jvm.LawKit.callS X34 hx (y := m_26) hown34 (mvT hZ34 (w_60 hw)) (mvT hZ34 (w_61 hw)) (mvT hZ34 (w_62 hw)) (mvT hZ34 (w_63 hw)) (by decide) (backOf (W := 0) (rm_agr l Z a0 hw [] b2 b12 T34.heap n0 (by omega) f52 f53) hZ34 (w_63 hw) (w_62 hw) (by decide) (by decide)) (g := (mkF m 135 #[vI p0, vI p1, vI p2, vA b2, vA b5, vA b12, vI 1, vI 0, vA b5] [(.int 0), (.ref b2)])) rfl (by rw [hml]; rfl) (argsL := [(.ref b2), (.int 0)]) (rest := []) (lenOf pd_14 rfl) rfl (Nat.le_of_eq rfl) (hb hby at_135) (fun _ _ => ⟨rfl, rfl, (by decide : 9 + 0 ≤ _), (by decide : 5657 + 0 ≤ _)⟩)
  dsimp only [Pt.U, Pt.locs, Pt.cells, Pt.slots] at X51 l51 y51 z51 st51 hQ51
  rw [l51, y51, z51] at X51
  obtain ⟨rfl, Nq51, Kq51⟩ := hQ51
  have N51 := Fr.app N34 Nq51
  obtain ⟨_, _, ⟨T54, L54, k54, n54⟩, -, X54, ⟨Lc54, hQ54, l54, y54, z54⟩, st54⟩ := Jvm.LawKit.callS X51 hx (y := m_28) hown34 (mvT hZ34 (w_76 hw)) (mvT hZ34 (w_77 hw)) (mvT hZ34 (w_62 hw)) (mvT hZ34 (w_78 hw)) (by decide) (backOf (W := 0) (rm_pk2 l Z a0 hw [] p2 b5 b12 T34.heap n0 (by omega) (own_20 w2) w2) hZ34 (w_78 hw) (w_62 hw) (by decide) (by decide)) (g := (mkF m 155 #[vI p0, vI p1, vI p2, vA b2, vA b5, vA b12, vI 1, vI 0, vA b5] [(.int 0), (.ref b12), (.ref b5), (.int p2)])) rfl (by rw [hml]; rfl) (argsL := [(.int p2), (.ref b5), (.ref b12), (.int 0)]) (rest := []) (lenOf pd_15 rfl) rfl (Nat.le_of_eq rfl) (hb hby at_155) (fun _ _ => ⟨rfl, Kq51, (by decide : 9 + 0 ≤ _), (by decide : 5657 + 0 ≤ _)⟩)
  dsimp only [Pt.U, Pt.locs, Pt.cells, Pt.slots] at X54 l54 y54 z54 st54 hQ54
  rw [l54, y54, z54] at X54
  obtain ⟨rfl, Nq54, Kq54⟩ := hQ54
  have N54 := Fr.app N51 Nq54
  obtain ⟨cq55, kq55, qa55, qb55, qc55⟩ := isOf hZ34 Kq54 f52
  obtain ⟨_, _, ⟨T55, L55, k55, n55⟩, -, X55, ⟨Lc55, hQ55, l55, y55, z55⟩, st55⟩ := X54.virtualBack hx (y := m_27) (z := m_27) hown34 (mvT hZ34 (w_79 hw)) (mvT hZ34 (w_80 hw)) (notFace_of_selects (args := #[]) (mvT hZ34 (w_82 hw))) (mvT hZ34 (w_82 hw)) (mvT hZ34 (w_81 hw)) (by decide) (backOf (W := 0) (rm_fas l Z a0 hw [] b2 b12 T34.heap n0 (by omega) f52 f53) hZ34 (w_83 hw) (w_2 hw) (by decide) (by decide)) qa55 qc55 (g := (mkF m 163 #[vI p0, vI p1, vI p2, vA b2, vA b5, vA b12, vI 1, vI 0, vA b12] [(.ref b12), (.ref b2)])) rfl (by rw [hml]; rfl) (Steps.refl _) (argsL := [(.ref b12)]) (rest := []) (lenOf pd_13 rfl) rfl (Nat.le_of_eq rfl) (hb hby at_163) (fun _ _ => ⟨rfl, Kq54, (by decide : 9 + 0 ≤ _), (by decide : 5657 + 0 ≤ _)⟩)
  dsimp only [Pt.U, Pt.locs, Pt.cells, Pt.slots] at X55 l55 y55 z55 st55 hQ55
  rw [l55, y55, z55] at X55
  obtain ⟨rfl, Nq55, Kq55⟩ := hQ55
  have N55 := Fr.app N54 Nq55
  obtain ⟨_, _, ⟨T56, L56, k56, n56⟩, -, X56, ⟨Lc56, hQ56, l56, y56, z56⟩, st56⟩ := Jvm.LawKit.callS X55 hx (y := m_26) hown34 (mvT hZ34 (w_60 hw)) (mvT hZ34 (w_61 hw)) (mvT hZ34 (w_62 hw)) (mvT hZ34 (w_63 hw)) (by decide) (backOf (W := 0) (rm_agr l Z a0 hw [] b2 b12 T34.heap n0 (by omega) f52 f53) hZ34 (w_63 hw) (w_62 hw) (by decide) (by decide)) (g := (mkF m 191 #[vI p0, vI p1, vI p2, vA b2, vA b5, vA b12, vI 1, vI 0, vA b12] [(.int 0), (.ref b2)])) rfl (by rw [hml]; rfl) (argsL := [(.ref b2), (.int 0)]) (rest := []) (lenOf pd_14 rfl) rfl (Nat.le_of_eq rfl) (hb hby at_191) (fun _ _ => ⟨rfl, Kq55, (by decide : 9 + 0 ≤ _), (by decide : 5657 + 0 ≤ _)⟩)
  dsimp only [Pt.U, Pt.locs, Pt.cells, Pt.slots] at X56 l56 y56 z56 st56 hQ56
  rw [l56, y56, z56] at X56
  obtain ⟨rfl, Nq56, Kq56⟩ := hQ56
  have N56 := Fr.app N55 Nq56
  obtain ⟨fs, hr, hrun, hended, hEnd⟩ := X56.leaveW hS34 (by first | omega | (rw [(Kq56 : T56.heap = T34.heap)]; omega)) (v := some (.int 1)) (fun h => by rw [Bd.returns] at h; cases h)
  refine ⟨_, _, castTop (ef_10 m p0 p1 p2) ?_, hrun, hended, _, _, rfl, ?_, hEnd.1, hEnd.2.1, hEnd.2.2.1, hEnd.2.2.2.mono (by decide) (by decide)⟩
  · show Steps _ _ _ (s₁.setTop (mkF m 0 #[vI p0, vI p1, vI p2, .unset, .unset, .unset, .unset, .unset, .unset] [])) _
    refine st2 _ ?_
    show Steps _ _ _ (T2.setTop (mkF m 3 #[vI p0, vI p1, vI p2, .unset, .unset, .unset, .unset, .unset, .unset] [(.ref b2)])) _
    refine XS.dup X2.here hx rfl (hb hby at_3) rfl rfl ?_
    refine st4.trans ?_
    show Steps _ _ _ (T4.setTop (mkF m 7 #[vI p0, vI p1, vI p2, .unset, .unset, .unset, .unset, .unset, .unset] [(.ref b2)])) _
    refine XS.astoreN X4.here hx rfl (hb hby at_7) rfl rfl (l' := #[vI p0, vI p1, vI p2, vA b2, .unset, .unset, .unset, .unset, .unset]) rfl ?_
    refine st5 _ ?_
    show Steps _ _ _ (T5.setTop (mkF m 11 #[vI p0, vI p1, vI p2, vA b2, .unset, .unset, .unset, .unset, .unset] [(.ref b5)])) _
    refine XS.dup X5.here hx rfl (hb hby at_11) rfl rfl ?_
    refine st7.trans ?_
    show Steps _ _ _ (T7.setTop (mkF m 15 #[vI p0, vI p1, vI p2, vA b2, .unset, .unset, .unset, .unset, .unset] [(.ref b5)])) _
    refine XS.astore X7.here hx rfl (hb hby at_15) rfl rfl (l' := #[vI p0, vI p1, vI p2, vA b2, vA b5, .unset, .unset, .unset, .unset]) rfl ?_
    refine st12 _ ?_
    show Steps _ _ _ (T12.setTop (mkF m 20 #[vI p0, vI p1, vI p2, vA b2, vA b5, .unset, .unset, .unset, .unset] [(.ref b12)])) _
    refine XS.dup X12.here hx rfl (hb hby at_20) rfl rfl ?_
    refine st14.trans ?_
    show Steps _ _ _ (T14.setTop (mkF m 24 #[vI p0, vI p1, vI p2, vA b2, vA b5, .unset, .unset, .unset, .unset] [(.ref b12)])) _
    refine XS.astore X14.here hx rfl (hb hby at_24) rfl rfl (l' := #[vI p0, vI p1, vI p2, vA b2, vA b5, vA b12, .unset, .unset, .unset]) rfl ?_
    refine XS.aloadN X14.here hx rfl (hb hby at_26) rfl rfl ?_
    refine XS.iconst X14.here hx rfl (hb hby at_27) ?_
    refine st19 _ ?_
    show Steps _ _ _ (T19.setTop (mkF m 31 #[vI p0, vI p1, vI p2, vA b2, vA b5, vA b12, .unset, .unset, .unset] [(.int 1)])) _
    refine XS.istore X19.here hx rfl (hb hby at_31) rfl (l' := #[vI p0, vI p1, vI p2, vA b2, vA b5, vA b12, vI 1, .unset, .unset]) rfl ?_
    refine XS.iconst X19.here hx rfl (hb hby at_33) ?_
    refine XS.istore X19.here hx rfl (hb hby at_34) rfl (l' := #[vI p0, vI p1, vI p2, vA b2, vA b5, vA b12, vI 1, vI 1, .unset]) rfl ?_
    refine XS.iloadN X19.here hx rfl (hb hby at_36) rfl ?_
    refine XS.aload X19.here hx rfl (hb hby at_37) rfl rfl ?_
    refine XS.aload X19.here hx rfl (hb hby at_39) rfl rfl ?_
    refine XS.iload X19.here hx rfl (hb hby at_41) rfl ?_
    refine st28 _ ?_
    show Steps _ _ _ (T28.setTop (mkF m 46 #[vI p0, vI p1, vI p2, vA b2, vA b5, vA b12, vI 1, vI 1, .unset] [(.ref b12)])) _
    refine XS.astore X28.here hx rfl (hb hby at_46) rfl rfl (l' := #[vI p0, vI p1, vI p2, vA b2, vA b5, vA b12, vI 1, vI 1, vA b12]) rfl ?_
    refine XS.aloadN X28.here hx rfl (hb hby at_48) rfl rfl ?_
    refine XS.aload X28.here hx rfl (hb hby at_49) rfl rfl ?_
    refine st29.trans ?_
    show Steps _ _ _ (T29.setTop (mkF m 54 #[vI p0, vI p1, vI p2, vA b2, vA b5, vA b12, vI 1, vI 1, vA b12] [])) _
    refine XS.iload X29.here hx rfl (hb hby at_54) rfl ?_
    refine XS.ifNo X29.here hx rfl (hb hby at_56) rfl ((if0 _ _).trans (feq ((by decide) : ¬ ((1 : Int32) = (0 : Int32)))).1) ?_
    refine XS.aload X29.here hx rfl (hb hby at_59) rfl rfl ?_
    refine XS.ifnonnullYes X29.here hx rfl (pc0 := 61) (pc' := 68) rfl (hb hby at_61) rfl (by decide) (by decide) ?_
    refine XS.iconst X29.here hx rfl (hb hby at_68) ?_
    refine XS.istore X29.here hx rfl (hb hby at_69) rfl (l' := #[vI p0, vI p1, vI p2, vA b2, vA b5, vA b12, vI 1, vI 0, vA b12]) rfl ?_
    refine XS.iload X29.here hx rfl (hb hby at_71) rfl ?_
    refine XS.ifNo X29.here hx rfl (hb hby at_73) rfl ((if0 _ _).trans (feq ((by decide) : ¬ ((1 : Int32) = (0 : Int32)))).1) ?_
    refine XS.aloadN X29.here hx rfl (hb hby at_76) rfl rfl ?_
    refine XS.iload X29.here hx rfl (hb hby at_77) rfl ?_
    refine st32 _ ?_
    show Steps _ _ _ (T32.setTop (mkF m 82 #[vI p0, vI p1, vI p2, vA b2, vA b5, vA b12, vI 1, vI 0, vA b12] [(.int 1)])) _
    refine XS.ifNo X32.here hx rfl (hb hby at_82) rfl ((if0 _ _).trans (feq ((by decide) : ¬ ((1 : Int32) = (0 : Int32)))).1) ?_
    refine XS.iconst X32.here hx rfl (hb hby at_85) ?_
    refine XS.goto X32.here hx rfl (pc0 := 86) (pc' := 90) rfl (hb hby at_86) (by decide) (by decide) ?_
    refine XS.istore X32.here hx rfl (hb hby at_90) rfl (l' := #[vI p0, vI p1, vI p2, vA b2, vA b5, vA b12, vI 1, vI 0, vA b12]) rfl ?_
    refine XS.iloadN X32.here hx rfl (hb hby at_92) rfl ?_
    refine XS.aload X32.here hx rfl (hb hby at_93) rfl rfl ?_
    refine XS.aload X32.here hx rfl (hb hby at_95) rfl rfl ?_
    refine XS.iload X32.here hx rfl (hb hby at_97) rfl ?_
    refine st33 _ ?_
    show Steps _ _ _ (T33.setTop (mkF m 102 #[vI p0, vI p1, vI p2, vA b2, vA b5, vA b12, vI 1, vI 0, vA b12] [(.ref b5)])) _
    refine XS.astore X33.here hx rfl (hb hby at_102) rfl rfl (l' := #[vI p0, vI p1, vI p2, vA b2, vA b5, vA b12, vI 1, vI 0, vA b5]) rfl ?_
    refine XS.aloadN X33.here hx rfl (hb hby at_104) rfl rfl ?_
    refine XS.aload X33.here hx rfl (hb hby at_105) rfl rfl ?_
    refine st34.trans ?_
    show Steps _ _ _ (T34.setTop (mkF m 110 #[vI p0, vI p1, vI p2, vA b2, vA b5, vA b12, vI 1, vI 0, vA b5] [])) _
    refine XS.iload X34.here hx rfl (hb hby at_110) rfl ?_
    refine XS.ifYes X34.here hx rfl (pc0 := 112) (pc' := 124) rfl (hb hby at_112) rfl ((if0 _ _).trans (teq ((by decide) : (0 : Int32) = (0 : Int32))).1) (by decide) (by decide) ?_
    refine XS.iconst X34.here hx rfl (hb hby at_124) ?_
    refine XS.istore X34.here hx rfl (hb hby at_125) rfl (l' := #[vI p0, vI p1, vI p2, vA b2, vA b5, vA b12, vI 1, vI 0, vA b5]) rfl ?_
    refine XS.iload X34.here hx rfl (hb hby at_127) rfl ?_
    refine XS.ifNo X34.here hx rfl (hb hby at_129) rfl ((if0 _ _).trans (feq ((by decide) : ¬ ((1 : Int32) = (0 : Int32)))).1) ?_
    refine XS.aloadN X34.here hx rfl (hb hby at_132) rfl rfl ?_
    refine XS.iload X34.here hx rfl (hb hby at_133) rfl ?_
    refine st51 _ ?_
    show Steps _ _ _ (T51.setTop (mkF m 138 #[vI p0, vI p1, vI p2, vA b2, vA b5, vA b12, vI 1, vI 0, vA b5] [(.int 1)])) _
    refine XS.ifNo X51.here hx rfl (hb hby at_138) rfl ((if0 _ _).trans (feq ((by decide) : ¬ ((1 : Int32) = (0 : Int32)))).1) ?_
    refine XS.iconst X51.here hx rfl (hb hby at_141) ?_
    refine XS.goto X51.here hx rfl (pc0 := 142) (pc' := 146) rfl (hb hby at_142) (by decide) (by decide) ?_
    refine XS.istore X51.here hx rfl (hb hby at_146) rfl (l' := #[vI p0, vI p1, vI p2, vA b2, vA b5, vA b12, vI 1, vI 0, vA b5]) rfl ?_
    refine XS.iloadN X51.here hx rfl (hb hby at_148) rfl ?_
    refine XS.aload X51.here hx rfl (hb hby at_149) rfl rfl ?_
    refine XS.aload X51.here hx rfl (hb hby at_151) rfl rfl ?_
    refine XS.iload X51.here hx rfl (hb hby at_153) rfl ?_
    refine st54 _ ?_
    show Steps _ _ _ (T54.setTop (mkF m 158 #[vI p0, vI p1, vI p2, vA b2, vA b5, vA b12, vI 1, vI 0, vA b5] [(.ref b12)])) _
    refine XS.astore X54.here hx rfl (hb hby at_158) rfl rfl (l' := #[vI p0, vI p1, vI p2, vA b2, vA b5, vA b12, vI 1, vI 0, vA b12]) rfl ?_
    refine XS.aloadN X54.here hx rfl (hb hby at_160) rfl rfl ?_
    refine XS.aload X54.here hx rfl (hb hby at_161) rfl rfl ?_
    refine st55.trans ?_
    show Steps _ _ _ (T55.setTop (mkF m 166 #[vI p0, vI p1, vI p2, vA b2, vA b5, vA b12, vI 1, vI 0, vA b12] [])) _
    refine XS.iload X55.here hx rfl (hb hby at_166) rfl ?_
    refine XS.ifYes X55.here hx rfl (pc0 := 168) (pc' := 180) rfl (hb hby at_168) rfl ((if0 _ _).trans (teq ((by decide) : (0 : Int32) = (0 : Int32))).1) (by decide) (by decide) ?_
    refine XS.iconst X55.here hx rfl (hb hby at_180) ?_
    refine XS.istore X55.here hx rfl (hb hby at_181) rfl (l' := #[vI p0, vI p1, vI p2, vA b2, vA b5, vA b12, vI 1, vI 0, vA b12]) rfl ?_
    refine XS.iload X55.here hx rfl (hb hby at_183) rfl ?_
    refine XS.ifNo X55.here hx rfl (hb hby at_185) rfl ((if0 _ _).trans (feq ((by decide) : ¬ ((1 : Int32) = (0 : Int32)))).1) ?_
    refine XS.aloadN X55.here hx rfl (hb hby at_188) rfl rfl ?_
    refine XS.iload X55.here hx rfl (hb hby at_189) rfl ?_
    refine st56 _ ?_
    show Steps _ _ _ (T56.setTop (mkF m 194 #[vI p0, vI p1, vI p2, vA b2, vA b5, vA b12, vI 1, vI 0, vA b12] [(.int 1)])) _
    refine XS.ifNo X56.here hx rfl (hb hby at_194) rfl ((if0 _ _).trans (feq ((by decide) : ¬ ((1 : Int32) = (0 : Int32)))).1) ?_
    refine XS.iconst X56.here hx rfl (hb hby at_197) ?_
    refine XS.goto X56.here hx rfl (pc0 := 198) (pc' := 202) rfl (hb hby at_198) (by decide) (by decide) ?_
    refine XS.istore X56.here hx rfl (hb hby at_202) rfl (l' := #[vI p0, vI p1, vI p2, vA b2, vA b5, vA b12, vI 1, vI 0, vA b12]) rfl ?_
    refine XS.iload X56.here hx rfl (hb hby at_204) rfl ?_
    exact retN X56 hx (t := .boolean) Bd.returns (by simp) (hb hby at_206) hr
  · show Q_law Z p0 p1 p2 su sn mo h0 n0 _ T56.heap _
    rw [(Kq56 : T56.heap = T34.heap)]
    exact ⟨rfl, N56⟩
theorem rm_law_221 (l : Launch) (Z : State) (a0 : Array Value) (hw : HW Z a0) (ws : List Jvm.Cond) (p0 : Int32) (p1 : Int32) (p2 : Int32) (su : Addr) (sn : Addr) (mo : Addr) (h0 : Heap) (n0 : Nat) (Z0 : n0 ≤ h0.size) (P0 : Old Z n0 h0) (P1 : sta0 Z (.ref su)) (P2 : sta1 Z (.ref sn)) (P3 : Mi Z "[Ljava/lang/Object;" mo) (P4 : Exa Z h0 sn "java/util/Collections$EmptyList") (hst : l.stackTraces = true) (q0 : ¬ ((p0 &&& (3 : Int32)) = (0 : Int32))) (w0 : (p0 &&& (3 : Int32)) = (2 : Int32)) (w1 : (p1 &&& (3 : Int32)) = (2 : Int32)) (w2 : ¬ ((p2 &&& (3 : Int32)) = (2 : Int32))) :
    MetFree l x (head1 (Jvm.Cond.code x code maxLocals ret :: ws) room_1) (fun as' U => as' = #[(.int p0), (.int p1), (.int p2)] ∧ Z.Warmed39 U.vm ∧ U.heap = h0) (fun _ _ bl s _ => s.vm.MethodsKnown ∧ s.vm.FramesKnown bl) (fun _ U o U' => ∃ v L, o = .returned v ∧ Q_law Z p0 p1 p2 su sn mo h0 n0 v U'.heap L ∧ ReturnedEndW U o U' L room_1.cells room_1.slots) := by
  refine MetFree.of_bodySF (plainFor_of_name pn_12) hisR ?_
  intro p e s m args below meth c s₁ Bd hml0 hP hK
  obtain ⟨hTK, hBl⟩ := hK
  obtain ⟨rfl, hZ, hh⟩ := hP
  have hx := Bd.exec
  have hby := Bd.bytes
  have hml : c.maxLocals = 9 := hml0
  have hown : (s.setVm s.vm).vm.findClass "com/example/maat/maat/FailuresIsEmptyPinLaw" = some m.cls := findClass_of_methodNamed Bd.named
  have hnm := (name_of_methodNamed Bd.named Bd.method).1
  have X0 : Stand p l e room_1 (s.setVm s.vm) m #[(.int p0), (.int p1), (.int p2)] below meth c s₁ [] 0 0 := Stand.of_body Bd
  have e0 : s₁.heap = h0 := by rw [← hh, Bd.state]; rfl
  have N0 := Fr.nil n0
  have hZ : Z.Warmed39 (s.setVm s.vm).vm := hZ
  have hS0 : s.Since s.vm h0.size := (State.WarmedH.refl s).since _
  have hk0 : h0.size ≤ h0.size := Nat.le_refl _
  have lt1 := own_l P4.lt
  obtain ⟨T2, h2, X2, e2, E2, A2, D2, -, st2⟩ := newO X0 hx hZ hown (w_0 hw) (w_1 hw) (w_2 hw) e0 (g := (mkF m 0 #[vI p0, vI p1, vI p2, .unset, .unset, .unset, .unset, .unset, .unset] [])) rfl (hb hby at_0) (by decide) (by decide)
  obtain ⟨b2, g2⟩ : ∃ z, z = h0.size := ⟨_, rfl⟩
  rw [← g2] at A2 D2 st2
  have z2 := E2.1
  have lt3 := own_l A2.lt
  have F2_70 : Fld Z h2 b2 "com/example/maat/maat/Failures" "first" "Ljava/lang/Throwable;" .null := D2 (Or.inl (w_70 hw)) (ty := (.object "java/lang/Throwable")) (by decide)
  obtain ⟨_, _, ⟨T4, L4, k4, n4⟩, -, X4, ⟨Lc4, hQ4, l4, y4, z4⟩, st4⟩ := X2.specialBack hx (y := m_23) rfl hown (mvT hZ (w_3 hw)) (mvT hZ (w_4 hw)) (mvT hZ (w_5 hw)) (by decide) (backOf (W := 1) (rm_fin l Z a0 hw [] b2 h2 n0 (by omega) ) hZ (w_5 hw) (w_2 hw) (by decide) (by decide)) (g := (mkF m 4 #[vI p0, vI p1, vI p2, .unset, .unset, .unset, .unset, .unset, .unset] [(.ref b2), (.ref b2)])) rfl (by rw [hml]; rfl) (Steps.refl _) (a := b2) (argsL := []) (rest := [(.ref b2)]) (lenOf pd_0 rfl) rfl (Nat.le_of_eq rfl) (hb hby at_4) (fun _ _ => ⟨rfl, e2, (by decide : 1 + 0 ≤ _), (by decide : 1 + 0 ≤ _)⟩)
  dsimp only [Pt.U, Pt.locs, Pt.cells, Pt.slots] at X4 l4 y4 z4 st4 hQ4
  rw [l4, y4, z4] at X4
  obtain ⟨rfl, Nq4, Kq4⟩ := hQ4
  have N4 := Fr.app N0 Nq4
  obtain ⟨T5, h5, X5, e5, E5, A5, D5, U5, st5⟩ := newO X4 hx hZ hown (w_9 hw) (w_10 hw) (w_11 hw) Kq4 (g := (mkF m 8 #[vI p0, vI p1, vI p2, vA b2, .unset, .unset, .unset, .unset, .unset] [])) rfl (hb hby at_8) (by decide) (by decide)
  obtain ⟨b5, g5⟩ : ∃ z, z = h2.size := ⟨_, rfl⟩
  rw [← g5] at A5 D5 U5 st5
  have z5 := E5.1
  have lt6 := own_l A5.lt
  replace U5 : Unt h5 b5 := U5
  have F5_29 : Fld Z h5 b5 "java/lang/Throwable" "cause" "Ljava/lang/Throwable;" .null := D5 (Or.inl (w_29 hw)) (ty := (.object "java/lang/Throwable")) (by decide)
  have F5_32 : Fld Z h5 b5 "java/lang/Throwable" "stackTrace" "[Ljava/lang/StackTraceElement;" .null := D5 (Or.inl (w_32 hw)) (ty := (.array (.object "java/lang/StackTraceElement"))) (by decide)
  have F5_35 : Fld Z h5 b5 "java/lang/Throwable" "suppressedExceptions" "Ljava/util/List;" .null := D5 (Or.inl (w_35 hw)) (ty := (.object "java/util/List")) (by decide)
  have F5_56 : Fld Z h5 b5 "java/lang/Throwable" "detailMessage" "Ljava/lang/String;" .null := D5 (Or.inl (w_56 hw)) (ty := (.object "java/lang/String")) (by decide)
  have F5_57 : Fld Z h5 b5 "java/lang/Throwable" "backtrace" "Ljava/lang/Object;" .null := D5 (Or.inl (w_57 hw)) (ty := (.object "java/lang/Object")) (by decide)
  have F5_58 : Fld Z h5 b5 "java/lang/Throwable" "depth" "I" (.int 0) := D5 (Or.inl (w_58 hw)) (ty := .int) (by decide)
  have f8 := P0.ext E2
  have f9 := f8.ext E5
  obtain ⟨_, _, ⟨T7, L7, k7, n7⟩, -, X7, ⟨Lc7, hQ7, l7, y7, z7⟩, st7⟩ := X5.specialBack hx (y := m_5) rfl hown (mvT hZ (w_12 hw)) (mvT hZ (w_13 hw)) (mvT hZ (w_14 hw)) (by decide) (backOfKL (W := 1) (rm_rti l Z a0 hw [] b5 su sn h5 n0 (by omega) f9 P1 P2 A5 U5 F5_29 F5_32 F5_35 F5_57 F5_58 (by omega) hst) hZ (w_14 hw) (w_11 hw) (by decide) (by decide) hTK hBl) (g := (mkF m 12 #[vI p0, vI p1, vI p2, vA b2, .unset, .unset, .unset, .unset, .unset] [(.ref b5), (.ref b5)])) rfl (by rw [hml]; rfl) (Steps.refl _) (a := b5) (argsL := []) (rest := [(.ref b5)]) (lenOf pd_0 rfl) rfl (Nat.le_of_eq rfl) (hb hby at_12) (fun _ _ => ⟨rfl, e5, (by decide : 2 + 1 ≤ _), (by decide : 7 + 2752 ≤ _)⟩)
  dsimp only [Pt.U, Pt.locs, Pt.cells, Pt.slots] at X7 l7 y7 z7 st7 hQ7
  rw [l7, y7, z7] at X7
  obtain ⟨rfl, Nq7, Kq7, r7_0, r7_1, r7_2⟩ := hQ7
  have N7 := Fr.app N4 Nq7
  have z7' := Kq7.1
  have lt10 := own_l r7_0.lt
  have lt11 := own_l r7_2.lt
  obtain ⟨T12, h12, X12, e12, E12, A12, D12, U12, st12⟩ := newO X7 hx hZ hown (w_9 hw) (w_10 hw) (w_11 hw) rfl (g := (mkF m 17 #[vI p0, vI p1, vI p2, vA b2, vA b5, .unset, .unset, .unset, .unset] [])) rfl (hb hby at_17) (by decide) (by decide)
  obtain ⟨b12, g12⟩ : ∃ z, z = T7.heap.size := ⟨_, rfl⟩
  rw [← g12] at A12 D12 U12 st12
  have z12 := E12.1
  have lt13 := own_l A12.lt
  replace U12 : Unt h12 b12 := U12
  have F12_29 : Fld Z h12 b12 "java/lang/Throwable" "cause" "Ljava/lang/Throwable;" .null := D12 (Or.inl (w_29 hw)) (ty := (.object "java/lang/Throwable")) (by decide)
  have F12_32 : Fld Z h12 b12 "java/lang/Throwable" "stackTrace" "[Ljava/lang/StackTraceElement;" .null := D12 (Or.inl (w_32 hw)) (ty := (.array (.object "java/lang/StackTraceElement"))) (by decide)
  have F12_35 : Fld Z h12 b12 "java/lang/Throwable" "suppressedExceptions" "Ljava/util/List;" .null := D12 (Or.inl (w_35 hw)) (ty := (.object "java/util/List")) (by decide)
  have F12_56 : Fld Z h12 b12 "java/lang/Throwable" "detailMessage" "Ljava/lang/String;" .null := D12 (Or.inl (w_56 hw)) (ty := (.object "java/lang/String")) (by decide)
  have F12_57 : Fld Z h12 b12 "java/lang/Throwable" "backtrace" "Ljava/lang/Object;" .null := D12 (Or.inl (w_57 hw)) (ty := (.object "java/lang/Object")) (by decide)
  have F12_58 : Fld Z h12 b12 "java/lang/Throwable" "depth" "I" (.int 0) := D12 (Or.inl (w_58 hw)) (ty := .int) (by decide)
  have f15 := f9.keep Kq7 (allS (by omega) all0)
  have f16 := f15.ext E12
  obtain ⟨_, _, ⟨T14, L14, k14, n14⟩, -, X14, ⟨Lc14, hQ14, l14, y14, z14⟩, st14⟩ := X12.specialBack hx (y := m_5) rfl hown (mvT hZ (w_12 hw)) (mvT hZ (w_13 hw)) (mvT hZ (w_14 hw)) (by decide) (backOfKL (W := 1) (rm_rti l Z a0 hw [] b12 su sn h12 n0 (by omega) f16 P1 P2 A12 U12 F12_29 F12_32 F12_35 F12_57 F12_58 (by omega) hst) hZ (w_14 hw) (w_11 hw) (by decide) (by decide) hTK hBl) (g := (mkF m 21 #[vI p0, vI p1, vI p2, vA b2, vA b5, .unset, .unset, .unset, .unset] [(.ref b12), (.ref b12)])) rfl (by rw [hml]; rfl) (Steps.refl _) (a := b12) (argsL := []) (rest := [(.ref b12)]) (lenOf pd_0 rfl) rfl (Nat.le_of_eq rfl) (hb hby at_21) (fun _ _ => ⟨rfl, e12, (by decide : 4 + 1 ≤ _), (by decide : 2765 + 2752 ≤ _)⟩)
  dsimp only [Pt.U, Pt.locs, Pt.cells, Pt.slots] at X14 l14 y14 z14 st14 hQ14
  rw [l14, y14, z14] at X14
  obtain ⟨rfl, Nq14, Kq14, r14_0, r14_1, r14_2⟩ := hQ14
  have N14 := Fr.app N7 Nq14
  have z14' := Kq14.1
  have lt17 := own_l r14_0.lt
  have lt18 := own_l r14_2.lt
  have f20 := A2.ext E5
  have f21 := f20.keep Kq7
  have f22 := f21.ext E12
  have f23 := f22.keep Kq14
  have f24 := F2_70.ext E5
  have f25 := f24.keep Kq7 (ninS (own_ne (by omega)) nin0)
  have f26 := f25.ext E12
  have f27 := f26.keep Kq14 (ninS (own_ne (by omega)) nin0)
  obtain ⟨_, _, ⟨T19, L19, k19, n19⟩, -, X19, ⟨Lc19, hQ19, l19, y19, z19⟩, st19⟩ := Jvm.LawKit.callS X14 hx (y := m_26) hown (mvT hZ (w_60 hw)) (mvT hZ (w_61 hw)) (mvT hZ (w_62 hw)) (mvT hZ (w_63 hw)) (by decide) (backOf (W := 0) (rm_agn l Z a0 hw [] b2 T14.heap n0 (by omega) f23 f27) hZ (w_63 hw) (w_62 hw) (by decide) (by decide)) (g := (mkF m 28 #[vI p0, vI p1, vI p2, vA b2, vA b5, vA b12, .unset, .unset, .unset] [(.int 1), (.ref b2)])) rfl (by rw [hml]; rfl) (argsL := [(.ref b2), (.int 1)]) (rest := []) (lenOf pd_14 rfl) rfl (Nat.le_of_eq rfl) (hb hby at_28) (fun _ _ => ⟨rfl, rfl, (by decide : 5 + 0 ≤ _), (by decide : 5517 + 0 ≤ _)⟩)
  dsimp only [Pt.U, Pt.locs, Pt.cells, Pt.slots] at X19 l19 y19 z19 st19 hQ19
  rw [l19, y19, z19] at X19
  obtain ⟨rfl, Nq19, Kq19⟩ := hQ19
  have N19 := Fr.app N14 Nq19
  obtain ⟨_, _, ⟨T28, L28, k28, n28⟩, -, X28, ⟨Lc28, hQ28, l28, y28, z28⟩, st28⟩ := Jvm.LawKit.callS X19 hx (y := m_28) hown (mvT hZ (w_76 hw)) (mvT hZ (w_77 hw)) (mvT hZ (w_62 hw)) (mvT hZ (w_78 hw)) (by decide) (backOf (W := 0) (rm_pk2e l Z a0 hw [] p0 b5 b12 T14.heap n0 (by omega) q0 w0) hZ (w_78 hw) (w_62 hw) (by decide) (by decide)) (g := (mkF m 43 #[vI p0, vI p1, vI p2, vA b2, vA b5, vA b12, vI 1, vI 1, .unset] [(.int 1), (.ref b12), (.ref b5), (.int p0)])) rfl (by rw [hml]; rfl) (argsL := [(.int p0), (.ref b5), (.ref b12), (.int 1)]) (rest := []) (lenOf pd_15 rfl) rfl (Nat.le_of_eq rfl) (hb hby at_43) (fun _ _ => ⟨rfl, Kq19, (by decide : 5 + 0 ≤ _), (by decide : 5517 + 0 ≤ _)⟩)
  dsimp only [Pt.U, Pt.locs, Pt.cells, Pt.slots] at X28 l28 y28 z28 st28 hQ28
  rw [l28, y28, z28] at X28
  obtain ⟨rfl, Nq28, Kq28⟩ := hQ28
  have N28 := Fr.app N19 Nq28
  obtain ⟨cq29, kq29, qa29, qb29, qc29⟩ := isOf hZ Kq28 f23
  obtain ⟨_, _, ⟨T29, L29, k29, n29⟩, -, X29, ⟨Lc29, hQ29, l29, y29, z29⟩, st29⟩ := X28.virtualBack hx (y := m_27) (z := m_27) hown (mvT hZ (w_79 hw)) (mvT hZ (w_80 hw)) (notFace_of_selects (args := #[]) (mvT hZ (w_82 hw))) (mvT hZ (w_82 hw)) (mvT hZ (w_81 hw)) (by decide) (backOf (W := 0) (rm_far l Z a0 hw [] b2 b12 T14.heap n0 (by omega) f23 f27 (by omega)) hZ (w_83 hw) (w_2 hw) (by decide) (by decide)) qa29 qc29 (g := (mkF m 51 #[vI p0, vI p1, vI p2, vA b2, vA b5, vA b12, vI 1, vI 1, vA b12] [(.ref b12), (.ref b2)])) rfl (by rw [hml]; rfl) (Steps.refl _) (argsL := [(.ref b12)]) (rest := []) (lenOf pd_13 rfl) rfl (Nat.le_of_eq rfl) (hb hby at_51) (fun _ _ => ⟨rfl, Kq28, (by decide : 5 + 0 ≤ _), (by decide : 5517 + 0 ≤ _)⟩)
  dsimp only [Pt.U, Pt.locs, Pt.cells, Pt.slots] at X29 l29 y29 z29 st29 hQ29
  rw [l29, y29, z29] at X29
  obtain ⟨rfl, Nq29, Kq29, r29_0, r29_1⟩ := hQ29
  have N29 := Fr.app N28 Nq29
  have z29' := Kq29.1
  have lt30 := own_l r29_0.lt
  have lt31 := own_l r29_1.lt
  obtain ⟨_, _, ⟨T32, L32, k32, n32⟩, -, X32, ⟨Lc32, hQ32, l32, y32, z32⟩, st32⟩ := Jvm.LawKit.callS X29 hx (y := m_26) hown (mvT hZ (w_60 hw)) (mvT hZ (w_61 hw)) (mvT hZ (w_62 hw)) (mvT hZ (w_63 hw)) (by decide) (backOf (W := 0) (rm_agr l Z a0 hw [] b2 b12 T29.heap n0 (by omega) r29_0 r29_1) hZ (w_63 hw) (w_62 hw) (by decide) (by decide)) (g := (mkF m 79 #[vI p0, vI p1, vI p2, vA b2, vA b5, vA b12, vI 1, vI 0, vA b12] [(.int 0), (.ref b2)])) rfl (by rw [hml]; rfl) (argsL := [(.ref b2), (.int 0)]) (rest := []) (lenOf pd_14 rfl) rfl (Nat.le_of_eq rfl) (hb hby at_79) (fun _ _ => ⟨rfl, rfl, (by decide : 5 + 0 ≤ _), (by decide : 5517 + 0 ≤ _)⟩)
  dsimp only [Pt.U, Pt.locs, Pt.cells, Pt.slots] at X32 l32 y32 z32 st32 hQ32
  rw [l32, y32, z32] at X32
  obtain ⟨rfl, Nq32, Kq32⟩ := hQ32
  have N32 := Fr.app N29 Nq32
  obtain ⟨_, _, ⟨T33, L33, k33, n33⟩, -, X33, ⟨Lc33, hQ33, l33, y33, z33⟩, st33⟩ := Jvm.LawKit.callS X32 hx (y := m_28) hown (mvT hZ (w_76 hw)) (mvT hZ (w_77 hw)) (mvT hZ (w_62 hw)) (mvT hZ (w_78 hw)) (by decide) (backOf (W := 0) (rm_pk2 l Z a0 hw [] p1 b5 b12 T29.heap n0 (by omega) (own_20 w1) w1) hZ (w_78 hw) (w_62 hw) (by decide) (by decide)) (g := (mkF m 99 #[vI p0, vI p1, vI p2, vA b2, vA b5, vA b12, vI 1, vI 0, vA b12] [(.int 0), (.ref b12), (.ref b5), (.int p1)])) rfl (by rw [hml]; rfl) (argsL := [(.int p1), (.ref b5), (.ref b12), (.int 0)]) (rest := []) (lenOf pd_15 rfl) rfl (Nat.le_of_eq rfl) (hb hby at_99) (fun _ _ => ⟨rfl, Kq32, (by decide : 5 + 0 ≤ _), (by decide : 5517 + 0 ≤ _)⟩)
  dsimp only [Pt.U, Pt.locs, Pt.cells, Pt.slots] at X33 l33 y33 z33 st33 hQ33
  rw [l33, y33, z33] at X33
  obtain ⟨rfl, Nq33, Kq33⟩ := hQ33
  have N33 := Fr.app N32 Nq33
  obtain ⟨cq34, kq34, qa34, qb34, qc34⟩ := isOf hZ Kq33 r29_0
  obtain ⟨_, _, ⟨T34, L34, k34, n34⟩, -, X34, ⟨Lc34, hQ34, l34, y34, z34⟩, st34⟩ := X33.virtualBack hx (y := m_27) (z := m_27) hown (mvT hZ (w_79 hw)) (mvT hZ (w_80 hw)) (notFace_of_selects (args := #[]) (mvT hZ (w_82 hw))) (mvT hZ (w_82 hw)) (mvT hZ (w_81 hw)) (by decide) (backOf (W := 0) (rm_fas l Z a0 hw [] b2 b12 T29.heap n0 (by omega) r29_0 r29_1) hZ (w_83 hw) (w_2 hw) (by decide) (by decide)) qa34 qc34 (g := (mkF m 107 #[vI p0, vI p1, vI p2, vA b2, vA b5, vA b12, vI 1, vI 0, vA b12] [(.ref b12), (.ref b2)])) rfl (by rw [hml]; rfl) (Steps.refl _) (argsL := [(.ref b12)]) (rest := []) (lenOf pd_13 rfl) rfl (Nat.le_of_eq rfl) (hb hby at_107) (fun _ _ => ⟨rfl, Kq33, (by decide : 5 + 0 ≤ _), (by decide : 5517 + 0 ≤ _)⟩)
  dsimp only [Pt.U, Pt.locs, Pt.cells, Pt.slots] at X34 l34 y34 z34 st34 hQ34
  rw [l34, y34, z34] at X34
  obtain ⟨rfl, Nq34, Kq34⟩ := hQ34
  have N34 := Fr.app N33 Nq34
  obtain ⟨_, _, ⟨T35, L35, k35, n35⟩, -, X35, ⟨Lc35, hQ35, l35, y35, z35⟩, st35⟩ := Jvm.LawKit.callS X34 hx (y := m_26) hown (mvT hZ (w_60 hw)) (mvT hZ (w_61 hw)) (mvT hZ (w_62 hw)) (mvT hZ (w_63 hw)) (by decide) (backOf (W := 0) (rm_agr l Z a0 hw [] b2 b12 T29.heap n0 (by omega) r29_0 r29_1) hZ (w_63 hw) (w_62 hw) (by decide) (by decide)) (g := (mkF m 135 #[vI p0, vI p1, vI p2, vA b2, vA b5, vA b12, vI 1, vI 0, vA b12] [(.int 0), (.ref b2)])) rfl (by rw [hml]; rfl) (argsL := [(.ref b2), (.int 0)]) (rest := []) (lenOf pd_14 rfl) rfl (Nat.le_of_eq rfl) (hb hby at_135) (fun _ _ => ⟨rfl, Kq34, (by decide : 5 + 0 ≤ _), (by decide : 5517 + 0 ≤ _)⟩)
  dsimp only [Pt.U, Pt.locs, Pt.cells, Pt.slots] at X35 l35 y35 z35 st35 hQ35
  rw [l35, y35, z35] at X35
  obtain ⟨rfl, Nq35, Kq35⟩ := hQ35
  have N35 := Fr.app N34 Nq35
  obtain ⟨_, _, ⟨T36, L36, k36, n36⟩, -, X36, ⟨Lc36, hQ36, l36, y36, z36⟩, st36⟩ := Jvm.LawKit.callS X35 hx (y := m_28) hown (mvT hZ (w_76 hw)) (mvT hZ (w_77 hw)) (mvT hZ (w_62 hw)) (mvT hZ (w_78 hw)) (by decide) (backOf (W := 0) (rm_pk1 l Z a0 hw [] p2 b5 b12 T29.heap n0 (by omega) w2) hZ (w_78 hw) (w_62 hw) (by decide) (by decide)) (g := (mkF m 155 #[vI p0, vI p1, vI p2, vA b2, vA b5, vA b12, vI 1, vI 0, vA b12] [(.int 0), (.ref b12), (.ref b5), (.int p2)])) rfl (by rw [hml]; rfl) (argsL := [(.int p2), (.ref b5), (.ref b12), (.int 0)]) (rest := []) (lenOf pd_15 rfl) rfl (Nat.le_of_eq rfl) (hb hby at_155) (fun _ _ => ⟨rfl, Kq35, (by decide : 5 + 0 ≤ _), (by decide : 5517 + 0 ≤ _)⟩)
  dsimp only [Pt.U, Pt.locs, Pt.cells, Pt.slots] at X36 l36 y36 z36 st36 hQ36
  rw [l36, y36, z36] at X36
  obtain ⟨rfl, Nq36, Kq36⟩ := hQ36
  have N36 := Fr.app N35 Nq36
  have f38 := f16.keep Kq14 (allS (by omega) all0)
  have f39 := f38.keep Kq29 (allS (by omega) all0)
  have f40 := r14_0.keep Kq29
  have f41 := Unt.keep Kq29 (ninS (own_ne (by omega)) nin0) r14_1
  have f42 := r14_2.keep Kq29 (ninS (own_ne (by omega)) nin0)
  have f43 := r7_0.ext E12
  have f44 := f43.keep Kq14
  have f45 := f44.keep Kq29
  obtain ⟨cq37, kq37, qa37, qb37, qc37⟩ := isOf hZ Kq36 r29_0
  obtain ⟨_, _, ⟨T37, L37, k37, n37⟩, -, X37, hSb37, hgr37, ⟨Lc37, hQ37, l37, y37, z37⟩, st37⟩ := X36.virtualBackS hx (y := m_27) (z := m_27) hown (mvT hZ (w_79 hw)) (mvT hZ (w_80 hw)) (notFace_of_selects (args := #[]) (mvT hZ (w_82 hw))) (mvT hZ (w_82 hw)) (mvT hZ (w_81 hw)) (by decide) (backOfS (W := 0) (rm_fa0 l Z a0 hw [] b2 b12 b5 sn T29.heap n0 (by omega) r29_0 r29_1 f39 P2 f40 f41 f42 f45 (by omega) (own_ne (by omega))) hZ (w_83 hw) (w_2 hw) (by decide) (by decide)) qa37 qc37 (g := (mkF m 163 #[vI p0, vI p1, vI p2, vA b2, vA b5, vA b12, vI 1, vI 0, vA b5] [(.ref b5), (.ref b2)])) rfl (by rw [hml]; rfl) (Steps.refl _) (argsL := [(.ref b5)]) (rest := []) (lenOf pd_13 rfl) rfl (Nat.le_of_eq rfl) (hb hby at_163) (fun _ _ => ⟨rfl, Kq36, (by decide : 5 + 4 ≤ _), (by decide : 5517 + 140 ≤ _)⟩)
  dsimp only [Pt.U, Pt.locs, Pt.cells, Pt.slots] at X37 l37 y37 z37 st37 hQ37 hSb37 hgr37
  rw [l37, y37, z37] at X37
  rw [Kq36] at hgr37
  obtain ⟨X37, hS37, hZ37, hown37⟩ := rebS hS0 (by omega) X37 hSb37 hgr37 hZ hown
  have hk37 : T37.heap.size ≤ T37.heap.size := Nat.le_refl _
  obtain ⟨x37_al, x37_v_, x37_kv, x37_mc, rfl, Nq37, Kq37, r37_0, r37_1, r37_2, r37_3, r37_4, r37_5, r37_6, r37_7, r37_8, r37_9, r37_10, r37_11⟩ := hQ37
  have N37 := Fr.app N36 Nq37
  have z37' := Kq37.1
  have lt46 := own_l r37_3.lt
  have lt47 := own_l r37_5.lt
  have lt48 := own_l r37_6.lt
  have lt49 := own_l r37_7.lt
  have lt50 := own_l r37_8.lt
  have lt51 := own_l r37_9.lt
  have lt52 := own_l r37_10.lt
  have lt53 := own_l r37_11.lt
  have f55 := r29_0.keep Kq37
  have f56 := r29_1.keep Kq37 (ninS (own_ne (by omega)) nin0)
  obtain ⟨_, _, ⟨T54, L54, k54, n54⟩, -, X54, ⟨Lc54, hQ54, l54, y54, z54⟩, st54⟩ := Jvm.LawKit.callS X37 hx (y := m_26) hown37 (mvT hZ37 (w_60 hw)) (mvT hZ37 (w_61 hw)) (mvT hZ37 (w_62 hw)) (mvT hZ37 (w_63 hw)) (by decide) (backOf (W := 0) (rm_agr l Z a0 hw [] b2 b12 T37.heap n0 (by omega) f55 f56) hZ37 (w_63 hw) (w_62 hw) (by decide) (by decide)) (g := (mkF m 191 #[vI p0, vI p1, vI p2, vA b2, vA b5, vA b12, vI 1, vI 0, vA b5] [(.int 0), (.ref b2)])) rfl (by rw [hml]; rfl) (argsL := [(.ref b2), (.int 0)]) (rest := []) (lenOf pd_14 rfl) rfl (Nat.le_of_eq rfl) (hb hby at_191) (fun _ _ => ⟨rfl, rfl, (by decide : 9 + 0 ≤ _), (by decide : 5657 + 0 ≤ _)⟩)
  dsimp only [Pt.U, Pt.locs, Pt.cells, Pt.slots] at X54 l54 y54 z54 st54 hQ54
  rw [l54, y54, z54] at X54
  obtain ⟨rfl, Nq54, Kq54⟩ := hQ54
  have N54 := Fr.app N37 Nq54
  obtain ⟨fs, hr, hrun, hended, hEnd⟩ := X54.leaveW hS37 (by first | omega | (rw [(Kq54 : T54.heap = T37.heap)]; omega)) (v := some (.int 1)) (fun h => by rw [Bd.returns] at h; cases h)
  refine ⟨_, _, castTop (ef_10 m p0 p1 p2) ?_, hrun, hended, _, _, rfl, ?_, hEnd.1, hEnd.2.1, hEnd.2.2.1, hEnd.2.2.2.mono (by decide) (by decide)⟩
  · show Steps _ _ _ (s₁.setTop (mkF m 0 #[vI p0, vI p1, vI p2, .unset, .unset, .unset, .unset, .unset, .unset] [])) _
    refine st2 _ ?_
    show Steps _ _ _ (T2.setTop (mkF m 3 #[vI p0, vI p1, vI p2, .unset, .unset, .unset, .unset, .unset, .unset] [(.ref b2)])) _
    refine XS.dup X2.here hx rfl (hb hby at_3) rfl rfl ?_
    refine st4.trans ?_
    show Steps _ _ _ (T4.setTop (mkF m 7 #[vI p0, vI p1, vI p2, .unset, .unset, .unset, .unset, .unset, .unset] [(.ref b2)])) _
    refine XS.astoreN X4.here hx rfl (hb hby at_7) rfl rfl (l' := #[vI p0, vI p1, vI p2, vA b2, .unset, .unset, .unset, .unset, .unset]) rfl ?_
    refine st5 _ ?_
    show Steps _ _ _ (T5.setTop (mkF m 11 #[vI p0, vI p1, vI p2, vA b2, .unset, .unset, .unset, .unset, .unset] [(.ref b5)])) _
    refine XS.dup X5.here hx rfl (hb hby at_11) rfl rfl ?_
    refine st7.trans ?_
    show Steps _ _ _ (T7.setTop (mkF m 15 #[vI p0, vI p1, vI p2, vA b2, .unset, .unset, .unset, .unset, .unset] [(.ref b5)])) _
    refine XS.astore X7.here hx rfl (hb hby at_15) rfl rfl (l' := #[vI p0, vI p1, vI p2, vA b2, vA b5, .unset, .unset, .unset, .unset]) rfl ?_
    refine st12 _ ?_
    show Steps _ _ _ (T12.setTop (mkF m 20 #[vI p0, vI p1, vI p2, vA b2, vA b5, .unset, .unset, .unset, .unset] [(.ref b12)])) _
    refine XS.dup X12.here hx rfl (hb hby at_20) rfl rfl ?_
    refine st14.trans ?_
    show Steps _ _ _ (T14.setTop (mkF m 24 #[vI p0, vI p1, vI p2, vA b2, vA b5, .unset, .unset, .unset, .unset] [(.ref b12)])) _
    refine XS.astore X14.here hx rfl (hb hby at_24) rfl rfl (l' := #[vI p0, vI p1, vI p2, vA b2, vA b5, vA b12, .unset, .unset, .unset]) rfl ?_
    refine XS.aloadN X14.here hx rfl (hb hby at_26) rfl rfl ?_
    refine XS.iconst X14.here hx rfl (hb hby at_27) ?_
    refine st19 _ ?_
    show Steps _ _ _ (T19.setTop (mkF m 31 #[vI p0, vI p1, vI p2, vA b2, vA b5, vA b12, .unset, .unset, .unset] [(.int 1)])) _
    refine XS.istore X19.here hx rfl (hb hby at_31) rfl (l' := #[vI p0, vI p1, vI p2, vA b2, vA b5, vA b12, vI 1, .unset, .unset]) rfl ?_
    refine XS.iconst X19.here hx rfl (hb hby at_33) ?_
    refine XS.istore X19.here hx rfl (hb hby at_34) rfl (l' := #[vI p0, vI p1, vI p2, vA b2, vA b5, vA b12, vI 1, vI 1, .unset]) rfl ?_
    refine XS.iloadN X19.here hx rfl (hb hby at_36) rfl ?_
    refine XS.aload X19.here hx rfl (hb hby at_37) rfl rfl ?_
    refine XS.aload X19.here hx rfl (hb hby at_39) rfl rfl ?_
    refine XS.iload X19.here hx rfl (hb hby at_41) rfl ?_
    refine st28 _ ?_
    show Steps _ _ _ (T28.setTop (mkF m 46 #[vI p0, vI p1, vI p2, vA b2, vA b5, vA b12, vI 1, vI 1, .unset] [(.ref b12)])) _
    refine XS.astore X28.here hx rfl (hb hby at_46) rfl rfl (l' := #[vI p0, vI p1, vI p2, vA b2, vA b5, vA b12, vI 1, vI 1, vA b12]) rfl ?_
    refine XS.aloadN X28.here hx rfl (hb hby at_48) rfl rfl ?_
    refine XS.aload X28.here hx rfl (hb hby at_49) rfl rfl ?_
    refine st29.trans ?_
    show Steps _ _ _ (T29.setTop (mkF m 54 #[vI p0, vI p1, vI p2, vA b2, vA b5, vA b12, vI 1, vI 1, vA b12] [])) _
    refine XS.iload X29.here hx rfl (hb hby at_54) rfl ?_
    refine XS.ifNo X29.here hx rfl (hb hby at_56) rfl ((if0 _ _).trans (feq ((by decide) : ¬ ((1 : Int32) = (0 : Int32)))).1) ?_
    refine XS.aload X29.here hx rfl (hb hby at_59) rfl rfl ?_
    refine XS.ifnonnullYes X29.here hx rfl (pc0 := 61) (pc' := 68) rfl (hb hby at_61) rfl (by decide) (by decide) ?_
    refine XS.iconst X29.here hx rfl (hb hby at_68) ?_
    refine XS.istore X29.here hx rfl (hb hby at_69) rfl (l' := #[vI p0, vI p1, vI p2, vA b2, vA b5, vA b12, vI 1, vI 0, vA b12]) rfl ?_
    refine XS.iload X29.here hx rfl (hb hby at_71) rfl ?_
    refine XS.ifNo X29.here hx rfl (hb hby at_73) rfl ((if0 _ _).trans (feq ((by decide) : ¬ ((1 : Int32) = (0 : Int32)))).1) ?_
    refine XS.aloadN X29.here hx rfl (hb hby at_76) rfl rfl ?_
    refine XS.iload X29.here hx rfl (hb hby at_77) rfl ?_
    refine st32 _ ?_
    show Steps _ _ _ (T32.setTop (mkF m 82 #[vI p0, vI p1, vI p2, vA b2, vA b5, vA b12, vI 1, vI 0, vA b12] [(.int 1)])) _
    refine XS.ifNo X32.here hx rfl (hb hby at_82) rfl ((if0 _ _).trans (feq ((by decide) : ¬ ((1 : Int32) = (0 : Int32)))).1) ?_
    refine XS.iconst X32.here hx rfl (hb hby at_85) ?_
    refine XS.goto X32.here hx rfl (pc0 := 86) (pc' := 90) rfl (hb hby at_86) (by decide) (by decide) ?_
    refine XS.istore X32.here hx rfl (hb hby at_90) rfl (l' := #[vI p0, vI p1, vI p2, vA b2, vA b5, vA b12, vI 1, vI 0, vA b12]) rfl ?_
    refine XS.iloadN X32.here hx rfl (hb hby at_92) rfl ?_
    refine XS.aload X32.here hx rfl (hb hby at_93) rfl rfl ?_
    refine XS.aload X32.here hx rfl (hb hby at_95) rfl rfl ?_
    refine XS.iload X32.here hx rfl (hb hby at_97) rfl ?_
    refine st33 _ ?_
    show Steps _ _ _ (T33.setTop (mkF m 102 #[vI p0, vI p1, vI p2, vA b2, vA b5, vA b12, vI 1, vI 0, vA b12] [(.ref b12)])) _
    refine XS.astore X33.here hx rfl (hb hby at_102) rfl rfl (l' := #[vI p0, vI p1, vI p2, vA b2, vA b5, vA b12, vI 1, vI 0, vA b12]) rfl ?_
    refine XS.aloadN X33.here hx rfl (hb hby at_104) rfl rfl ?_
    refine XS.aload X33.here hx rfl (hb hby at_105) rfl rfl ?_
    refine st34.trans ?_
    show Steps _ _ _ (T34.setTop (mkF m 110 #[vI p0, vI p1, vI p2, vA b2, vA b5, vA b12, vI 1, vI 0, vA b12] [])) _
    refine XS.iload X34.here hx rfl (hb hby at_110) rfl ?_
    refine XS.ifYes X34.here hx rfl (pc0 := 112) (pc' := 124) rfl (hb hby at_112) rfl ((if0 _ _).trans (teq ((by decide) : (0 : Int32) = (0 : Int32))).1) (by decide) (by decide) ?_
    refine XS.iconst X34.here hx rfl (hb hby at_124) ?_
    refine XS.istore X34.here hx rfl (hb hby at_125) rfl (l' := #[vI p0, vI p1, vI p2, vA b2, vA b5, vA b12, vI 1, vI 0, vA b12]) rfl ?_
    refine XS.iload X34.here hx rfl (hb hby at_127) rfl ?_
    refine XS.ifNo X34.here hx rfl (hb hby at_129) rfl ((if0 _ _).trans (feq ((by decide) : ¬ ((1 : Int32) = (0 : Int32)))).1) ?_
    refine XS.aloadN X34.here hx rfl (hb hby at_132) rfl rfl ?_
    refine XS.iload X34.here hx rfl (hb hby at_133) rfl ?_
    refine st35 _ ?_
    show Steps _ _ _ (T35.setTop (mkF m 138 #[vI p0, vI p1, vI p2, vA b2, vA b5, vA b12, vI 1, vI 0, vA b12] [(.int 1)])) _
    refine XS.ifNo X35.here hx rfl (hb hby at_138) rfl ((if0 _ _).trans (feq ((by decide) : ¬ ((1 : Int32) = (0 : Int32)))).1) ?_
    refine XS.iconst X35.here hx rfl (hb hby at_141) ?_
    refine XS.goto X35.here hx rfl (pc0 := 142) (pc' := 146) rfl (hb hby at_142) (by decide) (by decide) ?_
    refine XS.istore X35.here hx rfl (hb hby at_146) rfl (l' := #[vI p0, vI p1, vI p2, vA b2, vA b5, vA b12, vI 1, vI 0, vA b12]) rfl ?_
    refine XS.iloadN X35.here hx rfl (hb hby at_148) rfl ?_
    refine XS.aload X35.here hx rfl (hb hby at_149) rfl rfl ?_
    refine XS.aload X35.here hx rfl (hb hby at_151) rfl rfl ?_
    refine XS.iload X35.here hx rfl (hb hby at_153) rfl ?_
    refine st36 _ ?_
    show Steps _ _ _ (T36.setTop (mkF m 158 #[vI p0, vI p1, vI p2, vA b2, vA b5, vA b12, vI 1, vI 0, vA b12] [(.ref b5)])) _
    refine XS.astore X36.here hx rfl (hb hby at_158) rfl rfl (l' := #[vI p0, vI p1, vI p2, vA b2, vA b5, vA b12, vI 1, vI 0, vA b5]) rfl ?_
    refine XS.aloadN X36.here hx rfl (hb hby at_160) rfl rfl ?_
    refine XS.aload X36.here hx rfl (hb hby at_161) rfl rfl ?_
    refine st37.trans ?_
    show Steps _ _ _ (T37.setTop (mkF m 166 #[vI p0, vI p1, vI p2, vA b2, vA b5, vA b12, vI 1, vI 0, vA b5] [])) _
    refine XS.iload X37.here hx rfl (hb hby at_166) rfl ?_
    refine XS.ifYes X37.here hx rfl (pc0 := 168) (pc' := 180) rfl (hb hby at_168) rfl ((if0 _ _).trans (teq ((by decide) : (0 : Int32) = (0 : Int32))).1) (by decide) (by decide) ?_
    refine XS.iconst X37.here hx rfl (hb hby at_180) ?_
    refine XS.istore X37.here hx rfl (hb hby at_181) rfl (l' := #[vI p0, vI p1, vI p2, vA b2, vA b5, vA b12, vI 1, vI 0, vA b5]) rfl ?_
    refine XS.iload X37.here hx rfl (hb hby at_183) rfl ?_
    refine XS.ifNo X37.here hx rfl (hb hby at_185) rfl ((if0 _ _).trans (feq ((by decide) : ¬ ((1 : Int32) = (0 : Int32)))).1) ?_
    refine XS.aloadN X37.here hx rfl (hb hby at_188) rfl rfl ?_
    refine XS.iload X37.here hx rfl (hb hby at_189) rfl ?_
    refine st54 _ ?_
    show Steps _ _ _ (T54.setTop (mkF m 194 #[vI p0, vI p1, vI p2, vA b2, vA b5, vA b12, vI 1, vI 0, vA b5] [(.int 1)])) _
    refine XS.ifNo X54.here hx rfl (hb hby at_194) rfl ((if0 _ _).trans (feq ((by decide) : ¬ ((1 : Int32) = (0 : Int32)))).1) ?_
    refine XS.iconst X54.here hx rfl (hb hby at_197) ?_
    refine XS.goto X54.here hx rfl (pc0 := 198) (pc' := 202) rfl (hb hby at_198) (by decide) (by decide) ?_
    refine XS.istore X54.here hx rfl (hb hby at_202) rfl (l' := #[vI p0, vI p1, vI p2, vA b2, vA b5, vA b12, vI 1, vI 0, vA b5]) rfl ?_
    refine XS.iload X54.here hx rfl (hb hby at_204) rfl ?_
    exact retN X54 hx (t := .boolean) Bd.returns (by simp) (hb hby at_206) hr
  · show Q_law Z p0 p1 p2 su sn mo h0 n0 _ T54.heap _
    rw [(Kq54 : T54.heap = T37.heap)]
    exact ⟨rfl, N54⟩
theorem rm_law_222 (l : Launch) (Z : State) (a0 : Array Value) (hw : HW Z a0) (ws : List Jvm.Cond) (p0 : Int32) (p1 : Int32) (p2 : Int32) (su : Addr) (sn : Addr) (mo : Addr) (h0 : Heap) (n0 : Nat) (Z0 : n0 ≤ h0.size) (P0 : Old Z n0 h0) (P1 : sta0 Z (.ref su)) (P2 : sta1 Z (.ref sn)) (P3 : Mi Z "[Ljava/lang/Object;" mo) (P4 : Exa Z h0 sn "java/util/Collections$EmptyList") (hst : l.stackTraces = true) (q0 : ¬ ((p0 &&& (3 : Int32)) = (0 : Int32))) (w0 : (p0 &&& (3 : Int32)) = (2 : Int32)) (w1 : (p1 &&& (3 : Int32)) = (2 : Int32)) (w2 : (p2 &&& (3 : Int32)) = (2 : Int32)) :
    MetFree l x (head1 (Jvm.Cond.code x code maxLocals ret :: ws) room_1) (fun as' U => as' = #[(.int p0), (.int p1), (.int p2)] ∧ Z.Warmed39 U.vm ∧ U.heap = h0) (fun _ _ bl s _ => s.vm.MethodsKnown ∧ s.vm.FramesKnown bl) (fun _ U o U' => ∃ v L, o = .returned v ∧ Q_law Z p0 p1 p2 su sn mo h0 n0 v U'.heap L ∧ ReturnedEndW U o U' L room_1.cells room_1.slots) := by
  refine MetFree.of_bodySF (plainFor_of_name pn_12) hisR ?_
  intro p e s m args below meth c s₁ Bd hml0 hP hK
  obtain ⟨hTK, hBl⟩ := hK
  obtain ⟨rfl, hZ, hh⟩ := hP
  have hx := Bd.exec
  have hby := Bd.bytes
  have hml : c.maxLocals = 9 := hml0
  have hown : (s.setVm s.vm).vm.findClass "com/example/maat/maat/FailuresIsEmptyPinLaw" = some m.cls := findClass_of_methodNamed Bd.named
  have hnm := (name_of_methodNamed Bd.named Bd.method).1
  have X0 : Stand p l e room_1 (s.setVm s.vm) m #[(.int p0), (.int p1), (.int p2)] below meth c s₁ [] 0 0 := Stand.of_body Bd
  have e0 : s₁.heap = h0 := by rw [← hh, Bd.state]; rfl
  have N0 := Fr.nil n0
  have hZ : Z.Warmed39 (s.setVm s.vm).vm := hZ
  have hS0 : s.Since s.vm h0.size := (State.WarmedH.refl s).since _
  have hk0 : h0.size ≤ h0.size := Nat.le_refl _
  have lt1 := own_l P4.lt
  obtain ⟨T2, h2, X2, e2, E2, A2, D2, -, st2⟩ := newO X0 hx hZ hown (w_0 hw) (w_1 hw) (w_2 hw) e0 (g := (mkF m 0 #[vI p0, vI p1, vI p2, .unset, .unset, .unset, .unset, .unset, .unset] [])) rfl (hb hby at_0) (by decide) (by decide)
  obtain ⟨b2, g2⟩ : ∃ z, z = h0.size := ⟨_, rfl⟩
  rw [← g2] at A2 D2 st2
  have z2 := E2.1
  have lt3 := own_l A2.lt
  have F2_70 : Fld Z h2 b2 "com/example/maat/maat/Failures" "first" "Ljava/lang/Throwable;" .null := D2 (Or.inl (w_70 hw)) (ty := (.object "java/lang/Throwable")) (by decide)
  obtain ⟨_, _, ⟨T4, L4, k4, n4⟩, -, X4, ⟨Lc4, hQ4, l4, y4, z4⟩, st4⟩ := X2.specialBack hx (y := m_23) rfl hown (mvT hZ (w_3 hw)) (mvT hZ (w_4 hw)) (mvT hZ (w_5 hw)) (by decide) (backOf (W := 1) (rm_fin l Z a0 hw [] b2 h2 n0 (by omega) ) hZ (w_5 hw) (w_2 hw) (by decide) (by decide)) (g := (mkF m 4 #[vI p0, vI p1, vI p2, .unset, .unset, .unset, .unset, .unset, .unset] [(.ref b2), (.ref b2)])) rfl (by rw [hml]; rfl) (Steps.refl _) (a := b2) (argsL := []) (rest := [(.ref b2)]) (lenOf pd_0 rfl) rfl (Nat.le_of_eq rfl) (hb hby at_4) (fun _ _ => ⟨rfl, e2, (by decide : 1 + 0 ≤ _), (by decide : 1 + 0 ≤ _)⟩)
  dsimp only [Pt.U, Pt.locs, Pt.cells, Pt.slots] at X4 l4 y4 z4 st4 hQ4
  rw [l4, y4, z4] at X4
  obtain ⟨rfl, Nq4, Kq4⟩ := hQ4
  have N4 := Fr.app N0 Nq4
  obtain ⟨T5, h5, X5, e5, E5, A5, D5, U5, st5⟩ := newO X4 hx hZ hown (w_9 hw) (w_10 hw) (w_11 hw) Kq4 (g := (mkF m 8 #[vI p0, vI p1, vI p2, vA b2, .unset, .unset, .unset, .unset, .unset] [])) rfl (hb hby at_8) (by decide) (by decide)
  obtain ⟨b5, g5⟩ : ∃ z, z = h2.size := ⟨_, rfl⟩
  rw [← g5] at A5 D5 U5 st5
  have z5 := E5.1
  have lt6 := own_l A5.lt
  replace U5 : Unt h5 b5 := U5
  have F5_29 : Fld Z h5 b5 "java/lang/Throwable" "cause" "Ljava/lang/Throwable;" .null := D5 (Or.inl (w_29 hw)) (ty := (.object "java/lang/Throwable")) (by decide)
  have F5_32 : Fld Z h5 b5 "java/lang/Throwable" "stackTrace" "[Ljava/lang/StackTraceElement;" .null := D5 (Or.inl (w_32 hw)) (ty := (.array (.object "java/lang/StackTraceElement"))) (by decide)
  have F5_35 : Fld Z h5 b5 "java/lang/Throwable" "suppressedExceptions" "Ljava/util/List;" .null := D5 (Or.inl (w_35 hw)) (ty := (.object "java/util/List")) (by decide)
  have F5_56 : Fld Z h5 b5 "java/lang/Throwable" "detailMessage" "Ljava/lang/String;" .null := D5 (Or.inl (w_56 hw)) (ty := (.object "java/lang/String")) (by decide)
  have F5_57 : Fld Z h5 b5 "java/lang/Throwable" "backtrace" "Ljava/lang/Object;" .null := D5 (Or.inl (w_57 hw)) (ty := (.object "java/lang/Object")) (by decide)
  have F5_58 : Fld Z h5 b5 "java/lang/Throwable" "depth" "I" (.int 0) := D5 (Or.inl (w_58 hw)) (ty := .int) (by decide)
  have f8 := P0.ext E2
  have f9 := f8.ext E5
  obtain ⟨_, _, ⟨T7, L7, k7, n7⟩, -, X7, ⟨Lc7, hQ7, l7, y7, z7⟩, st7⟩ := X5.specialBack hx (y := m_5) rfl hown (mvT hZ (w_12 hw)) (mvT hZ (w_13 hw)) (mvT hZ (w_14 hw)) (by decide) (backOfKL (W := 1) (rm_rti l Z a0 hw [] b5 su sn h5 n0 (by omega) f9 P1 P2 A5 U5 F5_29 F5_32 F5_35 F5_57 F5_58 (by omega) hst) hZ (w_14 hw) (w_11 hw) (by decide) (by decide) hTK hBl) (g := (mkF m 12 #[vI p0, vI p1, vI p2, vA b2, .unset, .unset, .unset, .unset, .unset] [(.ref b5), (.ref b5)])) rfl (by rw [hml]; rfl) (Steps.refl _) (a := b5) (argsL := []) (rest := [(.ref b5)]) (lenOf pd_0 rfl) rfl (Nat.le_of_eq rfl) (hb hby at_12) (fun _ _ => ⟨rfl, e5, (by decide : 2 + 1 ≤ _), (by decide : 7 + 2752 ≤ _)⟩)
  dsimp only [Pt.U, Pt.locs, Pt.cells, Pt.slots] at X7 l7 y7 z7 st7 hQ7
  rw [l7, y7, z7] at X7
  obtain ⟨rfl, Nq7, Kq7, r7_0, r7_1, r7_2⟩ := hQ7
  have N7 := Fr.app N4 Nq7
  have z7' := Kq7.1
  have lt10 := own_l r7_0.lt
  have lt11 := own_l r7_2.lt
  obtain ⟨T12, h12, X12, e12, E12, A12, D12, U12, st12⟩ := newO X7 hx hZ hown (w_9 hw) (w_10 hw) (w_11 hw) rfl (g := (mkF m 17 #[vI p0, vI p1, vI p2, vA b2, vA b5, .unset, .unset, .unset, .unset] [])) rfl (hb hby at_17) (by decide) (by decide)
  obtain ⟨b12, g12⟩ : ∃ z, z = T7.heap.size := ⟨_, rfl⟩
  rw [← g12] at A12 D12 U12 st12
  have z12 := E12.1
  have lt13 := own_l A12.lt
  replace U12 : Unt h12 b12 := U12
  have F12_29 : Fld Z h12 b12 "java/lang/Throwable" "cause" "Ljava/lang/Throwable;" .null := D12 (Or.inl (w_29 hw)) (ty := (.object "java/lang/Throwable")) (by decide)
  have F12_32 : Fld Z h12 b12 "java/lang/Throwable" "stackTrace" "[Ljava/lang/StackTraceElement;" .null := D12 (Or.inl (w_32 hw)) (ty := (.array (.object "java/lang/StackTraceElement"))) (by decide)
  have F12_35 : Fld Z h12 b12 "java/lang/Throwable" "suppressedExceptions" "Ljava/util/List;" .null := D12 (Or.inl (w_35 hw)) (ty := (.object "java/util/List")) (by decide)
  have F12_56 : Fld Z h12 b12 "java/lang/Throwable" "detailMessage" "Ljava/lang/String;" .null := D12 (Or.inl (w_56 hw)) (ty := (.object "java/lang/String")) (by decide)
  have F12_57 : Fld Z h12 b12 "java/lang/Throwable" "backtrace" "Ljava/lang/Object;" .null := D12 (Or.inl (w_57 hw)) (ty := (.object "java/lang/Object")) (by decide)
  have F12_58 : Fld Z h12 b12 "java/lang/Throwable" "depth" "I" (.int 0) := D12 (Or.inl (w_58 hw)) (ty := .int) (by decide)
  have f15 := f9.keep Kq7 (allS (by omega) all0)
  have f16 := f15.ext E12
  obtain ⟨_, _, ⟨T14, L14, k14, n14⟩, -, X14, ⟨Lc14, hQ14, l14, y14, z14⟩, st14⟩ := X12.specialBack hx (y := m_5) rfl hown (mvT hZ (w_12 hw)) (mvT hZ (w_13 hw)) (mvT hZ (w_14 hw)) (by decide) (backOfKL (W := 1) (rm_rti l Z a0 hw [] b12 su sn h12 n0 (by omega) f16 P1 P2 A12 U12 F12_29 F12_32 F12_35 F12_57 F12_58 (by omega) hst) hZ (w_14 hw) (w_11 hw) (by decide) (by decide) hTK hBl) (g := (mkF m 21 #[vI p0, vI p1, vI p2, vA b2, vA b5, .unset, .unset, .unset, .unset] [(.ref b12), (.ref b12)])) rfl (by rw [hml]; rfl) (Steps.refl _) (a := b12) (argsL := []) (rest := [(.ref b12)]) (lenOf pd_0 rfl) rfl (Nat.le_of_eq rfl) (hb hby at_21) (fun _ _ => ⟨rfl, e12, (by decide : 4 + 1 ≤ _), (by decide : 2765 + 2752 ≤ _)⟩)
  dsimp only [Pt.U, Pt.locs, Pt.cells, Pt.slots] at X14 l14 y14 z14 st14 hQ14
  rw [l14, y14, z14] at X14
  obtain ⟨rfl, Nq14, Kq14, r14_0, r14_1, r14_2⟩ := hQ14
  have N14 := Fr.app N7 Nq14
  have z14' := Kq14.1
  have lt17 := own_l r14_0.lt
  have lt18 := own_l r14_2.lt
  have f20 := A2.ext E5
  have f21 := f20.keep Kq7
  have f22 := f21.ext E12
  have f23 := f22.keep Kq14
  have f24 := F2_70.ext E5
  have f25 := f24.keep Kq7 (ninS (own_ne (by omega)) nin0)
  have f26 := f25.ext E12
  have f27 := f26.keep Kq14 (ninS (own_ne (by omega)) nin0)
  obtain ⟨_, _, ⟨T19, L19, k19, n19⟩, -, X19, ⟨Lc19, hQ19, l19, y19, z19⟩, st19⟩ := Jvm.LawKit.callS X14 hx (y := m_26) hown (mvT hZ (w_60 hw)) (mvT hZ (w_61 hw)) (mvT hZ (w_62 hw)) (mvT hZ (w_63 hw)) (by decide) (backOf (W := 0) (rm_agn l Z a0 hw [] b2 T14.heap n0 (by omega) f23 f27) hZ (w_63 hw) (w_62 hw) (by decide) (by decide)) (g := (mkF m 28 #[vI p0, vI p1, vI p2, vA b2, vA b5, vA b12, .unset, .unset, .unset] [(.int 1), (.ref b2)])) rfl (by rw [hml]; rfl) (argsL := [(.ref b2), (.int 1)]) (rest := []) (lenOf pd_14 rfl) rfl (Nat.le_of_eq rfl) (hb hby at_28) (fun _ _ => ⟨rfl, rfl, (by decide : 5 + 0 ≤ _), (by decide : 5517 + 0 ≤ _)⟩)
  dsimp only [Pt.U, Pt.locs, Pt.cells, Pt.slots] at X19 l19 y19 z19 st19 hQ19
  rw [l19, y19, z19] at X19
  obtain ⟨rfl, Nq19, Kq19⟩ := hQ19
  have N19 := Fr.app N14 Nq19
  obtain ⟨_, _, ⟨T28, L28, k28, n28⟩, -, X28, ⟨Lc28, hQ28, l28, y28, z28⟩, st28⟩ := Jvm.LawKit.callS X19 hx (y := m_28) hown (mvT hZ (w_76 hw)) (mvT hZ (w_77 hw)) (mvT hZ (w_62 hw)) (mvT hZ (w_78 hw)) (by decide) (backOf (W := 0) (rm_pk2e l Z a0 hw [] p0 b5 b12 T14.heap n0 (by omega) q0 w0) hZ (w_78 hw) (w_62 hw) (by decide) (by decide)) (g := (mkF m 43 #[vI p0, vI p1, vI p2, vA b2, vA b5, vA b12, vI 1, vI 1, .unset] [(.int 1), (.ref b12), (.ref b5), (.int p0)])) rfl (by rw [hml]; rfl) (argsL := [(.int p0), (.ref b5), (.ref b12), (.int 1)]) (rest := []) (lenOf pd_15 rfl) rfl (Nat.le_of_eq rfl) (hb hby at_43) (fun _ _ => ⟨rfl, Kq19, (by decide : 5 + 0 ≤ _), (by decide : 5517 + 0 ≤ _)⟩)
  dsimp only [Pt.U, Pt.locs, Pt.cells, Pt.slots] at X28 l28 y28 z28 st28 hQ28
  rw [l28, y28, z28] at X28
  obtain ⟨rfl, Nq28, Kq28⟩ := hQ28
  have N28 := Fr.app N19 Nq28
  obtain ⟨cq29, kq29, qa29, qb29, qc29⟩ := isOf hZ Kq28 f23
  obtain ⟨_, _, ⟨T29, L29, k29, n29⟩, -, X29, ⟨Lc29, hQ29, l29, y29, z29⟩, st29⟩ := X28.virtualBack hx (y := m_27) (z := m_27) hown (mvT hZ (w_79 hw)) (mvT hZ (w_80 hw)) (notFace_of_selects (args := #[]) (mvT hZ (w_82 hw))) (mvT hZ (w_82 hw)) (mvT hZ (w_81 hw)) (by decide) (backOf (W := 0) (rm_far l Z a0 hw [] b2 b12 T14.heap n0 (by omega) f23 f27 (by omega)) hZ (w_83 hw) (w_2 hw) (by decide) (by decide)) qa29 qc29 (g := (mkF m 51 #[vI p0, vI p1, vI p2, vA b2, vA b5, vA b12, vI 1, vI 1, vA b12] [(.ref b12), (.ref b2)])) rfl (by rw [hml]; rfl) (Steps.refl _) (argsL := [(.ref b12)]) (rest := []) (lenOf pd_13 rfl) rfl (Nat.le_of_eq rfl) (hb hby at_51) (fun _ _ => ⟨rfl, Kq28, (by decide : 5 + 0 ≤ _), (by decide : 5517 + 0 ≤ _)⟩)
  dsimp only [Pt.U, Pt.locs, Pt.cells, Pt.slots] at X29 l29 y29 z29 st29 hQ29
  rw [l29, y29, z29] at X29
  obtain ⟨rfl, Nq29, Kq29, r29_0, r29_1⟩ := hQ29
  have N29 := Fr.app N28 Nq29
  have z29' := Kq29.1
  have lt30 := own_l r29_0.lt
  have lt31 := own_l r29_1.lt
  obtain ⟨_, _, ⟨T32, L32, k32, n32⟩, -, X32, ⟨Lc32, hQ32, l32, y32, z32⟩, st32⟩ := Jvm.LawKit.callS X29 hx (y := m_26) hown (mvT hZ (w_60 hw)) (mvT hZ (w_61 hw)) (mvT hZ (w_62 hw)) (mvT hZ (w_63 hw)) (by decide) (backOf (W := 0) (rm_agr l Z a0 hw [] b2 b12 T29.heap n0 (by omega) r29_0 r29_1) hZ (w_63 hw) (w_62 hw) (by decide) (by decide)) (g := (mkF m 79 #[vI p0, vI p1, vI p2, vA b2, vA b5, vA b12, vI 1, vI 0, vA b12] [(.int 0), (.ref b2)])) rfl (by rw [hml]; rfl) (argsL := [(.ref b2), (.int 0)]) (rest := []) (lenOf pd_14 rfl) rfl (Nat.le_of_eq rfl) (hb hby at_79) (fun _ _ => ⟨rfl, rfl, (by decide : 5 + 0 ≤ _), (by decide : 5517 + 0 ≤ _)⟩)
  dsimp only [Pt.U, Pt.locs, Pt.cells, Pt.slots] at X32 l32 y32 z32 st32 hQ32
  rw [l32, y32, z32] at X32
  obtain ⟨rfl, Nq32, Kq32⟩ := hQ32
  have N32 := Fr.app N29 Nq32
  obtain ⟨_, _, ⟨T33, L33, k33, n33⟩, -, X33, ⟨Lc33, hQ33, l33, y33, z33⟩, st33⟩ := Jvm.LawKit.callS X32 hx (y := m_28) hown (mvT hZ (w_76 hw)) (mvT hZ (w_77 hw)) (mvT hZ (w_62 hw)) (mvT hZ (w_78 hw)) (by decide) (backOf (W := 0) (rm_pk2 l Z a0 hw [] p1 b5 b12 T29.heap n0 (by omega) (own_20 w1) w1) hZ (w_78 hw) (w_62 hw) (by decide) (by decide)) (g := (mkF m 99 #[vI p0, vI p1, vI p2, vA b2, vA b5, vA b12, vI 1, vI 0, vA b12] [(.int 0), (.ref b12), (.ref b5), (.int p1)])) rfl (by rw [hml]; rfl) (argsL := [(.int p1), (.ref b5), (.ref b12), (.int 0)]) (rest := []) (lenOf pd_15 rfl) rfl (Nat.le_of_eq rfl) (hb hby at_99) (fun _ _ => ⟨rfl, Kq32, (by decide : 5 + 0 ≤ _), (by decide : 5517 + 0 ≤ _)⟩)
  dsimp only [Pt.U, Pt.locs, Pt.cells, Pt.slots] at X33 l33 y33 z33 st33 hQ33
  rw [l33, y33, z33] at X33
  obtain ⟨rfl, Nq33, Kq33⟩ := hQ33
  have N33 := Fr.app N32 Nq33
  obtain ⟨cq34, kq34, qa34, qb34, qc34⟩ := isOf hZ Kq33 r29_0
  obtain ⟨_, _, ⟨T34, L34, k34, n34⟩, -, X34, ⟨Lc34, hQ34, l34, y34, z34⟩, st34⟩ := X33.virtualBack hx (y := m_27) (z := m_27) hown (mvT hZ (w_79 hw)) (mvT hZ (w_80 hw)) (notFace_of_selects (args := #[]) (mvT hZ (w_82 hw))) (mvT hZ (w_82 hw)) (mvT hZ (w_81 hw)) (by decide) (backOf (W := 0) (rm_fas l Z a0 hw [] b2 b12 T29.heap n0 (by omega) r29_0 r29_1) hZ (w_83 hw) (w_2 hw) (by decide) (by decide)) qa34 qc34 (g := (mkF m 107 #[vI p0, vI p1, vI p2, vA b2, vA b5, vA b12, vI 1, vI 0, vA b12] [(.ref b12), (.ref b2)])) rfl (by rw [hml]; rfl) (Steps.refl _) (argsL := [(.ref b12)]) (rest := []) (lenOf pd_13 rfl) rfl (Nat.le_of_eq rfl) (hb hby at_107) (fun _ _ => ⟨rfl, Kq33, (by decide : 5 + 0 ≤ _), (by decide : 5517 + 0 ≤ _)⟩)
  dsimp only [Pt.U, Pt.locs, Pt.cells, Pt.slots] at X34 l34 y34 z34 st34 hQ34
  rw [l34, y34, z34] at X34
  obtain ⟨rfl, Nq34, Kq34⟩ := hQ34
  have N34 := Fr.app N33 Nq34
  obtain ⟨_, _, ⟨T35, L35, k35, n35⟩, -, X35, ⟨Lc35, hQ35, l35, y35, z35⟩, st35⟩ := Jvm.LawKit.callS X34 hx (y := m_26) hown (mvT hZ (w_60 hw)) (mvT hZ (w_61 hw)) (mvT hZ (w_62 hw)) (mvT hZ (w_63 hw)) (by decide) (backOf (W := 0) (rm_agr l Z a0 hw [] b2 b12 T29.heap n0 (by omega) r29_0 r29_1) hZ (w_63 hw) (w_62 hw) (by decide) (by decide)) (g := (mkF m 135 #[vI p0, vI p1, vI p2, vA b2, vA b5, vA b12, vI 1, vI 0, vA b12] [(.int 0), (.ref b2)])) rfl (by rw [hml]; rfl) (argsL := [(.ref b2), (.int 0)]) (rest := []) (lenOf pd_14 rfl) rfl (Nat.le_of_eq rfl) (hb hby at_135) (fun _ _ => ⟨rfl, Kq34, (by decide : 5 + 0 ≤ _), (by decide : 5517 + 0 ≤ _)⟩)
  dsimp only [Pt.U, Pt.locs, Pt.cells, Pt.slots] at X35 l35 y35 z35 st35 hQ35
  rw [l35, y35, z35] at X35
  obtain ⟨rfl, Nq35, Kq35⟩ := hQ35
  have N35 := Fr.app N34 Nq35
  obtain ⟨_, _, ⟨T36, L36, k36, n36⟩, -, X36, ⟨Lc36, hQ36, l36, y36, z36⟩, st36⟩ := Jvm.LawKit.callS X35 hx (y := m_28) hown (mvT hZ (w_76 hw)) (mvT hZ (w_77 hw)) (mvT hZ (w_62 hw)) (mvT hZ (w_78 hw)) (by decide) (backOf (W := 0) (rm_pk2 l Z a0 hw [] p2 b5 b12 T29.heap n0 (by omega) (own_20 w2) w2) hZ (w_78 hw) (w_62 hw) (by decide) (by decide)) (g := (mkF m 155 #[vI p0, vI p1, vI p2, vA b2, vA b5, vA b12, vI 1, vI 0, vA b12] [(.int 0), (.ref b12), (.ref b5), (.int p2)])) rfl (by rw [hml]; rfl) (argsL := [(.int p2), (.ref b5), (.ref b12), (.int 0)]) (rest := []) (lenOf pd_15 rfl) rfl (Nat.le_of_eq rfl) (hb hby at_155) (fun _ _ => ⟨rfl, Kq35, (by decide : 5 + 0 ≤ _), (by decide : 5517 + 0 ≤ _)⟩)
  dsimp only [Pt.U, Pt.locs, Pt.cells, Pt.slots] at X36 l36 y36 z36 st36 hQ36
  rw [l36, y36, z36] at X36
  obtain ⟨rfl, Nq36, Kq36⟩ := hQ36
  have N36 := Fr.app N35 Nq36
  obtain ⟨cq37, kq37, qa37, qb37, qc37⟩ := isOf hZ Kq36 r29_0
  obtain ⟨_, _, ⟨T37, L37, k37, n37⟩, -, X37, ⟨Lc37, hQ37, l37, y37, z37⟩, st37⟩ := X36.virtualBack hx (y := m_27) (z := m_27) hown (mvT hZ (w_79 hw)) (mvT hZ (w_80 hw)) (notFace_of_selects (args := #[]) (mvT hZ (w_82 hw))) (mvT hZ (w_82 hw)) (mvT hZ (w_81 hw)) (by decide) (backOf (W := 0) (rm_fas l Z a0 hw [] b2 b12 T29.heap n0 (by omega) r29_0 r29_1) hZ (w_83 hw) (w_2 hw) (by decide) (by decide)) qa37 qc37 (g := (mkF m 163 #[vI p0, vI p1, vI p2, vA b2, vA b5, vA b12, vI 1, vI 0, vA b12] [(.ref b12), (.ref b2)])) rfl (by rw [hml]; rfl) (Steps.refl _) (argsL := [(.ref b12)]) (rest := []) (lenOf pd_13 rfl) rfl (Nat.le_of_eq rfl) (hb hby at_163) (fun _ _ => ⟨rfl, Kq36, (by decide : 5 + 0 ≤ _), (by decide : 5517 + 0 ≤ _)⟩)
  dsimp only [Pt.U, Pt.locs, Pt.cells, Pt.slots] at X37 l37 y37 z37 st37 hQ37
  rw [l37, y37, z37] at X37
  obtain ⟨rfl, Nq37, Kq37⟩ := hQ37
  have N37 := Fr.app N36 Nq37
  obtain ⟨_, _, ⟨T38, L38, k38, n38⟩, -, X38, ⟨Lc38, hQ38, l38, y38, z38⟩, st38⟩ := Jvm.LawKit.callS X37 hx (y := m_26) hown (mvT hZ (w_60 hw)) (mvT hZ (w_61 hw)) (mvT hZ (w_62 hw)) (mvT hZ (w_63 hw)) (by decide) (backOf (W := 0) (rm_agr l Z a0 hw [] b2 b12 T29.heap n0 (by omega) r29_0 r29_1) hZ (w_63 hw) (w_62 hw) (by decide) (by decide)) (g := (mkF m 191 #[vI p0, vI p1, vI p2, vA b2, vA b5, vA b12, vI 1, vI 0, vA b12] [(.int 0), (.ref b2)])) rfl (by rw [hml]; rfl) (argsL := [(.ref b2), (.int 0)]) (rest := []) (lenOf pd_14 rfl) rfl (Nat.le_of_eq rfl) (hb hby at_191) (fun _ _ => ⟨rfl, Kq37, (by decide : 5 + 0 ≤ _), (by decide : 5517 + 0 ≤ _)⟩)
  dsimp only [Pt.U, Pt.locs, Pt.cells, Pt.slots] at X38 l38 y38 z38 st38 hQ38
  rw [l38, y38, z38] at X38
  obtain ⟨rfl, Nq38, Kq38⟩ := hQ38
  have N38 := Fr.app N37 Nq38
  obtain ⟨fs, hr, hrun, hended, hEnd⟩ := X38.leaveW hS0 (by first | omega | (rw [(Kq38 : T38.heap = T29.heap)]; omega)) (v := some (.int 1)) (fun h => by rw [Bd.returns] at h; cases h)
  refine ⟨_, _, castTop (ef_10 m p0 p1 p2) ?_, hrun, hended, _, _, rfl, ?_, hEnd.1, hEnd.2.1, hEnd.2.2.1, hEnd.2.2.2.mono (by decide) (by decide)⟩
  · show Steps _ _ _ (s₁.setTop (mkF m 0 #[vI p0, vI p1, vI p2, .unset, .unset, .unset, .unset, .unset, .unset] [])) _
    refine st2 _ ?_
    show Steps _ _ _ (T2.setTop (mkF m 3 #[vI p0, vI p1, vI p2, .unset, .unset, .unset, .unset, .unset, .unset] [(.ref b2)])) _
    refine XS.dup X2.here hx rfl (hb hby at_3) rfl rfl ?_
    refine st4.trans ?_
    show Steps _ _ _ (T4.setTop (mkF m 7 #[vI p0, vI p1, vI p2, .unset, .unset, .unset, .unset, .unset, .unset] [(.ref b2)])) _
    refine XS.astoreN X4.here hx rfl (hb hby at_7) rfl rfl (l' := #[vI p0, vI p1, vI p2, vA b2, .unset, .unset, .unset, .unset, .unset]) rfl ?_
    refine st5 _ ?_
    show Steps _ _ _ (T5.setTop (mkF m 11 #[vI p0, vI p1, vI p2, vA b2, .unset, .unset, .unset, .unset, .unset] [(.ref b5)])) _
    refine XS.dup X5.here hx rfl (hb hby at_11) rfl rfl ?_
    refine st7.trans ?_
    show Steps _ _ _ (T7.setTop (mkF m 15 #[vI p0, vI p1, vI p2, vA b2, .unset, .unset, .unset, .unset, .unset] [(.ref b5)])) _
    refine XS.astore X7.here hx rfl (hb hby at_15) rfl rfl (l' := #[vI p0, vI p1, vI p2, vA b2, vA b5, .unset, .unset, .unset, .unset]) rfl ?_
    refine st12 _ ?_
    show Steps _ _ _ (T12.setTop (mkF m 20 #[vI p0, vI p1, vI p2, vA b2, vA b5, .unset, .unset, .unset, .unset] [(.ref b12)])) _
    refine XS.dup X12.here hx rfl (hb hby at_20) rfl rfl ?_
    refine st14.trans ?_
    show Steps _ _ _ (T14.setTop (mkF m 24 #[vI p0, vI p1, vI p2, vA b2, vA b5, .unset, .unset, .unset, .unset] [(.ref b12)])) _
    refine XS.astore X14.here hx rfl (hb hby at_24) rfl rfl (l' := #[vI p0, vI p1, vI p2, vA b2, vA b5, vA b12, .unset, .unset, .unset]) rfl ?_
    refine XS.aloadN X14.here hx rfl (hb hby at_26) rfl rfl ?_
    refine XS.iconst X14.here hx rfl (hb hby at_27) ?_
    refine st19 _ ?_
    show Steps _ _ _ (T19.setTop (mkF m 31 #[vI p0, vI p1, vI p2, vA b2, vA b5, vA b12, .unset, .unset, .unset] [(.int 1)])) _
    refine XS.istore X19.here hx rfl (hb hby at_31) rfl (l' := #[vI p0, vI p1, vI p2, vA b2, vA b5, vA b12, vI 1, .unset, .unset]) rfl ?_
    refine XS.iconst X19.here hx rfl (hb hby at_33) ?_
    refine XS.istore X19.here hx rfl (hb hby at_34) rfl (l' := #[vI p0, vI p1, vI p2, vA b2, vA b5, vA b12, vI 1, vI 1, .unset]) rfl ?_
    refine XS.iloadN X19.here hx rfl (hb hby at_36) rfl ?_
    refine XS.aload X19.here hx rfl (hb hby at_37) rfl rfl ?_
    refine XS.aload X19.here hx rfl (hb hby at_39) rfl rfl ?_
    refine XS.iload X19.here hx rfl (hb hby at_41) rfl ?_
    refine st28 _ ?_
    show Steps _ _ _ (T28.setTop (mkF m 46 #[vI p0, vI p1, vI p2, vA b2, vA b5, vA b12, vI 1, vI 1, .unset] [(.ref b12)])) _
    refine XS.astore X28.here hx rfl (hb hby at_46) rfl rfl (l' := #[vI p0, vI p1, vI p2, vA b2, vA b5, vA b12, vI 1, vI 1, vA b12]) rfl ?_
    refine XS.aloadN X28.here hx rfl (hb hby at_48) rfl rfl ?_
    refine XS.aload X28.here hx rfl (hb hby at_49) rfl rfl ?_
    refine st29.trans ?_
    show Steps _ _ _ (T29.setTop (mkF m 54 #[vI p0, vI p1, vI p2, vA b2, vA b5, vA b12, vI 1, vI 1, vA b12] [])) _
    refine XS.iload X29.here hx rfl (hb hby at_54) rfl ?_
    refine XS.ifNo X29.here hx rfl (hb hby at_56) rfl ((if0 _ _).trans (feq ((by decide) : ¬ ((1 : Int32) = (0 : Int32)))).1) ?_
    refine XS.aload X29.here hx rfl (hb hby at_59) rfl rfl ?_
    refine XS.ifnonnullYes X29.here hx rfl (pc0 := 61) (pc' := 68) rfl (hb hby at_61) rfl (by decide) (by decide) ?_
    refine XS.iconst X29.here hx rfl (hb hby at_68) ?_
    refine XS.istore X29.here hx rfl (hb hby at_69) rfl (l' := #[vI p0, vI p1, vI p2, vA b2, vA b5, vA b12, vI 1, vI 0, vA b12]) rfl ?_
    refine XS.iload X29.here hx rfl (hb hby at_71) rfl ?_
    refine XS.ifNo X29.here hx rfl (hb hby at_73) rfl ((if0 _ _).trans (feq ((by decide) : ¬ ((1 : Int32) = (0 : Int32)))).1) ?_
    refine XS.aloadN X29.here hx rfl (hb hby at_76) rfl rfl ?_
    refine XS.iload X29.here hx rfl (hb hby at_77) rfl ?_
    refine st32 _ ?_
    show Steps _ _ _ (T32.setTop (mkF m 82 #[vI p0, vI p1, vI p2, vA b2, vA b5, vA b12, vI 1, vI 0, vA b12] [(.int 1)])) _
    refine XS.ifNo X32.here hx rfl (hb hby at_82) rfl ((if0 _ _).trans (feq ((by decide) : ¬ ((1 : Int32) = (0 : Int32)))).1) ?_
    refine XS.iconst X32.here hx rfl (hb hby at_85) ?_
    refine XS.goto X32.here hx rfl (pc0 := 86) (pc' := 90) rfl (hb hby at_86) (by decide) (by decide) ?_
    refine XS.istore X32.here hx rfl (hb hby at_90) rfl (l' := #[vI p0, vI p1, vI p2, vA b2, vA b5, vA b12, vI 1, vI 0, vA b12]) rfl ?_
    refine XS.iloadN X32.here hx rfl (hb hby at_92) rfl ?_
    refine XS.aload X32.here hx rfl (hb hby at_93) rfl rfl ?_
    refine XS.aload X32.here hx rfl (hb hby at_95) rfl rfl ?_
    refine XS.iload X32.here hx rfl (hb hby at_97) rfl ?_
    refine st33 _ ?_
    show Steps _ _ _ (T33.setTop (mkF m 102 #[vI p0, vI p1, vI p2, vA b2, vA b5, vA b12, vI 1, vI 0, vA b12] [(.ref b12)])) _
    refine XS.astore X33.here hx rfl (hb hby at_102) rfl rfl (l' := #[vI p0, vI p1, vI p2, vA b2, vA b5, vA b12, vI 1, vI 0, vA b12]) rfl ?_
    refine XS.aloadN X33.here hx rfl (hb hby at_104) rfl rfl ?_
    refine XS.aload X33.here hx rfl (hb hby at_105) rfl rfl ?_
    refine st34.trans ?_
    show Steps _ _ _ (T34.setTop (mkF m 110 #[vI p0, vI p1, vI p2, vA b2, vA b5, vA b12, vI 1, vI 0, vA b12] [])) _
    refine XS.iload X34.here hx rfl (hb hby at_110) rfl ?_
    refine XS.ifYes X34.here hx rfl (pc0 := 112) (pc' := 124) rfl (hb hby at_112) rfl ((if0 _ _).trans (teq ((by decide) : (0 : Int32) = (0 : Int32))).1) (by decide) (by decide) ?_
    refine XS.iconst X34.here hx rfl (hb hby at_124) ?_
    refine XS.istore X34.here hx rfl (hb hby at_125) rfl (l' := #[vI p0, vI p1, vI p2, vA b2, vA b5, vA b12, vI 1, vI 0, vA b12]) rfl ?_
    refine XS.iload X34.here hx rfl (hb hby at_127) rfl ?_
    refine XS.ifNo X34.here hx rfl (hb hby at_129) rfl ((if0 _ _).trans (feq ((by decide) : ¬ ((1 : Int32) = (0 : Int32)))).1) ?_
    refine XS.aloadN X34.here hx rfl (hb hby at_132) rfl rfl ?_
    refine XS.iload X34.here hx rfl (hb hby at_133) rfl ?_
    refine st35 _ ?_
    show Steps _ _ _ (T35.setTop (mkF m 138 #[vI p0, vI p1, vI p2, vA b2, vA b5, vA b12, vI 1, vI 0, vA b12] [(.int 1)])) _
    refine XS.ifNo X35.here hx rfl (hb hby at_138) rfl ((if0 _ _).trans (feq ((by decide) : ¬ ((1 : Int32) = (0 : Int32)))).1) ?_
    refine XS.iconst X35.here hx rfl (hb hby at_141) ?_
    refine XS.goto X35.here hx rfl (pc0 := 142) (pc' := 146) rfl (hb hby at_142) (by decide) (by decide) ?_
    refine XS.istore X35.here hx rfl (hb hby at_146) rfl (l' := #[vI p0, vI p1, vI p2, vA b2, vA b5, vA b12, vI 1, vI 0, vA b12]) rfl ?_
    refine XS.iloadN X35.here hx rfl (hb hby at_148) rfl ?_
    refine XS.aload X35.here hx rfl (hb hby at_149) rfl rfl ?_
    refine XS.aload X35.here hx rfl (hb hby at_151) rfl rfl ?_
    refine XS.iload X35.here hx rfl (hb hby at_153) rfl ?_
    refine st36 _ ?_
    show Steps _ _ _ (T36.setTop (mkF m 158 #[vI p0, vI p1, vI p2, vA b2, vA b5, vA b12, vI 1, vI 0, vA b12] [(.ref b12)])) _
    refine XS.astore X36.here hx rfl (hb hby at_158) rfl rfl (l' := #[vI p0, vI p1, vI p2, vA b2, vA b5, vA b12, vI 1, vI 0, vA b12]) rfl ?_
    refine XS.aloadN X36.here hx rfl (hb hby at_160) rfl rfl ?_
    refine XS.aload X36.here hx rfl (hb hby at_161) rfl rfl ?_
    refine st37.trans ?_
    show Steps _ _ _ (T37.setTop (mkF m 166 #[vI p0, vI p1, vI p2, vA b2, vA b5, vA b12, vI 1, vI 0, vA b12] [])) _
    refine XS.iload X37.here hx rfl (hb hby at_166) rfl ?_
    refine XS.ifYes X37.here hx rfl (pc0 := 168) (pc' := 180) rfl (hb hby at_168) rfl ((if0 _ _).trans (teq ((by decide) : (0 : Int32) = (0 : Int32))).1) (by decide) (by decide) ?_
    refine XS.iconst X37.here hx rfl (hb hby at_180) ?_
    refine XS.istore X37.here hx rfl (hb hby at_181) rfl (l' := #[vI p0, vI p1, vI p2, vA b2, vA b5, vA b12, vI 1, vI 0, vA b12]) rfl ?_
    refine XS.iload X37.here hx rfl (hb hby at_183) rfl ?_
    refine XS.ifNo X37.here hx rfl (hb hby at_185) rfl ((if0 _ _).trans (feq ((by decide) : ¬ ((1 : Int32) = (0 : Int32)))).1) ?_
    refine XS.aloadN X37.here hx rfl (hb hby at_188) rfl rfl ?_
    refine XS.iload X37.here hx rfl (hb hby at_189) rfl ?_
    refine st38 _ ?_
    show Steps _ _ _ (T38.setTop (mkF m 194 #[vI p0, vI p1, vI p2, vA b2, vA b5, vA b12, vI 1, vI 0, vA b12] [(.int 1)])) _
    refine XS.ifNo X38.here hx rfl (hb hby at_194) rfl ((if0 _ _).trans (feq ((by decide) : ¬ ((1 : Int32) = (0 : Int32)))).1) ?_
    refine XS.iconst X38.here hx rfl (hb hby at_197) ?_
    refine XS.goto X38.here hx rfl (pc0 := 198) (pc' := 202) rfl (hb hby at_198) (by decide) (by decide) ?_
    refine XS.istore X38.here hx rfl (hb hby at_202) rfl (l' := #[vI p0, vI p1, vI p2, vA b2, vA b5, vA b12, vI 1, vI 0, vA b12]) rfl ?_
    refine XS.iload X38.here hx rfl (hb hby at_204) rfl ?_
    exact retN X38 hx (t := .boolean) Bd.returns (by simp) (hb hby at_206) hr
  · show Q_law Z p0 p1 p2 su sn mo h0 n0 _ T38.heap _
    rw [(Kq38 : T38.heap = T29.heap)]
    exact ⟨rfl, N38⟩
theorem rm_law (l : Launch) (Z : State) (a0 : Array Value) (hw : HW Z a0) (ws : List Jvm.Cond) (p0 : Int32) (p1 : Int32) (p2 : Int32) (su : Addr) (sn : Addr) (mo : Addr) (h0 : Heap) (n0 : Nat) (Z0 : n0 ≤ h0.size) (P0 : Old Z n0 h0) (P1 : sta0 Z (.ref su)) (P2 : sta1 Z (.ref sn)) (P3 : Mi Z "[Ljava/lang/Object;" mo) (P4 : Exa Z h0 sn "java/util/Collections$EmptyList") (hst : l.stackTraces = true) :
    MetFree l x (head1 (Jvm.Cond.code x code maxLocals ret :: ws) room_1) (fun as' U => as' = #[(.int p0), (.int p1), (.int p2)] ∧ Z.Warmed39 U.vm ∧ U.heap = h0) (fun _ _ bl s _ => s.vm.MethodsKnown ∧ s.vm.FramesKnown bl) (fun _ U o U' => ∃ v L, o = .returned v ∧ Q_law Z p0 p1 p2 su sn mo h0 n0 v U'.heap L ∧ ReturnedEndW U o U' L room_1.cells room_1.slots) := by
  by_cases q0 : (p0 &&& (3 : Int32)) = (0 : Int32)
  · by_cases q1 : (p1 &&& (3 : Int32)) = (0 : Int32)
    · by_cases q2 : (p2 &&& (3 : Int32)) = (0 : Int32)
      · exact rm_law_nnn l Z a0 hw ws p0 p1 p2 su sn mo h0 n0 Z0 P0 P1 P2 P3 P4 hst q0 q1 q2
      by_cases w2 : (p2 &&& (3 : Int32)) = (2 : Int32)
      · exact rm_law_nn2 l Z a0 hw ws p0 p1 p2 su sn mo h0 n0 Z0 P0 P1 P2 P3 P4 hst q0 q1 q2 w2
      exact rm_law_nn1 l Z a0 hw ws p0 p1 p2 su sn mo h0 n0 Z0 P0 P1 P2 P3 P4 hst q0 q1 q2 w2
    by_cases w1 : (p1 &&& (3 : Int32)) = (2 : Int32)
    · by_cases w2 : (p2 &&& (3 : Int32)) = (2 : Int32)
      · exact rm_law_n22 l Z a0 hw ws p0 p1 p2 su sn mo h0 n0 Z0 P0 P1 P2 P3 P4 hst q0 q1 w1 w2
      exact rm_law_n21 l Z a0 hw ws p0 p1 p2 su sn mo h0 n0 Z0 P0 P1 P2 P3 P4 hst q0 q1 w1 w2
    by_cases w2 : (p2 &&& (3 : Int32)) = (2 : Int32)
    · exact rm_law_n12 l Z a0 hw ws p0 p1 p2 su sn mo h0 n0 Z0 P0 P1 P2 P3 P4 hst q0 q1 w1 w2
    exact rm_law_n11 l Z a0 hw ws p0 p1 p2 su sn mo h0 n0 Z0 P0 P1 P2 P3 P4 hst q0 q1 w1 w2
  by_cases w0 : (p0 &&& (3 : Int32)) = (2 : Int32)
  · by_cases w1 : (p1 &&& (3 : Int32)) = (2 : Int32)
    · by_cases w2 : (p2 &&& (3 : Int32)) = (2 : Int32)
      · exact rm_law_222 l Z a0 hw ws p0 p1 p2 su sn mo h0 n0 Z0 P0 P1 P2 P3 P4 hst q0 w0 w1 w2
      exact rm_law_221 l Z a0 hw ws p0 p1 p2 su sn mo h0 n0 Z0 P0 P1 P2 P3 P4 hst q0 w0 w1 w2
    by_cases w2 : (p2 &&& (3 : Int32)) = (2 : Int32)
    · exact rm_law_212 l Z a0 hw ws p0 p1 p2 su sn mo h0 n0 Z0 P0 P1 P2 P3 P4 hst q0 w0 w1 w2
    exact rm_law_211 l Z a0 hw ws p0 p1 p2 su sn mo h0 n0 Z0 P0 P1 P2 P3 P4 hst q0 w0 w1 w2
  by_cases w1 : (p1 &&& (3 : Int32)) = (2 : Int32)
  · by_cases w2 : (p2 &&& (3 : Int32)) = (2 : Int32)
    · exact rm_law_122 l Z a0 hw ws p0 p1 p2 su sn mo h0 n0 Z0 P0 P1 P2 P3 P4 hst q0 w0 w1 w2
    exact rm_law_121 l Z a0 hw ws p0 p1 p2 su sn mo h0 n0 Z0 P0 P1 P2 P3 P4 hst q0 w0 w1 w2
  by_cases w2 : (p2 &&& (3 : Int32)) = (2 : Int32)
  · exact rm_law_112 l Z a0 hw ws p0 p1 p2 su sn mo h0 n0 Z0 P0 P1 P2 P3 P4 hst q0 w0 w1 w2
  exact rm_law_111 l Z a0 hw ws p0 p1 p2 su sn mo h0 n0 Z0 P0 P1 P2 P3 P4 hst q0 w0 w1 w2
theorem own_mk {Z : State} (h : Jvm.D.tablesKnown Z = true) : Z.vm.MethodsKnown := fun m x hm => by
  simp only [Vm.method?, Option.bind_eq_bind, Option.bind_eq_some_iff] at hm
  obtain ⟨k, hk, hx⟩ := hm
  obtain ⟨hl, rfl⟩ := Array.getElem?_eq_some_iff.mp hk
  have q := (Array.all_eq_true_iff_forall_mem.mp (show (Z.vm.classes.all _) = true from h)) _ (Array.getElem_mem hl)
  refine ⟨_, hk, fun cf hcf => ?_⟩
  rw [hcf] at q
  have lt := (Array.getElem?_eq_some_iff.mp hx).1
  have e : Z.vm.classes[m.cls].methods.size = cf.methods.size := by simpa using q
  rw [e] at lt
  simp [lt]
theorem own_mkn {vm : Vm} {m : MethodId} (h : Jvm.D.methodKnown vm m = true) : vm.knowsMethod m := by
  unfold Jvm.D.methodKnown at h
  cases hk : vm.classes[m.cls]? with
  | none => rw [hk] at h; cases h
  | some k =>
    rw [hk] at h
    refine ⟨k, hk, fun cf hcf => ?_⟩
    simp only [hcf] at h
    exact h
theorem own_fk {Z : State} {m : MethodId} {args : Array Value} {below : List Frame} (hf : Z.frames = .invoking m args :: below) (h : Jvm.D.framesKnown Z = true) : Z.vm.FramesKnown below := fun y hy m' hm' => by
  have q := List.all_eq_true.mp (show (Z.frames.all _) = true from h) y (by rw [hf]; exact List.mem_cons_of_mem _ hy)
  cases y with
  | java g => cases hm'; exact own_mkn q
  | native g => cases hm'; exact own_mkn q
  | _ => cases hm'
theorem own_refOf {Z : State} {args : Array Value} {t : Term} {ty : FieldType} (h1 : (Cond.isRef t).before args Z = true) (h2 : (Cond.arrayOf t ty).before args Z = true) : ∃ d, t.eval args Z none [] Z = some (.ref d) := by
  have q := Cond.before_iff.mp h2
  simp only [Cond.value] at q
  split at q
  · cases q
  · cases hv : t.eval args Z none [] Z with
    | none => rw [hv] at q; cases q
    | some v =>
      cases v with
      | ref d => exact ⟨d, rfl⟩
      | _ => rw [hv] at q; cases q
set_option maxRecDepth 65536 in
set_option maxHeartbeats 40000000 in
theorem comes_1 {Post : Tables → Env → Array Value → State → Outcome → State → Prop} (hpost : ∀ tb e args s v u, (limb_1_1.after args s (.returned v) u = true ∧ limb_1_2.after args s (.returned v) u = true ∧ True) → ReturnedEndW s (.returned v) u (Jvm.fieldLocs frame_1_writes args s ++ Jvm.arrayLocs frame_1_arrays args s ++ Jvm.staticLocs frame_1_statics s) 32 12160 → Post tb e args s (.returned v) u) :
    ArmFor flags0 classFile x code maxLocals ret World_1 tables_1 room_1 Calls_1 rest_1 Pre_1 Post := by
  intro l hfl _ _ p e ha hc hk s m args below hf hA hF happ hP
  obtain ⟨hcalls, hrest, hpre⟩ := hP
  obtain ⟨-, -, -, hnamed, -, -, -, hat⟩ := (Spec.applies_iff hf).mp happ
  obtain ⟨hg, hn⟩ := and_e (Cond.before_iff.mp (show (Jvm.Cond.and given_1 narrow_1).before args s = true from hpre))
  obtain ⟨hcount, hq0⟩ := and_e hg
  obtain ⟨hk0, hq1⟩ := and_e hq0
  obtain ⟨hk1, hq2⟩ := and_e hq1
  obtain ⟨w0, w1, w2, rfl⟩ : ∃ w0 w1 w2 : Value, args = #[w0, w1, w2] := by
    have hs : args.size = 3 := by simpa [Cond.value, given_1] using hcount
    obtain ⟨L⟩ := args
    match L, hs with
    | [w0, w1, w2], _ => exact ⟨w0, w1, w2, rfl⟩
  have hw := fun d (hd : d ∈ tables_1) => atoms_spec (ws := Jvm.Cond.code x code maxLocals ret :: tables_1) hat d (List.mem_cons_of_mem _ hd)
  obtain ⟨hsets, hown0⟩ := atoms_of _ (rest_1_c_eq ▸ (show rest_1_c.before _ s = true from hrest))
  have hfit : Fit s := fun {y c} hc i hi => by
    obtain ⟨ha, rfl⟩ := Array.getElem?_eq_some_iff.mp hc
    have q := List.all_eq_true.mp ((Array.all_eq_true_iff_forall_mem.mp hF) _ (Array.getElem_mem ha)) i (List.mem_range.mpr hi)
    simpa [Array.getElem?_eq_getElem hi] using q
  obtain ⟨i0, ev0⟩ := is_v hk0
  obtain rfl : w0 = (.int i0) := Option.some.inj ev0
  obtain ⟨i1, ev1⟩ := is_v hk1
  obtain rfl : w1 = (.int i1) := Option.some.inj ev1
  obtain ⟨i2, ev2⟩ := is_v hq2
  obtain rfl : w2 = (.int i2) := Option.some.inj ev2
  obtain ⟨su, e5⟩ := own_refOf (hsets _ (List.mem_of_getElem? (i := 7) rfl)) (hsets _ (List.mem_of_getElem? (i := 8) rfl))
  have S5 : Sta s s.heap "java/lang/Throwable" "UNASSIGNED_STACK" "[Ljava/lang/StackTraceElement;" (.ref su) := Sta.start e5 (Or.inl (hsets _ (List.mem_of_getElem? (i := 6) rfl)))
  obtain ⟨sn, -, -, -, e6, -⟩ := Cond.exactly_spec (hsets _ (List.mem_of_getElem? (i := 13) rfl))
  have E6 := Exa.start e6 (Cond.before_iff.mp (hsets _ (List.mem_of_getElem? (i := 13) rfl)))
  have S6 : Sta s s.heap "java/lang/Throwable" "SUPPRESSED_SENTINEL" "Ljava/util/List;" (.ref sn) := Sta.start e6 (Or.inl (hsets _ (List.mem_of_getElem? (i := 11) rfl)))
  obtain ⟨q1, q2, mo, q3, q4, q5⟩ := hcalls.2.2.1
  have hst : l.stackTraces = true := by unfold Launch.stackTraces; rw [hfl]; decide
  obtain ⟨n, o, h1, h2, h3, _, L, rfl, ⟨rfl, N⟩, hq⟩ := rm_law l s _ hw tables_1 i0 i1 i2 su sn mo s.heap s.heap.size (Nat.le_refl _) (Old.start s) S5 S6 ⟨q1, q2, q3, q4, q5.1⟩ E6 hst p e ha hc hk s m _ below hf ((Spec.applies_iff_loose hf).mp happ).1 ⟨rfl, State.Warmed39.refl s, rfl⟩ ⟨own_mk hcalls.2.1, own_fk hf hcalls.1⟩
  refine ⟨n, _, h1, h2, h3, hpost _ _ _ _ _ _ ⟨Cond.after_iff.mpr rfl, Cond.after_iff.mpr (eq_i res_at (Term.int_eval (1)) rfl), trivial⟩ ⟨hq.1, hq.2.1, hq.2.2.1, (hq.2.2.2.sift fun y hy => Or.inr (N y hy)).mono (by decide) (by decide)⟩⟩
theorem main_1_1 : Claimed_1_1 := comes_1 fun _ _ _ _ _ _ h hF => ⟨h.1, hF⟩
theorem main_1_2 : Claimed_1_2 := comes_1 fun _ _ _ _ _ _ h hF => ⟨h.2.1, hF⟩
end Jvm.Pilot.@@N@@
namespace Jvm.Pilot.@@N@@
open Jvm Jvm.ClassFile Sem Op Lib Jvm.Free Jvm.Stand Jvm.Pilot.@@N@@.Jvm.D
/-! MADE BY PROGRAM (witnessworld.py) out of the Statement's table words and the real class files: 37 classes; the members and pool entries that the words name. The judged class is class 1, her method 3. -/
namespace start1
open Jvm.ClassFile
def u (s : String) : CpInfo := .utf8 (stringToUtf16 s)
/-- a pool by its gaps: so many unusable entries, then the entry; so many at the end -/
def gap : Nat → List CpInfo → List CpInfo
  | 0, r => r
  | n + 1, r => .unusable :: gap n r
def poolList (es : List (Nat × CpInfo)) (last : Nat) : List CpInfo := es.foldr (fun e r => gap e.1 (e.2 :: r)) (gap last [])
def pool (es : List (Nat × CpInfo)) (last : Nat) : Array CpInfo := ⟨poolList es last⟩
def fileOf (pool : Array CpInfo) (this : Nat) (attrs : Array Attribute := #[]) (ms : Array MethodInfo := #[]) (fl : Nat := 33) (sup : Nat := 0) (ifs : Array Nat := #[]) (fds : Array FieldInfo := #[]) : ClassFile where
  minorVersion := 0
  majorVersion := 65
  constantPool := pool
  accessFlags := fl
  thisClass := this
  superClass := sup
  interfaces := ifs
  fields := fds
  methods := ms
  attributes := attrs
def plain (name : String) (sup : Option ClassId) : Class where
  name := name
  kind := .ordinary
  loader := none
  accessFlags := 33
  super := sup
  interfaces := #[]
  cf := none
  fields := #[]
  methods := #[]
  instanceTypes := #[]
  staticTypes := #[]
  resolved := #[]
  callSites := []
  init := .initialized
  statics := none
  mirror := none

def pool0 : Array CpInfo := pool [(5, u "<init>"), (0, u "()V"), (1, .class_ 10), (1, u "java/lang/Object"), (0, u "getClass"), (0, u "()Ljava/lang/Class;")] 111

def k0c0 : Code := { maxStack := 0, maxLocals := 1, code := object_method_1_code, exceptionTable := #[], attributes := #[] }
def k0m0 : Method := { name := "<init>", desc := "()V", sig := { parameters := [], returnType := none }, accessFlags := 1, code := some k0c0 }
def k0m1 : Method := { name := "getClass", desc := "()Ljava/lang/Class;", sig := { parameters := [], returnType := some (.object "java/lang/Class") }, accessFlags := 273, code := none }
/-- java/lang/Object -/
def k0 : Class := { plain "java/lang/Object" none with
  accessFlags := 33
  interfaces := #[]
  cf := some (fileOf pool0 8 #[] #[{ accessFlags := 1, nameIndex := 5, descriptorIndex := 6, attributes := #[] }, { accessFlags := 273, nameIndex := 11, descriptorIndex := 12, attributes := #[] }] 33 0 #[] #[])
  fields := #[]
  methods := #[k0m0, k0m1]
  instanceTypes := #[]
  staticTypes := #[]
  resolved := Array.replicate 124 none
  statics := none }

def pool1 : Array CpInfo := pool [(2, .class_ 4), (0, .nameAndType 5 6), (0, u "java/lang/Object"), (0, u "<init>"), (0, u "()V"), (0, .methodref 8 9), (0, .class_ 10), (0, .nameAndType 11 12), (0, u "com/example/maat/maat/Failures"), (0, u "isEmpty"), (0, u "()Z"), (0, .methodref 8 14), (0, .nameAndType 15 16), (0, u "first"), (0, u "()Ljava/lang/Throwable;"), (0, .methodref 8 3), (0, .class_ 19), (0, u "java/lang/RuntimeException"), (0, .methodref 18 3), (0, .methodref 22 23), (0, .class_ 24), (0, .nameAndType 25 26), (0, u "com/example/maat/maat/FailuresIsEmptyPinLaw"), (0, u "agrees"), (0, u "(Lcom/example/maat/maat/Failures;Z)Z"), (0, .methodref 22 28), (0, .nameAndType 29 30), (0, u "pick"), (0, u "(ILjava/lang/Throwable;Ljava/lang/Throwable;Z)Ljava/lang/Throwable;"), (0, .methodref 8 32), (0, .nameAndType 33 34), (0, u "add"), (0, u "(Ljava/lang/Throwable;)V"), (3, u "law"), (0, u "(III)Z")] 4

def k1m0 : Method := { name := "<init>", desc := "()V", sig := { parameters := [], returnType := none }, accessFlags := 1, code := none }
def k1c1 : Code := { maxStack := 2, maxLocals := 5, code := method_2_code, exceptionTable := #[], attributes := #[] }
def k1m1 : Method := { name := "pick", desc := "(ILjava/lang/Throwable;Ljava/lang/Throwable;Z)Ljava/lang/Throwable;", sig := { parameters := [.int, (.object "java/lang/Throwable"), (.object "java/lang/Throwable"), .boolean], returnType := some (.object "java/lang/Throwable") }, accessFlags := 10, code := some k1c1 }
def k1c2 : Code := { maxStack := 2, maxLocals := 2, code := method_3_code, exceptionTable := #[], attributes := #[] }
def k1m2 : Method := { name := "agrees", desc := "(Lcom/example/maat/maat/Failures;Z)Z", sig := { parameters := [(.object "com/example/maat/maat/Failures"), .boolean], returnType := some .boolean }, accessFlags := 10, code := some k1c2 }
def k1c3 : Code := { maxStack := 4, maxLocals := 9, code := code, exceptionTable := #[], attributes := #[] }
def k1m3 : Method := { name := "law", desc := "(III)Z", sig := { parameters := [.int, .int, .int], returnType := some .boolean }, accessFlags := 9, code := some k1c3 }
/-- com/example/maat/maat/FailuresIsEmptyPinLaw -/
def k1 : Class := { plain "com/example/maat/maat/FailuresIsEmptyPinLaw" (some 0) with
  accessFlags := 49
  interfaces := #[]
  cf := some (fileOf pool1 22 #[] #[{ accessFlags := 1, nameIndex := 5, descriptorIndex := 6, attributes := #[] }, { accessFlags := 10, nameIndex := 29, descriptorIndex := 30, attributes := #[] }, { accessFlags := 10, nameIndex := 25, descriptorIndex := 26, attributes := #[] }, { accessFlags := 9, nameIndex := 38, descriptorIndex := 39, attributes := #[] }] 49 2 #[] #[])
  fields := #[]
  methods := #[k1m0, k1m1, k1m2, k1m3]
  instanceTypes := #[]
  staticTypes := #[]
  resolved := Array.replicate 44 none
  statics := none }

def pool2 : Array CpInfo := pool [(1, .methodref 2 3), (0, .class_ 4), (0, .nameAndType 5 6), (0, u "java/lang/Object"), (0, u "<init>"), (0, u "()V"), (0, .fieldref 8 9), (0, .class_ 10), (0, .nameAndType 11 12), (0, u "com/example/maat/maat/Failures"), (0, u "first"), (0, u "Ljava/lang/Throwable;"), (0, .methodref 14 15), (0, .class_ 16), (0, .nameAndType 17 18), (0, u "java/lang/Throwable"), (0, u "addSuppressed"), (0, u "(Ljava/lang/Throwable;)V"), (7, u "add"), (8, u "isEmpty"), (0, u "()Z"), (0, u "()Ljava/lang/Throwable;")] 6

def k2c0 : Code := { maxStack := 1, maxLocals := 1, code := prog_6_method_1_code, exceptionTable := #[], attributes := #[] }
def k2m0 : Method := { name := "<init>", desc := "()V", sig := { parameters := [], returnType := none }, accessFlags := 0, code := some k2c0 }
def k2c1 : Code := { maxStack := 2, maxLocals := 2, code := prog_6_method_2_code, exceptionTable := #[], attributes := #[] }
def k2m1 : Method := { name := "add", desc := "(Ljava/lang/Throwable;)V", sig := { parameters := [(.object "java/lang/Throwable")], returnType := none }, accessFlags := 0, code := some k2c1 }
def k2c2 : Code := { maxStack := 1, maxLocals := 1, code := prog_6_method_4_code, exceptionTable := #[], attributes := #[] }
def k2m2 : Method := { name := "isEmpty", desc := "()Z", sig := { parameters := [], returnType := some .boolean }, accessFlags := 0, code := some k2c2 }
def k2c3 : Code := { maxStack := 1, maxLocals := 1, code := prog_6_method_5_code, exceptionTable := #[], attributes := #[] }
def k2m3 : Method := { name := "first", desc := "()Ljava/lang/Throwable;", sig := { parameters := [], returnType := some (.object "java/lang/Throwable") }, accessFlags := 0, code := some k2c3 }
/-- com/example/maat/maat/Failures -/
def k2 : Class := { plain "com/example/maat/maat/Failures" (some 0) with
  accessFlags := 48
  interfaces := #[]
  cf := some (fileOf pool2 8 #[] #[{ accessFlags := 0, nameIndex := 5, descriptorIndex := 6, attributes := #[] }, { accessFlags := 0, nameIndex := 26, descriptorIndex := 18, attributes := #[] }, { accessFlags := 0, nameIndex := 35, descriptorIndex := 36, attributes := #[] }, { accessFlags := 0, nameIndex := 11, descriptorIndex := 37, attributes := #[] }] 48 2 #[] #[{ accessFlags := 2, nameIndex := 11, descriptorIndex := 12, attributes := #[] }])
  fields := #[{ name := "first", type := (.object "java/lang/Throwable"), accessFlags := 2, slot := 0, constantValue := 0 }]
  methods := #[k2m0, k2m1, k2m2, k2m3]
  instanceTypes := #[(.object "java/lang/Throwable")]
  staticTypes := #[]
  resolved := Array.replicate 44 none
  statics := none }

def pool3 : Array CpInfo := pool [(1, .class_ 2), (0, u "java/io/Serializable"), (0, .class_ 4), (0, u "java/lang/Object")] 2

/-- java/io/Serializable -/
def k3 : Class := { plain "java/io/Serializable" (some 0) with
  accessFlags := 1537
  interfaces := #[]
  cf := some (fileOf pool3 1 #[] #[] 1537 3 #[] #[])
  fields := #[]
  methods := #[]
  instanceTypes := #[]
  staticTypes := #[]
  resolved := Array.replicate 7 none
  statics := none }

def pool4 : Array CpInfo := pool [(1, .methodref 2 3), (0, .class_ 4), (0, .nameAndType 5 6), (0, u "java/lang/Object"), (0, u "<init>"), (0, u "()V"), (0, .fieldref 8 9), (0, .class_ 10), (0, .nameAndType 11 12), (0, u "java/lang/Throwable"), (0, u "cause"), (0, u "Ljava/lang/Throwable;"), (0, .fieldref 8 14), (0, .nameAndType 15 16), (0, u "UNASSIGNED_STACK"), (0, u "[Ljava/lang/StackTraceElement;"), (0, .fieldref 8 18), (0, .nameAndType 19 16), (0, u "stackTrace"), (0, .fieldref 8 21), (0, .nameAndType 22 23), (0, u "SUPPRESSED_SENTINEL"), (0, u "Ljava/util/List;"), (0, .fieldref 8 25), (0, .nameAndType 26 23), (0, u "suppressedExceptions"), (0, .methodref 8 28), (0, .nameAndType 29 30), (0, u "fillInStackTrace"), (0, u "()Ljava/lang/Throwable;"), (2, u "detailMessage"), (0, u "Ljava/lang/String;"), (21, .class_ 58), (1, u "java/util/Objects"), (34, .class_ 94), (0, u "java/lang/Throwable$WrappedPrintStream"), (6, .class_ 103), (1, u "java/lang/Throwable$PrintStreamOrWriter"), (23, .nameAndType 129 130), (1, u "add"), (0, u "(Ljava/lang/Object;)Z"), (34, u "$assertionsDisabled"), (0, u "Z"), (26, .class_ 194), (0, u "java/lang/Throwable$WrappedPrintWriter"), (3, .fieldref 8 199), (0, .nameAndType 200 201), (0, u "backtrace"), (0, u "Ljava/lang/Object;"), (0, .methodref 8 203), (0, .nameAndType 29 204), (0, u "(I)Ljava/lang/Throwable;"), (6, u "depth"), (0, u "I"), (20, .class_ 234), (0, u "java/util/ArrayList"), (6, .methodref 233 242), (0, .nameAndType 5 243), (0, u "(I)V"), (1, .class_ 247), (1, u "java/util/List"), (10, .string 259), (0, u "Cannot suppress a null exception."), (0, .methodref 56 261), (0, .nameAndType 262 263), (0, u "requireNonNull"), (0, u "(Ljava/lang/Object;Ljava/lang/String;)Ljava/lang/Object;"), (5, .class_ 271), (1, u "java/lang/Throwable$SentinelHolder"), (29, .interfaceMethodref 245 127), (2, u "EMPTY_THROWABLE_ARRAY"), (0, u "[Ljava/lang/Throwable;"), (12, .class_ 319), (0, u "java/io/Serializable"), (0, u "serialVersionUID"), (0, u "J"), (5, u "NULL_CAUSE_MESSAGE"), (0, u "SELF_SUPPRESSION_MESSAGE"), (0, u "CAUSE_CAPTION"), (0, u "SUPPRESSED_CAPTION"), (5, u "(Ljava/lang/Throwable;)V"), (56, u "addSuppressed")] 10

def k4c0 : Code := { maxStack := 2, maxLocals := 1, code := jdk_78_method_1_code, exceptionTable := #[], attributes := #[] }
def k4m0 : Method := { name := "<init>", desc := "()V", sig := { parameters := [], returnType := none }, accessFlags := 1, code := some k4c0 }
def k4c1 : Code := { maxStack := 2, maxLocals := 1, code := ⟨#[0x2a, 0xb4, 0x00, 0x11, 0xc7, 0x00, 0x0a, 0x2a, 0xb4, 0x00, 0xc6, 0xc6, 0x00, 0x10, 0x2a, 0x03, 0xb6, 0x00, 0xca, 0x57, 0x2a, 0xb2, 0x00, 0x0d, 0xb5, 0x00, 0x11, 0x2a, 0xb0]⟩, exceptionTable := #[], attributes := #[] }
def k4m1 : Method := { name := "fillInStackTrace", desc := "()Ljava/lang/Throwable;", sig := { parameters := [], returnType := some (.object "java/lang/Throwable") }, accessFlags := 33, code := some k4c1 }
def k4m2 : Method := { name := "fillInStackTrace", desc := "(I)Ljava/lang/Throwable;", sig := { parameters := [.int], returnType := some (.object "java/lang/Throwable") }, accessFlags := 258, code := none }
def k4c3 : Code := { maxStack := 4, maxLocals := 2, code := ⟨#[0x2b, 0x2a, 0xa6, 0x00, 0x0f, 0xbb, 0x00, 0x40, 0x59, 0x13, 0x01, 0x08, 0x2b, 0xb7, 0x00, 0x44, 0xbf, 0x2b, 0x13, 0x01, 0x02, 0xb8, 0x01, 0x04, 0x57, 0x2a, 0xb4, 0x00, 0x18, 0xc7, 0x00, 0x04, 0xb1, 0x2a, 0xb4, 0x00, 0x18, 0xb2, 0x00, 0x14, 0xa6, 0x00, 0x0f, 0x2a, 0xbb, 0x00, 0xe9, 0x59, 0x04, 0xb7, 0x00, 0xf1, 0xb5, 0x00, 0x18, 0x2a, 0xb4, 0x00, 0x18, 0x2b, 0xb9, 0x01, 0x2d, 0x02, 0x00, 0x57, 0xb1]⟩, exceptionTable := #[], attributes := #[] }
def k4m3 : Method := { name := "addSuppressed", desc := "(Ljava/lang/Throwable;)V", sig := { parameters := [(.object "java/lang/Throwable")], returnType := none }, accessFlags := 49, code := some k4c3 }
/-- java/lang/Throwable -/
def k4 : Class := { plain "java/lang/Throwable" (some 0) with
  accessFlags := 33
  interfaces := #[3]
  cf := some (fileOf pool4 8 #[.nestMembers #[193, 93, 101, 269]] #[{ accessFlags := 1, nameIndex := 5, descriptorIndex := 6, attributes := #[] }, { accessFlags := 33, nameIndex := 29, descriptorIndex := 30, attributes := #[] }, { accessFlags := 258, nameIndex := 29, descriptorIndex := 204, attributes := #[] }, { accessFlags := 49, nameIndex := 393, descriptorIndex := 336, attributes := #[] }] 33 2 #[318] #[{ accessFlags := 26, nameIndex := 320, descriptorIndex := 321, attributes := #[] }, { accessFlags := 130, nameIndex := 200, descriptorIndex := 201, attributes := #[] }, { accessFlags := 2, nameIndex := 33, descriptorIndex := 34, attributes := #[] }, { accessFlags := 26, nameIndex := 15, descriptorIndex := 16, attributes := #[] }, { accessFlags := 2, nameIndex := 11, descriptorIndex := 12, attributes := #[] }, { accessFlags := 2, nameIndex := 19, descriptorIndex := 16, attributes := #[] }, { accessFlags := 130, nameIndex := 211, descriptorIndex := 212, attributes := #[] }, { accessFlags := 26, nameIndex := 22, descriptorIndex := 23, attributes := #[] }, { accessFlags := 2, nameIndex := 26, descriptorIndex := 23, attributes := #[] }, { accessFlags := 26, nameIndex := 327, descriptorIndex := 34, attributes := #[] }, { accessFlags := 26, nameIndex := 328, descriptorIndex := 34, attributes := #[] }, { accessFlags := 26, nameIndex := 329, descriptorIndex := 34, attributes := #[] }, { accessFlags := 26, nameIndex := 330, descriptorIndex := 34, attributes := #[] }, { accessFlags := 26, nameIndex := 304, descriptorIndex := 305, attributes := #[] }, { accessFlags := 4120, nameIndex := 165, descriptorIndex := 166, attributes := #[] }])
  fields := #[{ name := "serialVersionUID", type := .long, accessFlags := 26, slot := 0, constantValue := 0 }, { name := "backtrace", type := (.object "java/lang/Object"), accessFlags := 130, slot := 0, constantValue := 0 }, { name := "detailMessage", type := (.object "java/lang/String"), accessFlags := 2, slot := 1, constantValue := 0 }, { name := "UNASSIGNED_STACK", type := (.array (.object "java/lang/StackTraceElement")), accessFlags := 26, slot := 1, constantValue := 0 }, { name := "cause", type := (.object "java/lang/Throwable"), accessFlags := 2, slot := 2, constantValue := 0 }, { name := "stackTrace", type := (.array (.object "java/lang/StackTraceElement")), accessFlags := 2, slot := 3, constantValue := 0 }, { name := "depth", type := .int, accessFlags := 130, slot := 4, constantValue := 0 }, { name := "SUPPRESSED_SENTINEL", type := (.object "java/util/List"), accessFlags := 26, slot := 2, constantValue := 0 }, { name := "suppressedExceptions", type := (.object "java/util/List"), accessFlags := 2, slot := 5, constantValue := 0 }, { name := "NULL_CAUSE_MESSAGE", type := (.object "java/lang/String"), accessFlags := 26, slot := 3, constantValue := 0 }, { name := "SELF_SUPPRESSION_MESSAGE", type := (.object "java/lang/String"), accessFlags := 26, slot := 4, constantValue := 0 }, { name := "CAUSE_CAPTION", type := (.object "java/lang/String"), accessFlags := 26, slot := 5, constantValue := 0 }, { name := "SUPPRESSED_CAPTION", type := (.object "java/lang/String"), accessFlags := 26, slot := 6, constantValue := 0 }, { name := "EMPTY_THROWABLE_ARRAY", type := (.array (.object "java/lang/Throwable")), accessFlags := 26, slot := 7, constantValue := 0 }, { name := "$assertionsDisabled", type := .boolean, accessFlags := 4120, slot := 8, constantValue := 0 }]
  methods := #[k4m0, k4m1, k4m2, k4m3]
  instanceTypes := #[(.object "java/lang/Object"), (.object "java/lang/String"), (.object "java/lang/Throwable"), (.array (.object "java/lang/StackTraceElement")), .int, (.object "java/util/List")]
  staticTypes := #[.long, (.array (.object "java/lang/StackTraceElement")), (.object "java/util/List"), (.object "java/lang/String"), (.object "java/lang/String"), (.object "java/lang/String"), (.object "java/lang/String"), (.array (.object "java/lang/Throwable")), .boolean]
  resolved := Array.replicate 404 none
  statics := some 0 }

def pool5 : Array CpInfo := pool [(1, .methodref 2 3), (0, .class_ 4), (0, .nameAndType 5 6), (0, u "java/lang/Throwable"), (0, u "<init>"), (0, u "()V"), (12, .class_ 20), (0, u "java/lang/Exception"), (0, u "serialVersionUID"), (0, u "J")] 17

def k5c0 : Code := { maxStack := 1, maxLocals := 1, code := jdk_59_method_1_code, exceptionTable := #[], attributes := #[] }
def k5m0 : Method := { name := "<init>", desc := "()V", sig := { parameters := [], returnType := none }, accessFlags := 1, code := some k5c0 }
/-- java/lang/Exception -/
def k5 : Class := { plain "java/lang/Exception" (some 4) with
  accessFlags := 33
  interfaces := #[]
  cf := some (fileOf pool5 19 #[] #[{ accessFlags := 1, nameIndex := 5, descriptorIndex := 6, attributes := #[] }] 33 2 #[] #[{ accessFlags := 24, nameIndex := 21, descriptorIndex := 22, attributes := #[] }])
  fields := #[{ name := "serialVersionUID", type := .long, accessFlags := 24, slot := 0, constantValue := 0 }]
  methods := #[k5m0]
  instanceTypes := #[(.object "java/lang/Object"), (.object "java/lang/String"), (.object "java/lang/Throwable"), (.array (.object "java/lang/StackTraceElement")), .int, (.object "java/util/List")]
  staticTypes := #[.long]
  resolved := Array.replicate 40 none
  statics := none }

def pool6 : Array CpInfo := pool [(1, .methodref 2 3), (0, .class_ 4), (0, .nameAndType 5 6), (0, u "java/lang/Exception"), (0, u "<init>"), (0, u "()V"), (12, .class_ 20), (0, u "java/lang/RuntimeException"), (0, u "serialVersionUID"), (0, u "J")] 17

def k6c0 : Code := { maxStack := 1, maxLocals := 1, code := jdk_58_method_1_code, exceptionTable := #[], attributes := #[] }
def k6m0 : Method := { name := "<init>", desc := "()V", sig := { parameters := [], returnType := none }, accessFlags := 1, code := some k6c0 }
/-- java/lang/RuntimeException -/
def k6 : Class := { plain "java/lang/RuntimeException" (some 5) with
  accessFlags := 33
  interfaces := #[]
  cf := some (fileOf pool6 19 #[] #[{ accessFlags := 1, nameIndex := 5, descriptorIndex := 6, attributes := #[] }] 33 2 #[] #[{ accessFlags := 24, nameIndex := 21, descriptorIndex := 22, attributes := #[] }])
  fields := #[{ name := "serialVersionUID", type := .long, accessFlags := 24, slot := 0, constantValue := 0 }]
  methods := #[k6m0]
  instanceTypes := #[(.object "java/lang/Object"), (.object "java/lang/String"), (.object "java/lang/Throwable"), (.array (.object "java/lang/StackTraceElement")), .int, (.object "java/util/List")]
  staticTypes := #[.long]
  resolved := Array.replicate 40 none
  statics := none }

def pool7 : Array CpInfo := pool [(1, .class_ 2), (0, u "java/lang/Comparable"), (0, .class_ 4), (0, u "java/lang/Object")] 7

/-- java/lang/Comparable -/
def k7 : Class := { plain "java/lang/Comparable" (some 0) with
  accessFlags := 1537
  interfaces := #[]
  cf := some (fileOf pool7 1 #[] #[] 1537 3 #[] #[])
  fields := #[]
  methods := #[]
  instanceTypes := #[]
  staticTypes := #[]
  resolved := Array.replicate 12 none
  statics := none }

def pool8 : Array CpInfo := pool [(2, .class_ 4), (1, u "java/lang/CharSequence"), (42, .class_ 48), (0, u "java/lang/CharSequence$1CodePointIterator"), (10, .class_ 60), (0, u "java/lang/CharSequence$1CharIterator"), (5, .class_ 67), (0, u "java/lang/Object")] 63

/-- java/lang/CharSequence -/
def k8 : Class := { plain "java/lang/CharSequence" (some 0) with
  accessFlags := 1537
  interfaces := #[]
  cf := some (fileOf pool8 2 #[.nestMembers #[47, 59]] #[] 1537 66 #[] #[])
  fields := #[]
  methods := #[]
  instanceTypes := #[]
  staticTypes := #[]
  resolved := Array.replicate 131 none
  statics := none }

def pool9 : Array CpInfo := pool [(1, .class_ 2), (0, u "java/lang/constant/Constable"), (0, .class_ 4), (0, u "java/lang/Object")] 6

/-- java/lang/constant/Constable -/
def k9 : Class := { plain "java/lang/constant/Constable" (some 0) with
  accessFlags := 1537
  interfaces := #[]
  cf := some (fileOf pool9 1 #[] #[] 1537 3 #[] #[])
  fields := #[]
  methods := #[]
  instanceTypes := #[]
  staticTypes := #[]
  resolved := Array.replicate 11 none
  statics := none }

def pool10 : Array CpInfo := pool [(1, .class_ 2), (0, u "java/lang/constant/ConstantDesc"), (0, .class_ 4), (0, u "java/lang/Object")] 32

/-- java/lang/constant/ConstantDesc -/
def k10 : Class := { plain "java/lang/constant/ConstantDesc" (some 0) with
  accessFlags := 1537
  interfaces := #[]
  cf := some (fileOf pool10 1 #[] #[] 1537 3 #[] #[])
  fields := #[]
  methods := #[]
  instanceTypes := #[]
  staticTypes := #[]
  resolved := Array.replicate 37 none
  statics := none }

def pool11 : Array CpInfo := pool [(2, .class_ 4), (1, u "java/lang/Object"), (0, u "<init>"), (0, u "()V"), (3, .class_ 12), (1, u "java/lang/String"), (0, u "value"), (0, u "[B"), (2, u "coder"), (0, u "B"), (2, u "hash"), (0, u "I"), (2, u "hashIsZero"), (0, u "Z"), (13, u "COMPACT_STRINGS"), (534, .class_ 576), (0, u "java/lang/CharSequence"), (22, u "CASE_INSENSITIVE_ORDER"), (0, u "Ljava/util/Comparator;"), (500, u "serialPersistentFields"), (0, u "[Ljava/io/ObjectStreamField;"), (0, .class_ 1104), (0, u "java/lang/String$CaseInsensitiveComparator"), (1, .class_ 1107), (0, u "java/io/Serializable"), (0, .class_ 1109), (0, u "java/lang/Comparable"), (0, .class_ 1111), (0, u "java/lang/constant/Constable"), (0, .class_ 1113), (0, u "java/lang/constant/ConstantDesc"), (2, u "serialVersionUID"), (0, u "J"), (3, u "REPL"), (0, u "C"), (2, u "LATIN1"), (1, u "UTF16")] 323

def k11m0 : Method := { name := "<init>", desc := "()V", sig := { parameters := [], returnType := none }, accessFlags := 1, code := none }
/-- java/lang/String -/
def k11 : Class := { plain "java/lang/String" (some 0) with
  accessFlags := 49
  interfaces := #[3, 7, 8, 9, 10]
  cf := some (fileOf pool11 10 #[.nestMembers #[1103]] #[{ accessFlags := 1, nameIndex := 5, descriptorIndex := 6, attributes := #[] }] 49 2 #[1106, 1108, 575, 1110, 1112] #[{ accessFlags := 18, nameIndex := 13, descriptorIndex := 14, attributes := #[] }, { accessFlags := 18, nameIndex := 17, descriptorIndex := 18, attributes := #[] }, { accessFlags := 2, nameIndex := 21, descriptorIndex := 22, attributes := #[] }, { accessFlags := 2, nameIndex := 25, descriptorIndex := 26, attributes := #[] }, { accessFlags := 26, nameIndex := 1116, descriptorIndex := 1117, attributes := #[] }, { accessFlags := 24, nameIndex := 40, descriptorIndex := 26, attributes := #[] }, { accessFlags := 26, nameIndex := 1101, descriptorIndex := 1102, attributes := #[] }, { accessFlags := 26, nameIndex := 1121, descriptorIndex := 1122, attributes := #[] }, { accessFlags := 25, nameIndex := 599, descriptorIndex := 600, attributes := #[] }, { accessFlags := 24, nameIndex := 1125, descriptorIndex := 18, attributes := #[] }, { accessFlags := 24, nameIndex := 1127, descriptorIndex := 18, attributes := #[] }])
  fields := #[{ name := "value", type := (.array .byte), accessFlags := 18, slot := 0, constantValue := 0 }, { name := "coder", type := .byte, accessFlags := 18, slot := 1, constantValue := 0 }, { name := "hash", type := .int, accessFlags := 2, slot := 2, constantValue := 0 }, { name := "hashIsZero", type := .boolean, accessFlags := 2, slot := 3, constantValue := 0 }, { name := "serialVersionUID", type := .long, accessFlags := 26, slot := 0, constantValue := 0 }, { name := "COMPACT_STRINGS", type := .boolean, accessFlags := 24, slot := 1, constantValue := 0 }, { name := "serialPersistentFields", type := (.array (.object "java/io/ObjectStreamField")), accessFlags := 26, slot := 2, constantValue := 0 }, { name := "REPL", type := .char, accessFlags := 26, slot := 3, constantValue := 0 }, { name := "CASE_INSENSITIVE_ORDER", type := (.object "java/util/Comparator"), accessFlags := 25, slot := 4, constantValue := 0 }, { name := "LATIN1", type := .byte, accessFlags := 24, slot := 5, constantValue := 0 }, { name := "UTF16", type := .byte, accessFlags := 24, slot := 6, constantValue := 0 }]
  methods := #[k11m0]
  instanceTypes := #[(.array .byte), .byte, .int, .boolean]
  staticTypes := #[.long, .boolean, (.array (.object "java/io/ObjectStreamField")), .char, (.object "java/util/Comparator"), .byte, .byte]
  resolved := Array.replicate 1451 none
  statics := none }

def pool12 : Array CpInfo := pool [(2, .class_ 4), (1, u "java/lang/Object"), (0, u "<init>"), (0, u "()V"), (35, .class_ 44), (1, u "java/util/Objects"), (0, u "requireNonNull"), (48, u "(Ljava/lang/Object;Ljava/lang/String;)Ljava/lang/Object;")] 89

def k12m0 : Method := { name := "<init>", desc := "()V", sig := { parameters := [], returnType := none }, accessFlags := 2, code := none }
def k12c1 : Code := { maxStack := 3, maxLocals := 2, code := jdk_31_method_11_code, exceptionTable := #[], attributes := #[] }
def k12m1 : Method := { name := "requireNonNull", desc := "(Ljava/lang/Object;Ljava/lang/String;)Ljava/lang/Object;", sig := { parameters := [(.object "java/lang/Object"), (.object "java/lang/String")], returnType := some (.object "java/lang/Object") }, accessFlags := 9, code := some k12c1 }
/-- java/util/Objects -/
def k12 : Class := { plain "java/util/Objects" (some 0) with
  accessFlags := 49
  interfaces := #[]
  cf := some (fileOf pool12 42 #[] #[{ accessFlags := 2, nameIndex := 5, descriptorIndex := 6, attributes := #[] }, { accessFlags := 9, nameIndex := 45, descriptorIndex := 94, attributes := #[] }] 49 2 #[] #[])
  fields := #[]
  methods := #[k12m0, k12m1]
  instanceTypes := #[]
  staticTypes := #[]
  resolved := Array.replicate 184 none
  statics := none }

def pool13 : Array CpInfo := pool [(8, .class_ 10), (1, u "java/lang/Iterable"), (24, .class_ 36), (0, u "java/lang/Object")] 25

/-- java/lang/Iterable -/
def k13 : Class := { plain "java/lang/Iterable" (some 0) with
  accessFlags := 1537
  interfaces := #[]
  cf := some (fileOf pool13 8 #[] #[] 1537 35 #[] #[])
  fields := #[]
  methods := #[]
  instanceTypes := #[]
  staticTypes := #[]
  resolved := Array.replicate 62 none
  statics := none }

def pool14 : Array CpInfo := pool [(10, .class_ 12), (1, u "java/util/Collection"), (47, .class_ 61), (0, u "java/lang/Object"), (0, .class_ 63), (0, u "java/lang/Iterable")] 51

/-- java/util/Collection -/
def k14 : Class := { plain "java/util/Collection" (some 0) with
  accessFlags := 1537
  interfaces := #[13]
  cf := some (fileOf pool14 10 #[] #[] 1537 60 #[62] #[])
  fields := #[]
  methods := #[]
  instanceTypes := #[]
  staticTypes := #[]
  resolved := Array.replicate 115 none
  statics := none }

def pool15 : Array CpInfo := pool [(1, .methodref 2 3), (0, .class_ 4), (0, .nameAndType 5 6), (0, u "java/lang/Object"), (0, u "<init>"), (0, u "()V"), (1, .class_ 10), (1, u "java/util/AbstractCollection"), (66, .class_ 78), (0, u "java/util/Collection")] 81

def k15c0 : Code := { maxStack := 1, maxLocals := 1, code := jdk_22_method_1_code, exceptionTable := #[], attributes := #[] }
def k15m0 : Method := { name := "<init>", desc := "()V", sig := { parameters := [], returnType := none }, accessFlags := 4, code := some k15c0 }
/-- java/util/AbstractCollection -/
def k15 : Class := { plain "java/util/AbstractCollection" (some 0) with
  accessFlags := 1057
  interfaces := #[14]
  cf := some (fileOf pool15 8 #[] #[{ accessFlags := 4, nameIndex := 5, descriptorIndex := 6, attributes := #[] }] 1057 2 #[77] #[])
  fields := #[]
  methods := #[k15m0]
  instanceTypes := #[]
  staticTypes := #[]
  resolved := Array.replicate 160 none
  statics := none }

def pool16 : Array CpInfo := pool [(8, .class_ 10), (1, u "java/util/SequencedCollection"), (15, .class_ 27), (0, u "java/lang/Object"), (0, .class_ 29), (0, u "java/util/Collection")] 27

/-- java/util/SequencedCollection -/
def k16 : Class := { plain "java/util/SequencedCollection" (some 0) with
  accessFlags := 1537
  interfaces := #[14]
  cf := some (fileOf pool16 8 #[] #[] 1537 26 #[28] #[])
  fields := #[]
  methods := #[]
  instanceTypes := #[]
  staticTypes := #[]
  resolved := Array.replicate 57 none
  statics := none }

def pool17 : Array CpInfo := pool [(8, .class_ 10), (1, u "java/util/List"), (49, u "add"), (3, u "(Ljava/lang/Object;)Z"), (38, .class_ 104), (0, u "java/lang/Object"), (15, .class_ 121), (0, u "java/util/SequencedCollection")] 129

def k17m0 : Method := { name := "add", desc := "(Ljava/lang/Object;)Z", sig := { parameters := [(.object "java/lang/Object")], returnType := some .boolean }, accessFlags := 1025, code := none }
/-- java/util/List -/
def k17 : Class := { plain "java/util/List" (some 0) with
  accessFlags := 1537
  interfaces := #[16]
  cf := some (fileOf pool17 8 #[] #[{ accessFlags := 1025, nameIndex := 60, descriptorIndex := 64, attributes := #[] }] 1537 103 #[120] #[])
  fields := #[]
  methods := #[k17m0]
  instanceTypes := #[]
  staticTypes := #[]
  resolved := Array.replicate 251 none
  statics := none }

def pool18 : Array CpInfo := pool [(1, .methodref 2 3), (0, .class_ 4), (0, .nameAndType 5 6), (0, u "java/util/AbstractCollection"), (0, u "<init>"), (0, u "()V"), (0, .fieldref 8 9), (0, .class_ 10), (0, .nameAndType 11 12), (0, u "java/util/AbstractList"), (0, u "modCount"), (0, u "I"), (64, .class_ 78), (0, u "java/util/AbstractList$Itr"), (3, .class_ 83), (0, u "java/util/AbstractList$ListItr"), (9, .class_ 94), (0, u "java/util/AbstractList$RandomAccessSubList"), (3, .class_ 99), (0, u "java/util/AbstractList$SubList"), (33, .class_ 134), (0, u "java/util/List"), (73, .class_ 209), (0, u "java/util/AbstractList$SubList$1"), (0, .class_ 211), (0, u "java/util/AbstractList$RandomAccessSpliterator")] 6

def k18c0 : Code := { maxStack := 2, maxLocals := 1, code := jdk_39_method_1_code, exceptionTable := #[], attributes := #[] }
def k18m0 : Method := { name := "<init>", desc := "()V", sig := { parameters := [], returnType := none }, accessFlags := 4, code := some k18c0 }
/-- java/util/AbstractList -/
def k18 : Class := { plain "java/util/AbstractList" (some 15) with
  accessFlags := 1057
  interfaces := #[17]
  cf := some (fileOf pool18 8 #[.nestMembers #[93, 98, 208, 210, 82, 77]] #[{ accessFlags := 4, nameIndex := 5, descriptorIndex := 6, attributes := #[] }] 1057 2 #[133] #[{ accessFlags := 132, nameIndex := 11, descriptorIndex := 12, attributes := #[] }])
  fields := #[{ name := "modCount", type := .int, accessFlags := 132, slot := 0, constantValue := 0 }]
  methods := #[k18m0]
  instanceTypes := #[.int]
  staticTypes := #[]
  resolved := Array.replicate 218 none
  statics := none }

def pool19 : Array CpInfo := pool [(1, .class_ 2), (0, u "java/util/RandomAccess"), (0, .class_ 4), (0, u "java/lang/Object")] 2

/-- java/util/RandomAccess -/
def k19 : Class := { plain "java/util/RandomAccess" (some 0) with
  accessFlags := 1537
  interfaces := #[]
  cf := some (fileOf pool19 1 #[] #[] 1537 3 #[] #[])
  fields := #[]
  methods := #[]
  instanceTypes := #[]
  staticTypes := #[]
  resolved := Array.replicate 7 none
  statics := none }

def pool20 : Array CpInfo := pool [(1, .class_ 2), (0, u "java/lang/Cloneable"), (0, .class_ 4), (0, u "java/lang/Object")] 2

/-- java/lang/Cloneable -/
def k20 : Class := { plain "java/lang/Cloneable" (some 0) with
  accessFlags := 1537
  interfaces := #[]
  cf := some (fileOf pool20 1 #[] #[] 1537 3 #[] #[])
  fields := #[]
  methods := #[]
  instanceTypes := #[]
  staticTypes := #[]
  resolved := Array.replicate 7 none
  statics := none }

def pool21 : Array CpInfo := pool [(1, .methodref 2 3), (0, .class_ 4), (0, .nameAndType 5 6), (0, u "java/util/AbstractList"), (0, u "<init>"), (0, u "()V"), (0, .class_ 8), (0, u "java/lang/Object"), (0, .fieldref 10 11), (0, .class_ 12), (0, .nameAndType 13 14), (0, u "java/util/ArrayList"), (0, u "elementData"), (0, u "[Ljava/lang/Object;"), (2, u "EMPTY_ELEMENTDATA"), (23, u "DEFAULTCAPACITY_EMPTY_ELEMENTDATA"), (5, u "()[Ljava/lang/Object;"), (0, .fieldref 10 49), (0, .nameAndType 50 51), (0, u "size"), (0, u "I"), (6, .class_ 60), (1, u "java/util/Arrays"), (0, u "copyOf"), (1, .fieldref 10 64), (0, .nameAndType 65 51), (0, u "modCount"), (0, .methodref 58 67), (0, .nameAndType 61 68), (0, u "([Ljava/lang/Object;I)[Ljava/lang/Object;"), (0, .methodref 10 70), (0, .nameAndType 71 72), (0, u "grow"), (0, u "(I)[Ljava/lang/Object;"), (0, .methodref 74 75), (0, .class_ 76), (0, .nameAndType 77 78), (0, u "jdk/internal/util/ArraysSupport"), (0, u "newLength"), (0, u "(III)I"), (17, u "(Ljava/lang/Object;)Z"), (32, .methodref 10 130), (0, .nameAndType 71 47), (0, .methodref 10 132), (0, .nameAndType 133 134), (0, u "add"), (0, u "(Ljava/lang/Object;[Ljava/lang/Object;I)V"), (3, u "(I)V"), (9, .class_ 149), (0, u "java/util/List"), (112, .class_ 263), (0, u "java/util/ArrayList$ListItr"), (3, .class_ 268), (0, u "java/util/ArrayList$Itr"), (7, .class_ 277), (0, u "java/util/ArrayList$SubList"), (12, .class_ 291), (0, u "java/util/ArrayList$ArrayListSpliterator"), (37, .class_ 330), (0, u "java/util/RandomAccess"), (0, .class_ 332), (0, u "java/lang/Cloneable"), (0, .class_ 334), (0, u "java/io/Serializable"), (0, u "serialVersionUID"), (0, u "J"), (3, u "DEFAULT_CAPACITY"), (159, .class_ 501), (0, u "java/util/ArrayList$SubList$2"), (0, .class_ 503), (0, u "java/util/ArrayList$SubList$1")] 5

def k21c0 : Code := { maxStack := 4, maxLocals := 2, code := jdk_38_method_1_code, exceptionTable := #[], attributes := #[] }
def k21m0 : Method := { name := "<init>", desc := "(I)V", sig := { parameters := [.int], returnType := none }, accessFlags := 1, code := some k21c0 }
def k21m1 : Method := { name := "<init>", desc := "()V", sig := { parameters := [], returnType := none }, accessFlags := 1, code := none }
def k21c2 : Code := { maxStack := 4, maxLocals := 4, code := jdk_38_method_6_code, exceptionTable := #[], attributes := #[] }
def k21m2 : Method := { name := "grow", desc := "(I)[Ljava/lang/Object;", sig := { parameters := [.int], returnType := some (.array (.object "java/lang/Object")) }, accessFlags := 2, code := some k21c2 }
def k21c3 : Code := { maxStack := 3, maxLocals := 1, code := jdk_38_method_7_code, exceptionTable := #[], attributes := #[] }
def k21m3 : Method := { name := "grow", desc := "()[Ljava/lang/Object;", sig := { parameters := [], returnType := some (.array (.object "java/lang/Object")) }, accessFlags := 2, code := some k21c3 }
def k21c4 : Code := { maxStack := 3, maxLocals := 4, code := jdk_38_method_24_code, exceptionTable := #[], attributes := #[] }
def k21m4 : Method := { name := "add", desc := "(Ljava/lang/Object;[Ljava/lang/Object;I)V", sig := { parameters := [(.object "java/lang/Object"), (.array (.object "java/lang/Object")), .int], returnType := none }, accessFlags := 2, code := some k21c4 }
def k21c5 : Code := { maxStack := 4, maxLocals := 2, code := jdk_38_method_25_code, exceptionTable := #[], attributes := #[] }
def k21m5 : Method := { name := "add", desc := "(Ljava/lang/Object;)Z", sig := { parameters := [(.object "java/lang/Object")], returnType := some .boolean }, accessFlags := 1, code := some k21c5 }
/-- java/util/ArrayList -/
def k21 : Class := { plain "java/util/ArrayList" (some 18) with
  accessFlags := 33
  interfaces := #[17, 19, 20, 3]
  cf := some (fileOf pool21 10 #[.nestMembers #[290, 276, 500, 502, 262, 267]] #[{ accessFlags := 1, nameIndex := 5, descriptorIndex := 138, attributes := #[] }, { accessFlags := 1, nameIndex := 5, descriptorIndex := 6, attributes := #[] }, { accessFlags := 2, nameIndex := 71, descriptorIndex := 72, attributes := #[] }, { accessFlags := 2, nameIndex := 71, descriptorIndex := 47, attributes := #[] }, { accessFlags := 2, nameIndex := 133, descriptorIndex := 134, attributes := #[] }, { accessFlags := 1, nameIndex := 133, descriptorIndex := 96, attributes := #[] }] 33 2 #[148, 329, 331, 333] #[{ accessFlags := 26, nameIndex := 335, descriptorIndex := 336, attributes := #[] }, { accessFlags := 26, nameIndex := 340, descriptorIndex := 51, attributes := #[] }, { accessFlags := 26, nameIndex := 17, descriptorIndex := 14, attributes := #[] }, { accessFlags := 26, nameIndex := 41, descriptorIndex := 14, attributes := #[] }, { accessFlags := 128, nameIndex := 13, descriptorIndex := 14, attributes := #[] }, { accessFlags := 2, nameIndex := 50, descriptorIndex := 51, attributes := #[] }])
  fields := #[{ name := "serialVersionUID", type := .long, accessFlags := 26, slot := 0, constantValue := 0 }, { name := "DEFAULT_CAPACITY", type := .int, accessFlags := 26, slot := 1, constantValue := 0 }, { name := "EMPTY_ELEMENTDATA", type := (.array (.object "java/lang/Object")), accessFlags := 26, slot := 2, constantValue := 0 }, { name := "DEFAULTCAPACITY_EMPTY_ELEMENTDATA", type := (.array (.object "java/lang/Object")), accessFlags := 26, slot := 3, constantValue := 0 }, { name := "elementData", type := (.array (.object "java/lang/Object")), accessFlags := 128, slot := 1, constantValue := 0 }, { name := "size", type := .int, accessFlags := 2, slot := 2, constantValue := 0 }]
  methods := #[k21m0, k21m1, k21m2, k21m3, k21m4, k21m5]
  instanceTypes := #[.int, (.array (.object "java/lang/Object")), .int]
  staticTypes := #[.long, .int, (.array (.object "java/lang/Object")), (.array (.object "java/lang/Object"))]
  resolved := Array.replicate 509 none
  statics := none }

def pool22 : Array CpInfo := pool [(9, u "<init>"), (6, .class_ 18), (1, u "java/lang/Object"), (0, u "()V"), (1, .class_ 23), (1, u "jdk/internal/util/ArraysSupport"), (0, u "LOG2_ARRAY_LONG_INDEX_SCALE"), (0, u "I"), (2, u "U"), (0, u "Ljdk/internal/misc/Unsafe;"), (8, u "BIG_ENDIAN"), (0, u "Z"), (8, u "LOG2_BYTE_BIT_SIZE"), (4, u "LOG2_ARRAY_INT_INDEX_SCALE"), (54, u "JLA"), (0, u "Ljdk/internal/access/JavaLangAccess;"), (11, u "LOG2_ARRAY_BOOLEAN_INDEX_SCALE"), (9, u "LOG2_ARRAY_BYTE_INDEX_SCALE"), (5, u "LOG2_ARRAY_CHAR_INDEX_SCALE"), (5, u "LOG2_ARRAY_SHORT_INDEX_SCALE"), (18, u "LOG2_ARRAY_FLOAT_INDEX_SCALE"), (24, u "LOG2_ARRAY_DOUBLE_INDEX_SCALE"), (6, .methodref 195 196), (0, .class_ 197), (0, .nameAndType 198 199), (0, u "java/lang/Math"), (0, u "max"), (0, u "(II)I"), (0, .integer 2147483639), (76, u "T_BOOLEAN"), (2, u "T_CHAR"), (1, u "T_FLOAT"), (1, u "T_DOUBLE"), (1, u "T_BYTE"), (1, u "T_SHORT"), (1, u "T_INT"), (1, u "T_LONG"), (1, u "SOFT_MAX_ARRAY_LENGTH"), (56, u "newLength"), (0, u "(III)I")] 25

def k22m0 : Method := { name := "<init>", desc := "()V", sig := { parameters := [], returnType := none }, accessFlags := 2, code := none }
def k22c1 : Code := { maxStack := 3, maxLocals := 4, code := jdk_48_method_27_code, exceptionTable := #[], attributes := #[] }
def k22m1 : Method := { name := "newLength", desc := "(III)I", sig := { parameters := [.int, .int, .int], returnType := some .int }, accessFlags := 9, code := some k22c1 }
/-- jdk/internal/util/ArraysSupport -/
def k22 : Class := { plain "jdk/internal/util/ArraysSupport" (some 0) with
  accessFlags := 33
  interfaces := #[]
  cf := some (fileOf pool22 21 #[] #[{ accessFlags := 2, nameIndex := 9, descriptorIndex := 19, attributes := #[] }, { accessFlags := 9, nameIndex := 351, descriptorIndex := 352, attributes := #[] }] 33 16 #[] #[{ accessFlags := 24, nameIndex := 28, descriptorIndex := 29, attributes := #[] }, { accessFlags := 26, nameIndex := 38, descriptorIndex := 39, attributes := #[] }, { accessFlags := 25, nameIndex := 121, descriptorIndex := 25, attributes := #[] }, { accessFlags := 25, nameIndex := 131, descriptorIndex := 25, attributes := #[] }, { accessFlags := 25, nameIndex := 137, descriptorIndex := 25, attributes := #[] }, { accessFlags := 25, nameIndex := 143, descriptorIndex := 25, attributes := #[] }, { accessFlags := 25, nameIndex := 53, descriptorIndex := 25, attributes := #[] }, { accessFlags := 25, nameIndex := 24, descriptorIndex := 25, attributes := #[] }, { accessFlags := 25, nameIndex := 162, descriptorIndex := 25, attributes := #[] }, { accessFlags := 25, nameIndex := 187, descriptorIndex := 25, attributes := #[] }, { accessFlags := 26, nameIndex := 48, descriptorIndex := 25, attributes := #[] }, { accessFlags := 25, nameIndex := 277, descriptorIndex := 25, attributes := #[] }, { accessFlags := 25, nameIndex := 280, descriptorIndex := 25, attributes := #[] }, { accessFlags := 25, nameIndex := 282, descriptorIndex := 25, attributes := #[] }, { accessFlags := 25, nameIndex := 284, descriptorIndex := 25, attributes := #[] }, { accessFlags := 25, nameIndex := 286, descriptorIndex := 25, attributes := #[] }, { accessFlags := 25, nameIndex := 288, descriptorIndex := 25, attributes := #[] }, { accessFlags := 25, nameIndex := 290, descriptorIndex := 25, attributes := #[] }, { accessFlags := 25, nameIndex := 292, descriptorIndex := 25, attributes := #[] }, { accessFlags := 26, nameIndex := 108, descriptorIndex := 109, attributes := #[] }, { accessFlags := 25, nameIndex := 294, descriptorIndex := 25, attributes := #[] }])
  fields := #[{ name := "U", type := (.object "jdk/internal/misc/Unsafe"), accessFlags := 24, slot := 0, constantValue := 0 }, { name := "BIG_ENDIAN", type := .boolean, accessFlags := 26, slot := 1, constantValue := 0 }, { name := "LOG2_ARRAY_BOOLEAN_INDEX_SCALE", type := .int, accessFlags := 25, slot := 2, constantValue := 0 }, { name := "LOG2_ARRAY_BYTE_INDEX_SCALE", type := .int, accessFlags := 25, slot := 3, constantValue := 0 }, { name := "LOG2_ARRAY_CHAR_INDEX_SCALE", type := .int, accessFlags := 25, slot := 4, constantValue := 0 }, { name := "LOG2_ARRAY_SHORT_INDEX_SCALE", type := .int, accessFlags := 25, slot := 5, constantValue := 0 }, { name := "LOG2_ARRAY_INT_INDEX_SCALE", type := .int, accessFlags := 25, slot := 6, constantValue := 0 }, { name := "LOG2_ARRAY_LONG_INDEX_SCALE", type := .int, accessFlags := 25, slot := 7, constantValue := 0 }, { name := "LOG2_ARRAY_FLOAT_INDEX_SCALE", type := .int, accessFlags := 25, slot := 8, constantValue := 0 }, { name := "LOG2_ARRAY_DOUBLE_INDEX_SCALE", type := .int, accessFlags := 25, slot := 9, constantValue := 0 }, { name := "LOG2_BYTE_BIT_SIZE", type := .int, accessFlags := 26, slot := 10, constantValue := 0 }, { name := "T_BOOLEAN", type := .int, accessFlags := 25, slot := 11, constantValue := 0 }, { name := "T_CHAR", type := .int, accessFlags := 25, slot := 12, constantValue := 0 }, { name := "T_FLOAT", type := .int, accessFlags := 25, slot := 13, constantValue := 0 }, { name := "T_DOUBLE", type := .int, accessFlags := 25, slot := 14, constantValue := 0 }, { name := "T_BYTE", type := .int, accessFlags := 25, slot := 15, constantValue := 0 }, { name := "T_SHORT", type := .int, accessFlags := 25, slot := 16, constantValue := 0 }, { name := "T_INT", type := .int, accessFlags := 25, slot := 17, constantValue := 0 }, { name := "T_LONG", type := .int, accessFlags := 25, slot := 18, constantValue := 0 }, { name := "JLA", type := (.object "jdk/internal/access/JavaLangAccess"), accessFlags := 26, slot := 19, constantValue := 0 }, { name := "SOFT_MAX_ARRAY_LENGTH", type := .int, accessFlags := 25, slot := 20, constantValue := 0 }]
  methods := #[k22m0, k22m1]
  instanceTypes := #[]
  staticTypes := #[(.object "jdk/internal/misc/Unsafe"), .boolean, .int, .int, .int, .int, .int, .int, .int, .int, .int, .int, .int, .int, .int, .int, .int, .int, .int, (.object "jdk/internal/access/JavaLangAccess"), .int]
  resolved := Array.replicate 378 none
  statics := none }

def pool23 : Array CpInfo := pool [(1, .class_ 2), (0, u "java/lang/Math"), (1, .class_ 6), (1, u "java/lang/Object"), (0, u "<init>"), (0, u "()V"), (89, .class_ 100), (1, u "java/lang/Math$RandomNumberGeneratorHolder"), (71, u "negativeZeroFloatBits"), (0, u "J"), (2, u "negativeZeroDoubleBits"), (21, u "max"), (2, u "min"), (43, u "$assertionsDisabled"), (0, u "Z"), (88, u "(II)I"), (2, u "twoToTheDoubleScaleDown"), (0, u "D"), (4, u "twoToTheDoubleScaleUp"), (9, u "E"), (3, u "PI"), (2, u "TAU"), (2, u "DEGREES_TO_RADIANS"), (0, u "RADIANS_TO_DEGREES")] 94

def k23m0 : Method := { name := "<init>", desc := "()V", sig := { parameters := [], returnType := none }, accessFlags := 2, code := none }
def k23c1 : Code := { maxStack := 2, maxLocals := 2, code := jdk_29_method_65_code, exceptionTable := #[], attributes := #[] }
def k23m1 : Method := { name := "max", desc := "(II)I", sig := { parameters := [.int, .int], returnType := some .int }, accessFlags := 9, code := some k23c1 }
def k23c2 : Code := { maxStack := 2, maxLocals := 2, code := jdk_29_method_69_code, exceptionTable := #[], attributes := #[] }
def k23m2 : Method := { name := "min", desc := "(II)I", sig := { parameters := [.int, .int], returnType := some .int }, accessFlags := 9, code := some k23c2 }
/-- java/lang/Math -/
def k23 : Class := { plain "java/lang/Math" (some 0) with
  accessFlags := 49
  interfaces := #[]
  cf := some (fileOf pool23 1 #[.nestMembers #[98]] #[{ accessFlags := 2, nameIndex := 7, descriptorIndex := 8, attributes := #[] }, { accessFlags := 9, nameIndex := 198, descriptorIndex := 335, attributes := #[] }, { accessFlags := 9, nameIndex := 201, descriptorIndex := 335, attributes := #[] }] 49 4 #[] #[{ accessFlags := 25, nameIndex := 354, descriptorIndex := 339, attributes := #[] }, { accessFlags := 25, nameIndex := 358, descriptorIndex := 339, attributes := #[] }, { accessFlags := 25, nameIndex := 361, descriptorIndex := 339, attributes := #[] }, { accessFlags := 26, nameIndex := 364, descriptorIndex := 339, attributes := #[] }, { accessFlags := 26, nameIndex := 365, descriptorIndex := 339, attributes := #[] }, { accessFlags := 26, nameIndex := 172, descriptorIndex := 173, attributes := #[] }, { accessFlags := 26, nameIndex := 176, descriptorIndex := 173, attributes := #[] }, { accessFlags := 8, nameIndex := 344, descriptorIndex := 339, attributes := #[] }, { accessFlags := 8, nameIndex := 338, descriptorIndex := 339, attributes := #[] }, { accessFlags := 4120, nameIndex := 245, descriptorIndex := 246, attributes := #[] }])
  fields := #[{ name := "E", type := .double, accessFlags := 25, slot := 0, constantValue := 0 }, { name := "PI", type := .double, accessFlags := 25, slot := 1, constantValue := 0 }, { name := "TAU", type := .double, accessFlags := 25, slot := 2, constantValue := 0 }, { name := "DEGREES_TO_RADIANS", type := .double, accessFlags := 26, slot := 3, constantValue := 0 }, { name := "RADIANS_TO_DEGREES", type := .double, accessFlags := 26, slot := 4, constantValue := 0 }, { name := "negativeZeroFloatBits", type := .long, accessFlags := 26, slot := 5, constantValue := 0 }, { name := "negativeZeroDoubleBits", type := .long, accessFlags := 26, slot := 6, constantValue := 0 }, { name := "twoToTheDoubleScaleUp", type := .double, accessFlags := 8, slot := 7, constantValue := 0 }, { name := "twoToTheDoubleScaleDown", type := .double, accessFlags := 8, slot := 8, constantValue := 0 }, { name := "$assertionsDisabled", type := .boolean, accessFlags := 4120, slot := 9, constantValue := 0 }]
  methods := #[k23m0, k23m1, k23m2]
  instanceTypes := #[]
  staticTypes := #[.double, .double, .double, .double, .double, .long, .long, .double, .double, .boolean]
  resolved := Array.replicate 460 none
  statics := none }

def pool24 : Array CpInfo := pool [(2, .class_ 4), (1, u "java/lang/Object"), (0, u "<init>"), (0, u "()V"), (7, .class_ 16), (1, u "java/util/Arrays"), (57, .class_ 76), (1, u "java/util/Arrays$NaturalOrder"), (9, .methodref 2 87), (0, .nameAndType 88 89), (0, u "getClass"), (0, u "()Ljava/lang/Class;"), (20, .class_ 111), (0, u "[Ljava/lang/Object;"), (1, .class_ 115), (1, u "java/util/Arrays$LegacyMergeSort"), (1, u "Z"), (32, .methodref 151 152), (0, .class_ 153), (0, .nameAndType 154 155), (0, u "java/lang/System"), (0, u "arraycopy"), (0, u "(Ljava/lang/Object;ILjava/lang/Object;II)V"), (144, .methodref 14 301), (0, .nameAndType 302 303), (0, u "copyOf"), (0, u "([Ljava/lang/Object;ILjava/lang/Class;)[Ljava/lang/Object;"), (0, .methodref 305 306), (0, .class_ 307), (0, .nameAndType 308 309), (0, u "java/lang/Math"), (0, u "min"), (0, u "(II)I"), (65, .class_ 376), (0, u "java/util/Arrays$ArrayList"), (68, u "$assertionsDisabled"), (269, u "MIN_ARRAY_SORT_GRAN"), (0, u "I"), (2, u "INSERTIONSORT_THRESHOLD"), (140, u "([Ljava/lang/Object;I)[Ljava/lang/Object;"), (114, .class_ 976), (0, u "java/util/Arrays$ArrayItr")] 52

def k24m0 : Method := { name := "<init>", desc := "()V", sig := { parameters := [], returnType := none }, accessFlags := 2, code := none }
def k24c1 : Code := { maxStack := 3, maxLocals := 2, code := jdk_65_method_119_code, exceptionTable := #[], attributes := #[] }
def k24m1 : Method := { name := "copyOf", desc := "([Ljava/lang/Object;I)[Ljava/lang/Object;", sig := { parameters := [(.array (.object "java/lang/Object")), .int], returnType := some (.array (.object "java/lang/Object")) }, accessFlags := 9, code := some k24c1 }
def k24c2 : Code := { maxStack := 6, maxLocals := 4, code := jdk_65_method_120_code, exceptionTable := #[], attributes := #[] }
def k24m2 : Method := { name := "copyOf", desc := "([Ljava/lang/Object;ILjava/lang/Class;)[Ljava/lang/Object;", sig := { parameters := [(.array (.object "java/lang/Object")), .int, (.object "java/lang/Class")], returnType := some (.array (.object "java/lang/Object")) }, accessFlags := 9, code := some k24c2 }
/-- java/util/Arrays -/
def k24 : Class := { plain "java/util/Arrays" (some 0) with
  accessFlags := 49
  interfaces := #[]
  cf := some (fileOf pool24 14 #[.nestMembers #[975, 375, 113, 74]] #[{ accessFlags := 2, nameIndex := 5, descriptorIndex := 6, attributes := #[] }, { accessFlags := 9, nameIndex := 302, descriptorIndex := 860, attributes := #[] }, { accessFlags := 9, nameIndex := 302, descriptorIndex := 303, attributes := #[] }] 49 2 #[] #[{ accessFlags := 26, nameIndex := 715, descriptorIndex := 716, attributes := #[] }, { accessFlags := 26, nameIndex := 719, descriptorIndex := 716, attributes := #[] }, { accessFlags := 4120, nameIndex := 445, descriptorIndex := 117, attributes := #[] }])
  fields := #[{ name := "MIN_ARRAY_SORT_GRAN", type := .int, accessFlags := 26, slot := 0, constantValue := 0 }, { name := "INSERTIONSORT_THRESHOLD", type := .int, accessFlags := 26, slot := 1, constantValue := 0 }, { name := "$assertionsDisabled", type := .boolean, accessFlags := 4120, slot := 2, constantValue := 0 }]
  methods := #[k24m0, k24m1, k24m2]
  instanceTypes := #[]
  staticTypes := #[.int, .int, .boolean]
  resolved := Array.replicate 1029 none
  statics := none }

def pool25 : Array CpInfo := pool [(2, .class_ 4), (1, u "java/lang/Object"), (0, u "<init>"), (0, u "()V"), (1, .class_ 10), (1, u "java/lang/System"), (0, u "allowSecurityManager"), (0, u "I"), (16, u "cons"), (0, u "Ljava/io/Console;"), (77, .class_ 110), (1, u "java/lang/System$CallersHolder"), (43, u "initialErrStream"), (0, u "Ljava/io/PrintStream;"), (19, u "security"), (0, u "Ljava/lang/SecurityManager;"), (31, .class_ 209), (0, u "java/lang/System$1"), (7, u "props"), (0, u "Ljava/util/Properties;"), (2, u "lineSeparator"), (0, u "Ljava/lang/String;"), (96, .class_ 321), (1, u "java/lang/System$LoggerFinder"), (5, .class_ 328), (0, u "java/lang/System$Logger"), (67, u "err"), (2, u "out"), (91, u "notSupportedJnuEncoding"), (15, u "in"), (17, u "initialIn"), (0, u "Ljava/io/InputStream;"), (35, u "bootLayer"), (0, u "Ljava/lang/ModuleLayer;"), (99, .class_ 664), (0, u "java/lang/System$2"), (9, u "NEVER"), (2, u "MAYBE"), (49, u "arraycopy"), (0, u "(Ljava/lang/Object;ILjava/lang/Object;II)V"), (72, .class_ 802), (0, u "java/lang/System$Logger$Level")] 31

def k25m0 : Method := { name := "<init>", desc := "()V", sig := { parameters := [], returnType := none }, accessFlags := 2, code := none }
def k25m1 : Method := { name := "arraycopy", desc := "(Ljava/lang/Object;ILjava/lang/Object;II)V", sig := { parameters := [(.object "java/lang/Object"), .int, (.object "java/lang/Object"), .int, .int], returnType := none }, accessFlags := 265, code := none }
/-- java/lang/System -/
def k25 : Class := { plain "java/lang/System" (some 0) with
  accessFlags := 49
  interfaces := #[]
  cf := some (fileOf pool25 8 #[.nestMembers #[319, 327, 801, 108, 663, 208]] #[{ accessFlags := 2, nameIndex := 5, descriptorIndex := 6, attributes := #[] }, { accessFlags := 265, nameIndex := 727, descriptorIndex := 728, attributes := #[] }] 49 2 #[] #[{ accessFlags := 25, nameIndex := 507, descriptorIndex := 526, attributes := #[] }, { accessFlags := 25, nameIndex := 399, descriptorIndex := 155, attributes := #[] }, { accessFlags := 25, nameIndex := 396, descriptorIndex := 155, attributes := #[] }, { accessFlags := 10, nameIndex := 525, descriptorIndex := 526, attributes := #[] }, { accessFlags := 26, nameIndex := 674, descriptorIndex := 12, attributes := #[] }, { accessFlags := 26, nameIndex := 677, descriptorIndex := 12, attributes := #[] }, { accessFlags := 10, nameIndex := 11, descriptorIndex := 12, attributes := #[] }, { accessFlags := 74, nameIndex := 175, descriptorIndex := 176, attributes := #[] }, { accessFlags := 10, nameIndex := 491, descriptorIndex := 222, attributes := #[] }, { accessFlags := 74, nameIndex := 29, descriptorIndex := 30, attributes := #[] }, { accessFlags := 74, nameIndex := 154, descriptorIndex := 155, attributes := #[] }, { accessFlags := 10, nameIndex := 217, descriptorIndex := 218, attributes := #[] }, { accessFlags := 10, nameIndex := 221, descriptorIndex := 222, attributes := #[] }, { accessFlags := 8, nameIndex := 562, descriptorIndex := 563, attributes := #[] }])
  fields := #[{ name := "in", type := (.object "java/io/InputStream"), accessFlags := 25, slot := 0, constantValue := 0 }, { name := "out", type := (.object "java/io/PrintStream"), accessFlags := 25, slot := 1, constantValue := 0 }, { name := "err", type := (.object "java/io/PrintStream"), accessFlags := 25, slot := 2, constantValue := 0 }, { name := "initialIn", type := (.object "java/io/InputStream"), accessFlags := 10, slot := 3, constantValue := 0 }, { name := "NEVER", type := .int, accessFlags := 26, slot := 4, constantValue := 0 }, { name := "MAYBE", type := .int, accessFlags := 26, slot := 5, constantValue := 0 }, { name := "allowSecurityManager", type := .int, accessFlags := 10, slot := 6, constantValue := 0 }, { name := "security", type := (.object "java/lang/SecurityManager"), accessFlags := 74, slot := 7, constantValue := 0 }, { name := "notSupportedJnuEncoding", type := (.object "java/lang/String"), accessFlags := 10, slot := 8, constantValue := 0 }, { name := "cons", type := (.object "java/io/Console"), accessFlags := 74, slot := 9, constantValue := 0 }, { name := "initialErrStream", type := (.object "java/io/PrintStream"), accessFlags := 74, slot := 10, constantValue := 0 }, { name := "props", type := (.object "java/util/Properties"), accessFlags := 10, slot := 11, constantValue := 0 }, { name := "lineSeparator", type := (.object "java/lang/String"), accessFlags := 10, slot := 12, constantValue := 0 }, { name := "bootLayer", type := (.object "java/lang/ModuleLayer"), accessFlags := 8, slot := 13, constantValue := 0 }]
  methods := #[k25m0, k25m1]
  instanceTypes := #[]
  staticTypes := #[(.object "java/io/InputStream"), (.object "java/io/PrintStream"), (.object "java/io/PrintStream"), (.object "java/io/InputStream"), .int, .int, .int, (.object "java/lang/SecurityManager"), (.object "java/lang/String"), (.object "java/io/Console"), (.object "java/io/PrintStream"), (.object "java/util/Properties"), (.object "java/lang/String"), (.object "java/lang/ModuleLayer")]
  resolved := Array.replicate 834 none
  statics := none }

def pool26 : Array CpInfo := pool [(2, .class_ 4), (1, u "java/lang/Object"), (0, u "<init>"), (0, u "()V"), (12, .class_ 20), (0, u "java/util/Collections"), (63, u "r"), (0, u "Ljava/util/Random;"), (80, .class_ 167), (0, u "java/util/Collections$UnmodifiableCollection"), (6, .class_ 175), (0, u "java/util/Collections$UnmodifiableSequencedCollection"), (6, .class_ 183), (0, u "java/util/Collections$UnmodifiableSet"), (6, .class_ 191), (0, u "java/util/Collections$UnmodifiableSequencedSet"), (6, .class_ 199), (0, u "java/util/Collections$UnmodifiableSortedSet"), (6, .class_ 207), (0, u "java/util/Collections$UnmodifiableNavigableSet"), (4, .class_ 213), (0, u "java/util/Collections$UnmodifiableList"), (1, .class_ 216), (0, u "java/util/Collections$UnmodifiableRandomAccessList"), (6, .class_ 224), (0, u "java/util/Collections$UnmodifiableMap"), (6, .class_ 232), (0, u "java/util/Collections$UnmodifiableSequencedMap"), (4, .class_ 238), (0, u "java/util/Collections$UnmodifiableSortedMap"), (6, .class_ 246), (0, u "java/util/Collections$UnmodifiableNavigableMap"), (3, .class_ 251), (0, u "java/util/Collections$SynchronizedCollection"), (4, .class_ 257), (0, u "java/util/Collections$SynchronizedSet"), (4, .class_ 263), (0, u "java/util/Collections$SynchronizedSortedSet"), (1, .class_ 266), (0, u "java/util/Collections$SynchronizedNavigableSet"), (1, .class_ 269), (0, u "java/util/Collections$SynchronizedRandomAccessList"), (1, .class_ 272), (0, u "java/util/Collections$SynchronizedList"), (5, .class_ 279), (0, u "java/util/Collections$SynchronizedMap"), (1, .class_ 282), (0, u "java/util/Collections$SynchronizedSortedMap"), (1, .class_ 285), (0, u "java/util/Collections$SynchronizedNavigableMap"), (1, .class_ 288), (0, u "java/util/Collections$CheckedCollection"), (11, .class_ 301), (0, u "java/util/Collections$CheckedQueue"), (3, .class_ 306), (0, u "java/util/Collections$CheckedSet"), (3, .class_ 311), (0, u "java/util/Collections$CheckedSortedSet"), (3, .class_ 316), (0, u "java/util/Collections$CheckedNavigableSet"), (3, .class_ 321), (0, u "java/util/Collections$CheckedRandomAccessList"), (3, .class_ 326), (0, u "java/util/Collections$CheckedList"), (1, .class_ 329), (0, u "java/util/Collections$CheckedMap"), (3, .class_ 334), (0, u "java/util/Collections$CheckedSortedMap"), (3, .class_ 339), (0, u "java/util/Collections$CheckedNavigableMap"), (4, .class_ 346), (1, u "java/util/Collections$EmptyIterator"), (3, .class_ 352), (1, u "java/util/Collections$EmptyListIterator"), (2, .class_ 357), (1, u "java/util/Collections$EmptyEnumeration"), (4, u "EMPTY_SET"), (0, u "Ljava/util/Set;"), (6, u "EMPTY_LIST"), (0, u "Ljava/util/List;"), (2, u "EMPTY_MAP"), (0, u "Ljava/util/Map;"), (4, .class_ 381), (0, u "java/util/Collections$SingletonSet"), (2, .class_ 385), (0, u "java/util/Collections$1"), (1, .class_ 388), (0, u "java/util/Collections$2"), (1, .class_ 391), (0, u "java/util/Collections$SingletonList"), (1, .class_ 394), (0, u "java/util/Collections$SingletonMap"), (22, .class_ 418), (0, u "java/util/Collections$CopiesList"), (4, .class_ 425), (1, u "java/util/Collections$ReverseComparator"), (8, .class_ 435), (0, u "java/util/Collections$ReverseComparator2"), (6, .class_ 443), (0, u "java/util/Collections$3"), (25, .class_ 470), (0, u "java/util/Collections$SetFromMap"), (2, .class_ 474), (0, u "java/util/Collections$SequencedSetFromMap"), (3, .class_ 479), (0, u "java/util/Collections$AsLIFOQueue"), (11, .class_ 492), (0, u "java/util/Collections$EmptySet"), (1, .class_ 495), (0, u "java/util/Collections$EmptyList"), (1, .class_ 498), (0, u "java/util/Collections$EmptyMap"), (1, u "BINARYSEARCH_THRESHOLD"), (0, u "I"), (2, u "REVERSE_THRESHOLD"), (1, u "SHUFFLE_THRESHOLD"), (1, u "FILL_THRESHOLD"), (1, u "ROTATE_THRESHOLD"), (1, u "COPY_THRESHOLD"), (1, u "REPLACEALL_THRESHOLD"), (1, u "INDEXOFSUBLIST_THRESHOLD"), (333, .class_ 851), (0, u "java/util/Collections$CheckedMap$CheckedEntrySet"), (0, .class_ 853), (0, u "java/util/Collections$CheckedMap$CheckedEntrySet$CheckedEntry"), (0, .class_ 855), (0, u "java/util/Collections$CheckedMap$CheckedEntrySet$1"), (0, .class_ 857), (0, u "java/util/Collections$CheckedList$1"), (0, .class_ 859), (0, u "java/util/Collections$CheckedCollection$1"), (0, .class_ 861), (0, u "java/util/Collections$UnmodifiableNavigableMap$EmptyNavigableMap"), (0, .class_ 863), (0, u "java/util/Collections$UnmodifiableMap$UnmodifiableEntrySet"), (0, .class_ 865), (0, u "java/util/Collections$UnmodifiableMap$UnmodifiableEntrySet$UnmodifiableEntry"), (0, .class_ 867), (0, u "java/util/Collections$UnmodifiableMap$UnmodifiableEntrySet$UnmodifiableEntrySetSpliterator"), (0, .class_ 869), (0, u "java/util/Collections$UnmodifiableMap$UnmodifiableEntrySet$1"), (0, .class_ 871), (0, u "java/util/Collections$UnmodifiableList$1"), (0, .class_ 873), (0, u "java/util/Collections$UnmodifiableNavigableSet$EmptyNavigableSet"), (0, .class_ 875), (0, u "java/util/Collections$UnmodifiableCollection$1")] 57

def k26m0 : Method := { name := "<init>", desc := "()V", sig := { parameters := [], returnType := none }, accessFlags := 2, code := none }
/-- java/util/Collections -/
def k26 : Class := { plain "java/util/Collections" (some 0) with
  accessFlags := 33
  interfaces := #[]
  cf := some (fileOf pool26 19 #[.nestMembers #[478, 473, 469, 434, 423, 417, 393, 390, 380, 497, 494, 491, 355, 350, 344, 338, 333, 328, 850, 852, 854, 320, 325, 856, 315, 310, 305, 300, 287, 858, 284, 281, 278, 268, 271, 265, 262, 256, 250, 245, 860, 237, 231, 223, 862, 864, 866, 868, 215, 212, 870, 206, 872, 198, 190, 182, 174, 166, 874, 442, 387, 384]] #[{ accessFlags := 2, nameIndex := 5, descriptorIndex := 6, attributes := #[] }] 33 2 #[] #[{ accessFlags := 26, nameIndex := 500, descriptorIndex := 501, attributes := #[] }, { accessFlags := 26, nameIndex := 504, descriptorIndex := 501, attributes := #[] }, { accessFlags := 26, nameIndex := 506, descriptorIndex := 501, attributes := #[] }, { accessFlags := 26, nameIndex := 508, descriptorIndex := 501, attributes := #[] }, { accessFlags := 26, nameIndex := 510, descriptorIndex := 501, attributes := #[] }, { accessFlags := 26, nameIndex := 512, descriptorIndex := 501, attributes := #[] }, { accessFlags := 26, nameIndex := 514, descriptorIndex := 501, attributes := #[] }, { accessFlags := 26, nameIndex := 516, descriptorIndex := 501, attributes := #[] }, { accessFlags := 10, nameIndex := 84, descriptorIndex := 85, attributes := #[] }, { accessFlags := 25, nameIndex := 362, descriptorIndex := 363, attributes := #[] }, { accessFlags := 25, nameIndex := 370, descriptorIndex := 371, attributes := #[] }, { accessFlags := 25, nameIndex := 374, descriptorIndex := 375, attributes := #[] }])
  fields := #[{ name := "BINARYSEARCH_THRESHOLD", type := .int, accessFlags := 26, slot := 0, constantValue := 0 }, { name := "REVERSE_THRESHOLD", type := .int, accessFlags := 26, slot := 1, constantValue := 0 }, { name := "SHUFFLE_THRESHOLD", type := .int, accessFlags := 26, slot := 2, constantValue := 0 }, { name := "FILL_THRESHOLD", type := .int, accessFlags := 26, slot := 3, constantValue := 0 }, { name := "ROTATE_THRESHOLD", type := .int, accessFlags := 26, slot := 4, constantValue := 0 }, { name := "COPY_THRESHOLD", type := .int, accessFlags := 26, slot := 5, constantValue := 0 }, { name := "REPLACEALL_THRESHOLD", type := .int, accessFlags := 26, slot := 6, constantValue := 0 }, { name := "INDEXOFSUBLIST_THRESHOLD", type := .int, accessFlags := 26, slot := 7, constantValue := 0 }, { name := "r", type := (.object "java/util/Random"), accessFlags := 10, slot := 8, constantValue := 0 }, { name := "EMPTY_SET", type := (.object "java/util/Set"), accessFlags := 25, slot := 9, constantValue := 0 }, { name := "EMPTY_LIST", type := (.object "java/util/List"), accessFlags := 25, slot := 10, constantValue := 0 }, { name := "EMPTY_MAP", type := (.object "java/util/Map"), accessFlags := 25, slot := 11, constantValue := 0 }]
  methods := #[k26m0]
  instanceTypes := #[]
  staticTypes := #[.int, .int, .int, .int, .int, .int, .int, .int, (.object "java/util/Random"), (.object "java/util/Set"), (.object "java/util/List"), (.object "java/util/Map")]
  resolved := Array.replicate 933 none
  statics := some 1 }

def pool27 : Array CpInfo := pool [(2, .class_ 4), (1, u "java/util/AbstractList"), (0, u "<init>"), (0, u "()V"), (1, .class_ 10), (1, u "java/util/Collections"), (54, .class_ 66), (0, u "java/util/Collections$EmptyList"), (0, .class_ 68), (0, u "java/util/RandomAccess"), (0, .class_ 70), (0, u "java/io/Serializable"), (0, u "serialVersionUID"), (0, u "J")] 77

def k27m0 : Method := { name := "<init>", desc := "()V", sig := { parameters := [], returnType := none }, accessFlags := 2, code := none }
/-- java/util/Collections$EmptyList -/
def k27 : Class := { plain "java/util/Collections$EmptyList" (some 18) with
  accessFlags := 32
  interfaces := #[19, 3]
  cf := some (fileOf pool27 65 #[.nestHost 8] #[{ accessFlags := 2, nameIndex := 5, descriptorIndex := 6, attributes := #[] }] 32 2 #[67, 69] #[{ accessFlags := 26, nameIndex := 71, descriptorIndex := 72, attributes := #[] }])
  fields := #[{ name := "serialVersionUID", type := .long, accessFlags := 26, slot := 0, constantValue := 0 }]
  methods := #[k27m0]
  instanceTypes := #[.int]
  staticTypes := #[.long]
  resolved := Array.replicate 150 none
  statics := none }

def pool28 : Array CpInfo := pool [(2, .class_ 4), (1, u "java/lang/StackTraceElement"), (0, u "<init>"), (2, .class_ 10), (1, u "java/lang/Object"), (0, u "()V"), (2, u "format"), (0, u "B"), (2, u "classLoaderName"), (0, u "Ljava/lang/String;"), (2, u "moduleName"), (2, u "moduleVersion"), (12, u "declaringClass"), (4, u "methodName"), (2, u "fileName"), (2, u "lineNumber"), (0, u "I"), (65, u "declaringClassObject"), (0, u "Ljava/lang/Class;"), (33, .class_ 153), (1, u "java/lang/StackTraceElement$HashedModules"), (17, .class_ 172), (0, u "java/io/Serializable"), (0, u "NATIVE_METHOD"), (1, u "UNKNOWN_SOURCE"), (2, u "BUILTIN_CLASS_LOADER"), (1, u "JDK_NON_UPGRADEABLE_MODULE"), (1, u "serialVersionUID"), (0, u "J")] 51

def k28m0 : Method := { name := "<init>", desc := "()V", sig := { parameters := [], returnType := none }, accessFlags := 2, code := none }
/-- java/lang/StackTraceElement -/
def k28 : Class := { plain "java/lang/StackTraceElement" (some 0) with
  accessFlags := 49
  interfaces := #[3]
  cf := some (fileOf pool28 2 #[.nestMembers #[151]] #[{ accessFlags := 2, nameIndex := 5, descriptorIndex := 11, attributes := #[] }] 49 8 #[171] #[{ accessFlags := 26, nameIndex := 173, descriptorIndex := 19, attributes := #[] }, { accessFlags := 26, nameIndex := 175, descriptorIndex := 19, attributes := #[] }, { accessFlags := 130, nameIndex := 116, descriptorIndex := 117, attributes := #[] }, { accessFlags := 2, nameIndex := 18, descriptorIndex := 19, attributes := #[] }, { accessFlags := 2, nameIndex := 22, descriptorIndex := 19, attributes := #[] }, { accessFlags := 2, nameIndex := 25, descriptorIndex := 19, attributes := #[] }, { accessFlags := 2, nameIndex := 38, descriptorIndex := 19, attributes := #[] }, { accessFlags := 2, nameIndex := 43, descriptorIndex := 19, attributes := #[] }, { accessFlags := 2, nameIndex := 46, descriptorIndex := 19, attributes := #[] }, { accessFlags := 2, nameIndex := 49, descriptorIndex := 50, attributes := #[] }, { accessFlags := 2, nameIndex := 14, descriptorIndex := 15, attributes := #[] }, { accessFlags := 26, nameIndex := 178, descriptorIndex := 15, attributes := #[] }, { accessFlags := 26, nameIndex := 180, descriptorIndex := 15, attributes := #[] }, { accessFlags := 26, nameIndex := 182, descriptorIndex := 183, attributes := #[] }])
  fields := #[{ name := "NATIVE_METHOD", type := (.object "java/lang/String"), accessFlags := 26, slot := 0, constantValue := 0 }, { name := "UNKNOWN_SOURCE", type := (.object "java/lang/String"), accessFlags := 26, slot := 1, constantValue := 0 }, { name := "declaringClassObject", type := (.object "java/lang/Class"), accessFlags := 130, slot := 0, constantValue := 0 }, { name := "classLoaderName", type := (.object "java/lang/String"), accessFlags := 2, slot := 1, constantValue := 0 }, { name := "moduleName", type := (.object "java/lang/String"), accessFlags := 2, slot := 2, constantValue := 0 }, { name := "moduleVersion", type := (.object "java/lang/String"), accessFlags := 2, slot := 3, constantValue := 0 }, { name := "declaringClass", type := (.object "java/lang/String"), accessFlags := 2, slot := 4, constantValue := 0 }, { name := "methodName", type := (.object "java/lang/String"), accessFlags := 2, slot := 5, constantValue := 0 }, { name := "fileName", type := (.object "java/lang/String"), accessFlags := 2, slot := 6, constantValue := 0 }, { name := "lineNumber", type := .int, accessFlags := 2, slot := 7, constantValue := 0 }, { name := "format", type := .byte, accessFlags := 2, slot := 8, constantValue := 0 }, { name := "BUILTIN_CLASS_LOADER", type := .byte, accessFlags := 26, slot := 2, constantValue := 0 }, { name := "JDK_NON_UPGRADEABLE_MODULE", type := .byte, accessFlags := 26, slot := 3, constantValue := 0 }, { name := "serialVersionUID", type := .long, accessFlags := 26, slot := 4, constantValue := 0 }]
  methods := #[k28m0]
  instanceTypes := #[(.object "java/lang/Class"), (.object "java/lang/String"), (.object "java/lang/String"), (.object "java/lang/String"), (.object "java/lang/String"), (.object "java/lang/String"), (.object "java/lang/String"), .int, .byte]
  staticTypes := #[(.object "java/lang/String"), (.object "java/lang/String"), .byte, .byte, .long]
  resolved := Array.replicate 235 none
  statics := none }

def pool29 : Array CpInfo := pool [(1, u "java/lang/Class"), (0, .class_ 1), (0, u "java/lang/Object"), (0, .class_ 3)] 0

/-- java/lang/Class -/
def k29 : Class := { plain "java/lang/Class" (some 0) with
  accessFlags := 49
  interfaces := #[]
  cf := some (fileOf pool29 2 #[] #[] 49 4 #[] #[])
  fields := #[]
  methods := #[]
  instanceTypes := #[]
  staticTypes := #[]
  resolved := Array.replicate 5 none
  statics := none }

/-- the primitive byte -/
def k30 : Class := { plain "byte" none with kind := .primitive 'B', accessFlags := 0x411 }
/-- [B -/
def k31 : Class := { plain "[B" (some 0) with kind := .array 30 .byte, interfaces := #[20, 3], accessFlags := 1041 }

/-- the primitive int -/
def k32 : Class := { plain "int" none with kind := .primitive 'I', accessFlags := 0x411 }
/-- [I -/
def k33 : Class := { plain "[I" (some 0) with kind := .array 32 .int, interfaces := #[20, 3], accessFlags := 1041 }

/-- [Ljava/lang/Object; -/
def k34 : Class := { plain "[Ljava/lang/Object;" (some 0) with mirror := some 2, kind := .array 0 (.object "java/lang/Object"), interfaces := #[20, 3], accessFlags := 1041 }

/-- [Ljava/lang/StackTraceElement; -/
def k35 : Class := { plain "[Ljava/lang/StackTraceElement;" (some 0) with kind := .array 28 (.object "java/lang/StackTraceElement"), interfaces := #[20, 3], accessFlags := 1041 }

/-- [Ljava/lang/Throwable; -/
def k36 : Class := { plain "[Ljava/lang/Throwable;" (some 0) with kind := .array 4 (.object "java/lang/Throwable"), interfaces := #[20, 3], accessFlags := 1041 }

def heap : Heap := #[{ cls := 4, slots := #[.long 0, .ref 3, .ref 4, .null, .null, .null, .null, .ref 5, .int 1], vm := .statics 4 },
  { cls := 26, slots := #[.int 0, .int 0, .int 0, .int 0, .int 0, .int 0, .int 0, .int 0, .null, .null, .ref 4, .null], vm := .statics 26 },
  { cls := 29, slots := #[], vm := .mirror 34 },
  { cls := 35, slots := #[], vm := .none },
  { cls := 27, slots := #[.int 0], vm := .none },
  { cls := 36, slots := #[], vm := .none }]
def classes : Array Class := #[k0, k1, k2, k3, k4, k5, k6, k7, k8, k9, k10, k11, k12, k13, k14, k15, k16, k17, k18, k19, k20, k21, k22, k23, k24, k25, k26, k27, k28, k29, k30, k31, k32, k33, k34, k35, k36]
def interned : List (Array UInt16 × Addr) := []
def slotsUsed : Nat := 22
def theMethod : MethodId := ⟨1, 3⟩
def args0 : Array Value := #[.int 1, .int 2, .int 3]
def aboutOver (below : List Frame) : State where
  vm := { classes := classes, interned := interned.toArray }
  heap := heap
  slotsUsed := slotsUsed
  threads := #[{ frames := .invoking theMethod args0 :: below }]
def below0 : List Frame := [.native { method := ⟨0, 0⟩, args := #[] }]
def about1 : State := aboutOver below0
def p0 : Program := .bare "" "" ""
def e0 : Env := launch0.env 0 0 0
theorem w_frames : about1.frames = Frame.invoking theMethod args0 :: below0 := rfl
set_option maxRecDepth 65536 in
theorem w_args : argsFit about1.vm theMethod args0 = true := by decide +kernel
set_option maxRecDepth 65536 in
theorem w_heap : heapFits about1 = true := by decide +kernel
set_option maxRecDepth 65536 in
theorem w_runnable : about1.curStatus? = some .runnable := by decide +kernel
set_option maxRecDepth 65536 in
theorem w_alone : about1.alone = true := by decide +kernel
set_option maxRecDepth 65536 in
theorem w_named : about1.methodNamed? x = some theMethod := by decide +kernel
set_option maxRecDepth 65536 in
theorem w_hears : about1.hears theMethod below0 = true := by decide +kernel
set_option maxRecDepth 65536 in
theorem w_ripe : about1.ripe theMethod args0 below0 = true := by decide +kernel
theorem w_running : about1.status = .running := rfl
set_option maxRecDepth 65536 in
theorem w_room : about1.hasRoom e0.platform room_1 = true :=
  launch0.hasRoom_least _ room_1 (by decide +kernel) (by decide +kernel) (by decide +kernel) (by decide +kernel) (by decide +kernel) (by decide +kernel)
theorem allAtoms_all (ts : List Jvm.Cond) (a : Array Jvm.Value) (st : Jvm.State) : (allAtoms ts).before a st = ts.all (fun c => c.before a st) := by
  induction ts with
  | nil => rfl
  | cons c t ih =>
    show (Jvm.Cond.and c (allAtoms t)).before a st = _
    rw [Jvm.Cond.before_and, ih, List.all_cons]
def words1 : List Jvm.Cond := Jvm.Cond.code x code maxLocals ret :: tables_1
/-- a 'code' word, met by the world's own term for the bytes: nothing is compared byte by byte -/
theorem code_word {y : MethodName} {bytes : ByteArray} {mx : Nat} {rt : Option FieldType} {a : Array Value} {s : State} {m : MethodId} {meth : Method} {c : Code} (h1 : s.methodNamed? y = some m) (h2 : s.vm.method? m = some meth) (h3 : meth.code = some c) (h4 : c.code = bytes)
    (h5 : (c.maxLocals == mx && c.exceptionTable.isEmpty && decide (c.maxStack ≤ mostOperands) && decide (meth.sig.returnType = rt) && !meth.locks && decide (parseMethodDescriptor y.desc = some meth.sig)) = true) : (Jvm.Cond.code y bytes mx rt).before a s = true := by
  simp only [Bool.and_eq_true, beq_iff_eq, Bool.not_eq_true', decide_eq_true_eq] at h5
  obtain ⟨⟨⟨⟨⟨g1, g2⟩, g3⟩, g4⟩, g5⟩, g6⟩ := h5
  simp [Cond.before, Cond.holds, Cond.value, h1, h2, h3, h4, g1, g2, g3, g4, g5, g6]
def isCode : Jvm.Cond → Bool
  | .code _ _ _ _ => true
  | _ => false
theorem all_split {L : List Jvm.Cond} {P : Jvm.Cond → Bool} (h1 : L.all (fun c => isCode c || P c) = true) (h2 : ∀ c ∈ L.filter isCode, P c = true) : L.all P = true := by
  refine List.all_eq_true.mpr fun c hc => ?_
  have h := List.all_eq_true.mp h1 c hc
  rcases Bool.eq_false_or_eq_true (isCode c) with hi | hi
  · exact h2 c (List.mem_filter.mpr ⟨hc, hi⟩)
  · simpa [hi] using h
set_option maxRecDepth 65536 in
theorem w_c0 : (Jvm.Cond.code x code maxLocals ret).before args0 about1 = true := code_word (m := ⟨1, 3⟩) (meth := k1m3) (c := k1c3) (by decide +kernel) rfl rfl rfl (by decide +kernel)
set_option maxRecDepth 65536 in
theorem w_c1 : (Jvm.Cond.code ({ cls := "com/example/maat/maat/Failures", name := "<init>", desc := "()V" } : Jvm.MethodName) prog_6_method_1_code (1 : Nat) (Option.none : Option Jvm.ClassFile.FieldType)).before args0 about1 = true := code_word (m := ⟨2, 0⟩) (meth := k2m0) (c := k2c0) (by decide +kernel) rfl rfl rfl (by decide +kernel)
set_option maxRecDepth 65536 in
theorem w_c2 : (Jvm.Cond.code ({ cls := "java/lang/Object", name := "<init>", desc := "()V" } : Jvm.MethodName) object_method_1_code (1 : Nat) (Option.none : Option Jvm.ClassFile.FieldType)).before args0 about1 = true := code_word (m := ⟨0, 0⟩) (meth := k0m0) (c := k0c0) (by decide +kernel) rfl rfl rfl (by decide +kernel)
set_option maxRecDepth 65536 in
theorem w_c3 : (Jvm.Cond.code ({ cls := "java/lang/RuntimeException", name := "<init>", desc := "()V" } : Jvm.MethodName) jdk_58_method_1_code (1 : Nat) (Option.none : Option Jvm.ClassFile.FieldType)).before args0 about1 = true := code_word (m := ⟨6, 0⟩) (meth := k6m0) (c := k6c0) (by decide +kernel) rfl rfl rfl (by decide +kernel)
set_option maxRecDepth 65536 in
theorem w_c4 : (Jvm.Cond.code ({ cls := "java/lang/Exception", name := "<init>", desc := "()V" } : Jvm.MethodName) jdk_59_method_1_code (1 : Nat) (Option.none : Option Jvm.ClassFile.FieldType)).before args0 about1 = true := code_word (m := ⟨5, 0⟩) (meth := k5m0) (c := k5c0) (by decide +kernel) rfl rfl rfl (by decide +kernel)
set_option maxRecDepth 65536 in
theorem w_c5 : (Jvm.Cond.code ({ cls := "java/lang/Throwable", name := "<init>", desc := "()V" } : Jvm.MethodName) jdk_78_method_1_code (1 : Nat) (Option.none : Option Jvm.ClassFile.FieldType)).before args0 about1 = true := code_word (m := ⟨4, 0⟩) (meth := k4m0) (c := k4c0) (by decide +kernel) rfl rfl rfl (by decide +kernel)
set_option maxRecDepth 65536 in
theorem w_c6 : (Jvm.Cond.code ({ cls := "com/example/maat/maat/FailuresIsEmptyPinLaw", name := "agrees", desc := "(Lcom/example/maat/maat/Failures;Z)Z" } : Jvm.MethodName) method_3_code (2 : Nat) (Option.some Jvm.ClassFile.FieldType.boolean)).before args0 about1 = true := code_word (m := ⟨1, 2⟩) (meth := k1m2) (c := k1c2) (by decide +kernel) rfl rfl rfl (by decide +kernel)
set_option maxRecDepth 65536 in
theorem w_c7 : (Jvm.Cond.code ({ cls := "com/example/maat/maat/Failures", name := "isEmpty", desc := "()Z" } : Jvm.MethodName) prog_6_method_4_code (1 : Nat) (Option.some Jvm.ClassFile.FieldType.boolean)).before args0 about1 = true := code_word (m := ⟨2, 2⟩) (meth := k2m2) (c := k2c2) (by decide +kernel) rfl rfl rfl (by decide +kernel)
set_option maxRecDepth 65536 in
theorem w_c8 : (Jvm.Cond.code ({ cls := "com/example/maat/maat/Failures", name := "first", desc := "()Ljava/lang/Throwable;" } : Jvm.MethodName) prog_6_method_5_code (1 : Nat) (Option.some (Jvm.ClassFile.FieldType.object "java/lang/Throwable"))).before args0 about1 = true := code_word (m := ⟨2, 3⟩) (meth := k2m3) (c := k2c3) (by decide +kernel) rfl rfl rfl (by decide +kernel)
set_option maxRecDepth 65536 in
theorem w_c9 : (Jvm.Cond.code ({ cls := "com/example/maat/maat/FailuresIsEmptyPinLaw", name := "pick", desc := "(ILjava/lang/Throwable;Ljava/lang/Throwable;Z)Ljava/lang/Throwable;" } : Jvm.MethodName) method_2_code (5 : Nat) (Option.some (Jvm.ClassFile.FieldType.object "java/lang/Throwable"))).before args0 about1 = true := code_word (m := ⟨1, 1⟩) (meth := k1m1) (c := k1c1) (by decide +kernel) rfl rfl rfl (by decide +kernel)
set_option maxRecDepth 65536 in
theorem w_c10 : (Jvm.Cond.code ({ cls := "com/example/maat/maat/Failures", name := "add", desc := "(Ljava/lang/Throwable;)V" } : Jvm.MethodName) prog_6_method_2_code (2 : Nat) (Option.none : Option Jvm.ClassFile.FieldType)).before args0 about1 = true := code_word (m := ⟨2, 1⟩) (meth := k2m1) (c := k2c1) (by decide +kernel) rfl rfl rfl (by decide +kernel)
set_option maxRecDepth 65536 in
theorem w_c11 : (Jvm.Cond.code ({ cls := "java/util/Objects", name := "requireNonNull", desc := "(Ljava/lang/Object;Ljava/lang/String;)Ljava/lang/Object;" } : Jvm.MethodName) jdk_31_method_11_code (2 : Nat) (Option.some (Jvm.ClassFile.FieldType.object "java/lang/Object"))).before args0 about1 = true := code_word (m := ⟨12, 1⟩) (meth := k12m1) (c := k12c1) (by decide +kernel) rfl rfl rfl (by decide +kernel)
set_option maxRecDepth 65536 in
theorem w_c12 : (Jvm.Cond.code ({ cls := "java/util/ArrayList", name := "<init>", desc := "(I)V" } : Jvm.MethodName) jdk_38_method_1_code (2 : Nat) (Option.none : Option Jvm.ClassFile.FieldType)).before args0 about1 = true := code_word (m := ⟨21, 0⟩) (meth := k21m0) (c := k21c0) (by decide +kernel) rfl rfl rfl (by decide +kernel)
set_option maxRecDepth 65536 in
theorem w_c13 : (Jvm.Cond.code ({ cls := "java/util/AbstractList", name := "<init>", desc := "()V" } : Jvm.MethodName) jdk_39_method_1_code (1 : Nat) (Option.none : Option Jvm.ClassFile.FieldType)).before args0 about1 = true := code_word (m := ⟨18, 0⟩) (meth := k18m0) (c := k18c0) (by decide +kernel) rfl rfl rfl (by decide +kernel)
set_option maxRecDepth 65536 in
theorem w_c14 : (Jvm.Cond.code ({ cls := "java/util/AbstractCollection", name := "<init>", desc := "()V" } : Jvm.MethodName) jdk_22_method_1_code (1 : Nat) (Option.none : Option Jvm.ClassFile.FieldType)).before args0 about1 = true := code_word (m := ⟨15, 0⟩) (meth := k15m0) (c := k15c0) (by decide +kernel) rfl rfl rfl (by decide +kernel)
set_option maxRecDepth 65536 in
theorem w_c15 : (Jvm.Cond.code ({ cls := "java/util/ArrayList", name := "add", desc := "(Ljava/lang/Object;)Z" } : Jvm.MethodName) jdk_38_method_25_code (2 : Nat) (Option.some Jvm.ClassFile.FieldType.boolean)).before args0 about1 = true := code_word (m := ⟨21, 5⟩) (meth := k21m5) (c := k21c5) (by decide +kernel) rfl rfl rfl (by decide +kernel)
set_option maxRecDepth 65536 in
theorem w_c16 : (Jvm.Cond.code ({ cls := "java/util/ArrayList", name := "add", desc := "(Ljava/lang/Object;[Ljava/lang/Object;I)V" } : Jvm.MethodName) jdk_38_method_24_code (4 : Nat) (Option.none : Option Jvm.ClassFile.FieldType)).before args0 about1 = true := code_word (m := ⟨21, 4⟩) (meth := k21m4) (c := k21c4) (by decide +kernel) rfl rfl rfl (by decide +kernel)
set_option maxRecDepth 65536 in
theorem w_c17 : (Jvm.Cond.code ({ cls := "java/util/ArrayList", name := "grow", desc := "()[Ljava/lang/Object;" } : Jvm.MethodName) jdk_38_method_7_code (1 : Nat) (Option.some (Jvm.ClassFile.FieldType.array (Jvm.ClassFile.FieldType.object "java/lang/Object")))).before args0 about1 = true := code_word (m := ⟨21, 3⟩) (meth := k21m3) (c := k21c3) (by decide +kernel) rfl rfl rfl (by decide +kernel)
set_option maxRecDepth 65536 in
theorem w_c18 : (Jvm.Cond.code ({ cls := "java/util/ArrayList", name := "grow", desc := "(I)[Ljava/lang/Object;" } : Jvm.MethodName) jdk_38_method_6_code (4 : Nat) (Option.some (Jvm.ClassFile.FieldType.array (Jvm.ClassFile.FieldType.object "java/lang/Object")))).before args0 about1 = true := code_word (m := ⟨21, 2⟩) (meth := k21m2) (c := k21c2) (by decide +kernel) rfl rfl rfl (by decide +kernel)
set_option maxRecDepth 65536 in
theorem w_c19 : (Jvm.Cond.code ({ cls := "jdk/internal/util/ArraysSupport", name := "newLength", desc := "(III)I" } : Jvm.MethodName) jdk_48_method_27_code (4 : Nat) (Option.some Jvm.ClassFile.FieldType.int)).before args0 about1 = true := code_word (m := ⟨22, 1⟩) (meth := k22m1) (c := k22c1) (by decide +kernel) rfl rfl rfl (by decide +kernel)
set_option maxRecDepth 65536 in
theorem w_c20 : (Jvm.Cond.code ({ cls := "java/lang/Math", name := "max", desc := "(II)I" } : Jvm.MethodName) jdk_29_method_65_code (2 : Nat) (Option.some Jvm.ClassFile.FieldType.int)).before args0 about1 = true := code_word (m := ⟨23, 1⟩) (meth := k23m1) (c := k23c1) (by decide +kernel) rfl rfl rfl (by decide +kernel)
set_option maxRecDepth 65536 in
theorem w_c21 : (Jvm.Cond.code ({ cls := "java/util/Arrays", name := "copyOf", desc := "([Ljava/lang/Object;I)[Ljava/lang/Object;" } : Jvm.MethodName) jdk_65_method_119_code (2 : Nat) (Option.some (Jvm.ClassFile.FieldType.array (Jvm.ClassFile.FieldType.object "java/lang/Object")))).before args0 about1 = true := code_word (m := ⟨24, 1⟩) (meth := k24m1) (c := k24c1) (by decide +kernel) rfl rfl rfl (by decide +kernel)
set_option maxRecDepth 65536 in
theorem w_c22 : (Jvm.Cond.code ({ cls := "java/util/Arrays", name := "copyOf", desc := "([Ljava/lang/Object;ILjava/lang/Class;)[Ljava/lang/Object;" } : Jvm.MethodName) jdk_65_method_120_code (4 : Nat) (Option.some (Jvm.ClassFile.FieldType.array (Jvm.ClassFile.FieldType.object "java/lang/Object")))).before args0 about1 = true := code_word (m := ⟨24, 2⟩) (meth := k24m2) (c := k24c2) (by decide +kernel) rfl rfl rfl (by decide +kernel)
set_option maxRecDepth 65536 in
theorem w_c23 : (Jvm.Cond.code ({ cls := "java/lang/Math", name := "min", desc := "(II)I" } : Jvm.MethodName) jdk_29_method_69_code (2 : Nat) (Option.some Jvm.ClassFile.FieldType.int)).before args0 about1 = true := code_word (m := ⟨23, 2⟩) (meth := k23m2) (c := k23c2) (by decide +kernel) rfl rfl rfl (by decide +kernel)
def codes1 : List Jvm.Cond := [Jvm.Cond.code x code maxLocals ret, Jvm.Cond.code ({ cls := "com/example/maat/maat/Failures", name := "<init>", desc := "()V" } : Jvm.MethodName) prog_6_method_1_code (1 : Nat) (Option.none : Option Jvm.ClassFile.FieldType), Jvm.Cond.code ({ cls := "java/lang/Object", name := "<init>", desc := "()V" } : Jvm.MethodName) object_method_1_code (1 : Nat) (Option.none : Option Jvm.ClassFile.FieldType), Jvm.Cond.code ({ cls := "java/lang/RuntimeException", name := "<init>", desc := "()V" } : Jvm.MethodName) jdk_58_method_1_code (1 : Nat) (Option.none : Option Jvm.ClassFile.FieldType), Jvm.Cond.code ({ cls := "java/lang/Exception", name := "<init>", desc := "()V" } : Jvm.MethodName) jdk_59_method_1_code (1 : Nat) (Option.none : Option Jvm.ClassFile.FieldType), Jvm.Cond.code ({ cls := "java/lang/Throwable", name := "<init>", desc := "()V" } : Jvm.MethodName) jdk_78_method_1_code (1 : Nat) (Option.none : Option Jvm.ClassFile.FieldType), Jvm.Cond.code ({ cls := "com/example/maat/maat/FailuresIsEmptyPinLaw", name := "agrees", desc := "(Lcom/example/maat/maat/Failures;Z)Z" } : Jvm.MethodName) method_3_code (2 : Nat) (Option.some Jvm.ClassFile.FieldType.boolean), Jvm.Cond.code ({ cls := "com/example/maat/maat/Failures", name := "isEmpty", desc := "()Z" } : Jvm.MethodName) prog_6_method_4_code (1 : Nat) (Option.some Jvm.ClassFile.FieldType.boolean), Jvm.Cond.code ({ cls := "com/example/maat/maat/Failures", name := "first", desc := "()Ljava/lang/Throwable;" } : Jvm.MethodName) prog_6_method_5_code (1 : Nat) (Option.some (Jvm.ClassFile.FieldType.object "java/lang/Throwable")), Jvm.Cond.code ({ cls := "com/example/maat/maat/FailuresIsEmptyPinLaw", name := "pick", desc := "(ILjava/lang/Throwable;Ljava/lang/Throwable;Z)Ljava/lang/Throwable;" } : Jvm.MethodName) method_2_code (5 : Nat) (Option.some (Jvm.ClassFile.FieldType.object "java/lang/Throwable")), Jvm.Cond.code ({ cls := "com/example/maat/maat/Failures", name := "add", desc := "(Ljava/lang/Throwable;)V" } : Jvm.MethodName) prog_6_method_2_code (2 : Nat) (Option.none : Option Jvm.ClassFile.FieldType), Jvm.Cond.code ({ cls := "java/util/Objects", name := "requireNonNull", desc := "(Ljava/lang/Object;Ljava/lang/String;)Ljava/lang/Object;" } : Jvm.MethodName) jdk_31_method_11_code (2 : Nat) (Option.some (Jvm.ClassFile.FieldType.object "java/lang/Object")), Jvm.Cond.code ({ cls := "java/util/ArrayList", name := "<init>", desc := "(I)V" } : Jvm.MethodName) jdk_38_method_1_code (2 : Nat) (Option.none : Option Jvm.ClassFile.FieldType), Jvm.Cond.code ({ cls := "java/util/AbstractList", name := "<init>", desc := "()V" } : Jvm.MethodName) jdk_39_method_1_code (1 : Nat) (Option.none : Option Jvm.ClassFile.FieldType), Jvm.Cond.code ({ cls := "java/util/AbstractCollection", name := "<init>", desc := "()V" } : Jvm.MethodName) jdk_22_method_1_code (1 : Nat) (Option.none : Option Jvm.ClassFile.FieldType), Jvm.Cond.code ({ cls := "java/util/ArrayList", name := "add", desc := "(Ljava/lang/Object;)Z" } : Jvm.MethodName) jdk_38_method_25_code (2 : Nat) (Option.some Jvm.ClassFile.FieldType.boolean), Jvm.Cond.code ({ cls := "java/util/ArrayList", name := "add", desc := "(Ljava/lang/Object;[Ljava/lang/Object;I)V" } : Jvm.MethodName) jdk_38_method_24_code (4 : Nat) (Option.none : Option Jvm.ClassFile.FieldType), Jvm.Cond.code ({ cls := "java/util/ArrayList", name := "grow", desc := "()[Ljava/lang/Object;" } : Jvm.MethodName) jdk_38_method_7_code (1 : Nat) (Option.some (Jvm.ClassFile.FieldType.array (Jvm.ClassFile.FieldType.object "java/lang/Object"))), Jvm.Cond.code ({ cls := "java/util/ArrayList", name := "grow", desc := "(I)[Ljava/lang/Object;" } : Jvm.MethodName) jdk_38_method_6_code (4 : Nat) (Option.some (Jvm.ClassFile.FieldType.array (Jvm.ClassFile.FieldType.object "java/lang/Object"))), Jvm.Cond.code ({ cls := "jdk/internal/util/ArraysSupport", name := "newLength", desc := "(III)I" } : Jvm.MethodName) jdk_48_method_27_code (4 : Nat) (Option.some Jvm.ClassFile.FieldType.int), Jvm.Cond.code ({ cls := "java/lang/Math", name := "max", desc := "(II)I" } : Jvm.MethodName) jdk_29_method_65_code (2 : Nat) (Option.some Jvm.ClassFile.FieldType.int), Jvm.Cond.code ({ cls := "java/util/Arrays", name := "copyOf", desc := "([Ljava/lang/Object;I)[Ljava/lang/Object;" } : Jvm.MethodName) jdk_65_method_119_code (2 : Nat) (Option.some (Jvm.ClassFile.FieldType.array (Jvm.ClassFile.FieldType.object "java/lang/Object"))), Jvm.Cond.code ({ cls := "java/util/Arrays", name := "copyOf", desc := "([Ljava/lang/Object;ILjava/lang/Class;)[Ljava/lang/Object;" } : Jvm.MethodName) jdk_65_method_120_code (4 : Nat) (Option.some (Jvm.ClassFile.FieldType.array (Jvm.ClassFile.FieldType.object "java/lang/Object"))), Jvm.Cond.code ({ cls := "java/lang/Math", name := "min", desc := "(II)I" } : Jvm.MethodName) jdk_29_method_69_code (2 : Nat) (Option.some Jvm.ClassFile.FieldType.int)]
set_option maxRecDepth 65536 in
theorem codes_eq : words1.filter isCode = codes1 := rfl
theorem w_codes : ∀ c ∈ words1.filter isCode, c.before args0 about1 = true := by
  rw [codes_eq]
  intro c hc
  simp only [codes1, List.mem_cons, List.not_mem_nil, or_false] at hc
  rcases hc with rfl | rfl | rfl | rfl | rfl | rfl | rfl | rfl | rfl | rfl | rfl | rfl | rfl | rfl | rfl | rfl | rfl | rfl | rfl | rfl | rfl | rfl | rfl | rfl
  · exact w_c0
  · exact w_c1
  · exact w_c2
  · exact w_c3
  · exact w_c4
  · exact w_c5
  · exact w_c6
  · exact w_c7
  · exact w_c8
  · exact w_c9
  · exact w_c10
  · exact w_c11
  · exact w_c12
  · exact w_c13
  · exact w_c14
  · exact w_c15
  · exact w_c16
  · exact w_c17
  · exact w_c18
  · exact w_c19
  · exact w_c20
  · exact w_c21
  · exact w_c22
  · exact w_c23
set_option maxRecDepth 65536 in
theorem w_t1 : (words1.take 24).all (fun c => isCode c || c.before args0 about1) = true := by decide +kernel
set_option maxRecDepth 65536 in
theorem w_t2 : ((words1.drop 24).take 24).all (fun c => isCode c || c.before args0 about1) = true := by decide +kernel
set_option maxRecDepth 65536 in
theorem w_t3 : (((words1.drop 24).drop 24).take 24).all (fun c => isCode c || c.before args0 about1) = true := by decide +kernel
set_option maxRecDepth 65536 in
theorem w_t4 : ((((words1.drop 24).drop 24).drop 24).take 24).all (fun c => isCode c || c.before args0 about1) = true := by decide +kernel
set_option maxRecDepth 65536 in
theorem w_t5 : (((((words1.drop 24).drop 24).drop 24).drop 24).take 24).all (fun c => isCode c || c.before args0 about1) = true := by decide +kernel
set_option maxRecDepth 65536 in
theorem w_t6 : ((((((words1.drop 24).drop 24).drop 24).drop 24).drop 24).take 24).all (fun c => isCode c || c.before args0 about1) = true := by decide +kernel
set_option maxRecDepth 65536 in
theorem w_t7 : (((((((words1.drop 24).drop 24).drop 24).drop 24).drop 24).drop 24).take 24).all (fun c => isCode c || c.before args0 about1) = true := by decide +kernel
set_option maxRecDepth 65536 in
theorem w_t8 : (((((((words1.drop 24).drop 24).drop 24).drop 24).drop 24).drop 24).drop 24).all (fun c => isCode c || c.before args0 about1) = true := by decide +kernel
theorem w_tables : (allAtoms (Jvm.Cond.code x code maxLocals ret :: tables_1)).before args0 about1 = true := by
  rw [allAtoms_all]
  show words1.all (fun c => c.before args0 about1) = true
  refine all_split ?_ w_codes
  rw [← List.take_append_drop 24 words1, List.all_append, w_t1, ← List.take_append_drop 24 (words1.drop 24), List.all_append, w_t2, ← List.take_append_drop 24 ((words1.drop 24).drop 24), List.all_append, w_t3, ← List.take_append_drop 24 (((words1.drop 24).drop 24).drop 24), List.all_append, w_t4, ← List.take_append_drop 24 ((((words1.drop 24).drop 24).drop 24).drop 24), List.all_append, w_t5, ← List.take_append_drop 24 (((((words1.drop 24).drop 24).drop 24).drop 24).drop 24), List.all_append, w_t6, ← List.take_append_drop 24 ((((((words1.drop 24).drop 24).drop 24).drop 24).drop 24).drop 24), List.all_append, w_t7, w_t8]
  rfl
set_option maxRecDepth 65536 in
theorem w_rest : rest_1_c.before args0 about1 = true := by decide +kernel
set_option maxRecDepth 65536 in
theorem w_case : (Jvm.Cond.and given_1 narrow_1).before args0 about1 = true := by decide +kernel
theorem w_applies : (headSpec (Jvm.Cond.code x code maxLocals ret :: tables_1) room_1).applies x e0.platform about1 = true :=
  (Spec.applies_iff w_frames).mpr ⟨w_running, w_runnable, w_alone, w_named, w_hears, w_ripe, w_room, w_tables⟩
theorem atStart : AtStart classFile x code maxLocals ret World_1 tables_1 room_1 Calls_1 rest_1 Pre_1 launch0 p0 e0 about1 theMethod args0 below0 :=
  ⟨lists_1, trivial, launch0.admits_env _ _ _, launch0.least_env, fairChoices_fair.cas, fairChoices_fair.clock, w_frames, w_args, w_heap, w_applies, ⟨(by decide +kernel : framesKnown about1 = true), ⟨(by decide +kernel : tablesKnown about1 = true), ⟨⟨34, k34, 2, by decide +kernel, rfl, rfl, _, rfl, rfl⟩, trivial⟩⟩⟩, w_rest, w_case⟩
end start1
theorem witness_1 : WitnessClaimed_1 := ⟨start1.p0, start1.e0, start1.about1, start1.theMethod, start1.args0, start1.below0, start1.atStart⟩
end Jvm.Pilot.@@N@@
