import JvmDerived
import JvmDerived.Pilot.@@N@@Statement
import JvmDerived.Pilot.@@N@@Code
set_option linter.unusedVariables false
set_option linter.unusedSimpArgs false
namespace Jvm.RoadKit
open Sem ClassFile Op Lib Jvm.Stand Jvm.Free Jvm.LawKit
section New
variable {p : Program} {l : Launch} {e : Env} {R : Room} {s : State} {m : MethodId} {args : Array Value} {below : List Frame} {meth : Method} {c : Code} {T : State} {locs : List Loc} {cells slots : Nat}
theorem retI (X : Stand p l e R s m args below meth c T locs cells slots) (hx : p.tables.exec = Jvm.exec) {pc : Nat} {Ls : Array Slot} {z : Int32} {rest : List Value} (hret : meth.sig.returnType = some .int) (hd : decode c.code pc = .ok (.ireturn, 1)) {fs : List Frame}
    (hl : ∀ (f : JFrame) (acts : List Action), f.method = m → f.locked = none → f.entered = [] → (doReturn e (T.setTop f) acts (some (.int z))).1 = T.setFrames fs) : Steps p.tables e below (T.setTop (mkF m pc Ls (.int z :: rest))) (T.setFrames fs) :=
  retOut X hx hret rfl (Or.inl ⟨rfl, Or.inl rfl, _, rfl⟩) hd hl
end New
end Jvm.RoadKit
namespace Jvm.Pilot.@@N@@
open Jvm Jvm.ClassFile Sem Op Lib Jvm.Free Jvm.Stand Jvm.LawKit Jvm.RoadKit Bundle Jvm.Pilot.@@N@@.Jvm.D
set_option maxRecDepth 65536
set_option maxHeartbeats 40000000
abbrev HW (Z : State) (a0 : Array Value) : Prop := ∀ d ∈ tables_1, d.before a0 Z = true
abbrev oR (f c s l : Nat) : Room := { frames := f, cells := c, slots := s, locals := l }
abbrev MF (l : Launch) (Z : State) (y : MethodName) (code : ByteArray) (maxL : Nat) (ret : Option FieldType) (ws : List Jvm.Cond) (rm : Room) (as' : Array Value) (h0 : Heap) (Q : Option Value → Heap → List Loc → Prop) : Prop :=
  MetFree l y (head1 (Jvm.Cond.code y code maxL ret :: ws) rm) (fun a U => a = as' ∧ Z.Warmed39 U.vm ∧ U.heap = h0) (fun _ _ _ _ _ => True) (fun _ U o U' => ∃ v L, o = .returned v ∧ Q v U'.heap L ∧ FrameEnd U o U' L rm.cells rm.slots)
theorem own_body {l : Launch} {Z : State} {y : MethodName} {code : ByteArray} {maxL : Nat} {ret : Option FieldType} {ws : List Jvm.Cond} {rm : Room} {as' : Array Value} {h0 : Heap} {Q : Option Value → Heap → List Loc → Prop} {cls : String} (hp : plainFor y = true) (hc : y.cls = cls)
    (body : ∀ (p : Program) (e : Env) (s : State) (m : MethodId) (below : List Frame) (meth : Method) (c : Code) (s₁ : State), p.tables.exec = Jvm.exec → c.code = code → c.maxLocals = maxL → s.vm.findClass cls = some m.cls → meth.name = y.name → meth.sig.returnType = ret → Z.Warmed39 s.vm → Stand p l e rm s m as' below meth c s₁ [] 0 0 → s₁.heap = h0 →
      ∃ (T : State) (L : List Loc) (k n : Nat) (v : Option Value), Stand p l e rm s m as' below meth c T L k n ∧ k ≤ rm.cells ∧ n ≤ rm.slots ∧ (ret = none → v = none) ∧ Q v T.heap L ∧ ∀ fs, (∀ (f : JFrame) (acts : List Action), f.method = m → f.locked = none → f.entered = [] → (doReturn e (T.setTop f) acts v).1 = T.setFrames fs) → Steps p.tables e below (s₁.setTop (entryFrame m as' maxL)) (T.setFrames fs)) : MF l Z y code maxL ret ws rm as' h0 Q := by
  refine MetFree.of_bodySF hp hisR ?_
  intro p e s m args below meth c s₁ Bd hml0 hP hK
  obtain ⟨rfl, hZ, hh⟩ := hP
  obtain ⟨T, L, k, n, v, X, hk, hn, hv, hQ, hs⟩ := body p e s m below meth c s₁ Bd.exec Bd.bytes hml0 (hc ▸ findClass_of_methodNamed Bd.named) (name_of_methodNamed Bd.named Bd.method).1 Bd.returns hZ (Stand.of_body Bd) (by rw [← hh, Bd.state]; rfl)
  obtain ⟨fs, hr, hrun, hended, hW, hsame⟩ := X.leave (v := v) (fun h => hv (by rw [← Bd.returns]; exact h))
  exact ⟨_, _, hs fs hr, hrun, hended, v, L, rfl, hQ, ⟨_, rfl⟩, hW, hsame.mono hk hn⟩
theorem own_l {a b : Nat} (h : a < b) : a < b := h
theorem own_ne {a b : Nat} (h : a < b ∨ b < a) : a ≠ b := by omega
abbrev vI (x : Int32) : Slot := .val (.int x)
abbrev vA (a : Addr) : Slot := .val (.ref a)
theorem own_cat {v : Value} (h : v.isRef = true) : v.category = 1 := by rcases ref_cases h with rfl | ⟨_, rfl⟩ <;> rfl
theorem own_narrow_ref {t : FieldType} {v : Value} (h : v.isRef = true) : narrow t v = v := by rcases ref_cases h with rfl | ⟨_, rfl⟩ <;> (cases t <;> rfl)
theorem own_fits_ref {t : FieldType} {v : Value} (h : v.isRef = true) (ht : t.isReference = true) : fits t v = true := by rcases ref_cases h with rfl | ⟨_, rfl⟩ <;> (cases t <;> first | rfl | (cases ht; done))
theorem w_6 {Z : State} {a0 : Array Value} (hw : HW Z a0) : (Jvm.Cond.initialized "java/lang/String").before a0 Z = true := hw _ (List.mem_of_getElem? (i := 6) rfl)
theorem w_5 {Z : State} {a0 : Array Value} (hw : HW Z a0) : (Jvm.Cond.instantiable "java/lang/String" (4 : Nat)).before a0 Z = true := hw _ (List.mem_of_getElem? (i := 5) rfl)
theorem w_19 {Z : State} {a0 : Array Value} (hw : HW Z a0) : (Jvm.Cond.arrayClass FieldType.byte).before a0 Z = true := hw _ (List.mem_of_getElem? (i := 19) rfl)
theorem w_20 {Z : State} {a0 : Array Value} (hw : HW Z a0) : (Jvm.Cond.laysFinal "java/lang/String" "java/lang/String" "value" "[B").before a0 Z = true := hw _ (List.mem_of_getElem? (i := 20) rfl)
theorem w_21 {Z : State} {a0 : Array Value} (hw : HW Z a0) : (Jvm.Cond.laysFinal "java/lang/String" "java/lang/String" "coder" "B").before a0 Z = true := hw _ (List.mem_of_getElem? (i := 21) rfl)
theorem w_22 {Z : State} {a0 : Array Value} (hw : HW Z a0) : (Jvm.Cond.soleField "java/lang/String" "value").before a0 Z = true := hw _ (List.mem_of_getElem? (i := 22) rfl)
theorem w_23 {Z : State} {a0 : Array Value} (hw : HW Z a0) : (Jvm.Cond.soleField "java/lang/String" "coder").before a0 Z = true := hw _ (List.mem_of_getElem? (i := 23) rfl)
theorem w_18 {Z : State} {a0 : Array Value} (hw : HW Z a0) : (Jvm.Cond.stringLink "java/lang/String" (7 : Nat) "").before a0 Z = true := hw _ (List.mem_of_getElem? (i := 18) rfl)
theorem own_wS {Z : State} {a0 : Array Value} (hw : HW Z a0) : ∀ a ∈ Bundle.stringAtoms, a.before a0 Z = true := fun d hd => by
  simp only [Bundle.stringAtoms, Bundle.sN, List.mem_cons, List.not_mem_nil, or_false] at hd
  rcases hd with rfl | rfl | rfl | rfl | rfl | rfl | rfl
  · exact (w_6 hw)
  · exact (w_5 hw)
  · exact (w_19 hw)
  · exact (w_20 hw)
  · exact (w_21 hw)
  · exact (w_22 hw)
  · exact (w_23 hw)
def own_EL : List (String × Nat) := [("java/lang/String", 7)]
theorem own_EW {Z : State} {a0 : Array Value} (hw : HW Z a0) : EW Z a0 own_EL := (EW.cons (w_18 hw) (by decide) EW.nil)
abbrev sta0 (Z : State) (v : Value) : Prop := Sta Z Z.heap "java/lang/String" "COMPACT_STRINGS" "Z" v
abbrev sta1 (Z : State) (v : Value) : Prop := Sta Z Z.heap "java/lang/StringUTF16" "$assertionsDisabled" "Z" v
abbrev sta2 (Z : State) (v : Value) : Prop := Sta Z Z.heap "java/lang/StringUTF16" "HI_BYTE_SHIFT" "I" v
abbrev sta3 (Z : State) (v : Value) : Prop := Sta Z Z.heap "java/lang/StringUTF16" "LO_BYTE_SHIFT" "I" v
abbrev sta4 (Z : State) (v : Value) : Prop := Sta Z Z.heap "jdk/internal/util/Preconditions" "SIOOBE_FORMATTER" "Ljava/util/function/BiFunction;" v
abbrev fld0 (Z : State) (h : Heap) (a : Addr) (v : Value) : Prop := Fld Z h a "java/lang/String" "value" "[B" v
abbrev fld1 (Z : State) (h : Heap) (a : Addr) (v : Value) : Prop := Fld Z h a "java/lang/String" "coder" "B" v
abbrev oL (y : Int32) : Int32 := (nar .byte ((y >>> ((0 : Int32) &&& 31)).toInt8.toInt32))
abbrev oH (y : Int32) : Int32 := (nar .byte ((y >>> ((8 : Int32) &&& 31)).toInt8.toInt32))
abbrev oB (y : Int32) : Int32 := (nar .byte (y.toInt8.toInt32))
theorem own_lt (x y : Int32) : x < y ↔ x.toInt < y.toInt := Int32.lt_iff_toInt_lt
theorem own_k0 : (0 : Int32).toInt = 0 := by decide
theorem own_k255 : (255 : Int32).toInt = 255 := by decide
theorem own_k65535 : (65535 : Int32).toInt = 65535 := by decide
theorem own_k65536 : (65536 : Int32).toInt = 65536 := by decide
theorem own_nar_rng (x : Int32) : ¬ nar .char x < 0 ∧ ¬ (65535 : Int32) < nar .char x := by
  have q := c_i2c x
  have e : nar .char x = x.toUInt32.toUInt16.toUInt32.toInt32 := rfl
  rw [e]
  simp only [own_lt, own_k0, own_k65535]
  omega
theorem own_nar {c : Int32} (h : ¬ c < 0 ∧ ¬ (65535 : Int32) < c) : nar .char c = c := by
  have q := c_i2c c
  have e : nar .char c = c.toUInt32.toUInt16.toUInt32.toInt32 := rfl
  rw [e]
  apply Int32.toInt_inj.mp
  simp only [own_lt, own_k0, own_k65535] at h
  omega
theorem own_ne255 {c : Int32} (h : (255 : Int32) < c) {x : Int32} (hx : ¬ (255 : Int32) < x) : ¬ c = x := fun e => hx (e ▸ h)
theorem own_beq {c x : Int32} (h : ¬ c < 0 ∧ ¬ (65535 : Int32) < c) (h2 : ¬ (255 : Int32) < c) (hx0 : ¬ x < 0) (hx : ¬ (255 : Int32) < x) : nar .byte (c.toInt8.toInt32) = x.toInt8.toInt32 ↔ c = x := by
  have e : nar .byte (c.toInt8.toInt32) = c.toInt8.toInt32.toInt8.toInt32 := rfl
  rw [e]
  have q1 := c_i2b c
  have q2 := c_i2b c.toInt8.toInt32
  have q3 := c_i2b x
  simp only [own_lt, own_k0, own_k65535, own_k255] at h h2 hx0 hx
  constructor
  · intro he
    have := congrArg Int32.toInt he
    apply Int32.toInt_inj.mp
    omega
  · intro he
    subst he
    apply Int32.toInt_inj.mp
    omega
theorem own_get {c : Int32} (h : ¬ c < 0 ∧ ¬ (65535 : Int32) < c) : nar .char ((((((nar .byte ((c >>> ((0 : Int32) &&& 31)).toInt8.toInt32)) &&& (255 : Int32)) <<< ((0 : Int32) &&& 31)) ||| (((nar .byte ((c >>> ((8 : Int32) &&& 31)).toInt8.toInt32)) &&& (255 : Int32)) <<< ((8 : Int32) &&& 31)))).toUInt32.toUInt16.toUInt32.toInt32) = c := by
  have e0 : ∀ y : Int32, nar .char y = y.toUInt32.toUInt16.toUInt32.toInt32 := fun _ => rfl
  have e1 : ∀ y : Int32, nar .byte y = y.toInt8.toInt32 := fun _ => rfl
  rw [e0, e1, e1]
  have a1 := c_ishr c 0 0 (by decide)
  have a2 := c_ishr c 8 8 (by decide)
  generalize c >>> ((0 : Int32) &&& 31) = u at a1 ⊢
  generalize c >>> ((8 : Int32) &&& 31) = w at a2 ⊢
  have b1 := c_i2b u
  have b2 := c_i2b u.toInt8.toInt32
  generalize u.toInt8.toInt32.toInt8.toInt32 = u1 at b2 ⊢
  generalize u.toInt8.toInt32 = u0 at b1 b2
  have b3 := c_i2b w
  have b4 := c_i2b w.toInt8.toInt32
  generalize w.toInt8.toInt32.toInt8.toInt32 = w1 at b4 ⊢
  generalize w.toInt8.toInt32 = w0 at b3 b4
  have m1 := c_mask u1 255 8 (by decide) (by decide)
  have m2 := c_mask w1 255 8 (by decide) (by decide)
  generalize u1 &&& (255 : Int32) = u2 at m1 ⊢
  generalize w1 &&& (255 : Int32) = w2 at m2 ⊢
  have s1 := c_ishl u2 0 0 (by decide)
  have s2 := c_ishl w2 8 8 (by decide)
  generalize u2 <<< ((0 : Int32) &&& 31) = u3 at s1 ⊢
  generalize w2 <<< ((8 : Int32) &&& 31) = w3 at s2 ⊢
  have ru := rng32 u3
  have rw' := rng32 w3
  have rc := rng32 c
  have o := c_or' u3 w3 8 (by decide) 256 (by decide) (by omega) (by omega) (by omega)
  generalize u3 ||| w3 = v at o ⊢
  have i1 := c_i2c v
  have i2 := c_i2c v.toUInt32.toUInt16.toUInt32.toInt32
  apply Int32.toInt_inj.mp
  simp only [own_lt, own_k0, own_k65535] at h
  omega
theorem own_safe_null {Z : State} {EL : List (String × Nat)} {vm : Vm} {h : Heap} {x : Addr} (hal : Z.vm.Alike vm) (E : Exa Z h x "java/lang/String") (N : Fld Z h x "java/lang/String" "value" "[B" .null) : Safe Z EL vm h x := fun B => by
  obtain ⟨cell, k, e1, e2, e3, -, -⟩ := E
  obtain ⟨cell', cf, kf, i, f, g1, g2, g3, -, -, -, g7⟩ := N
  cases e1.symm.trans g1
  have nm : ∀ {n : String} {c : ClassId}, vm.findClass n = some c → c = cell.cls → n = "java/lang/String" := fun {n c} f e => by
    subst e
    rw [hal.findClass] at f
    obtain ⟨k1, q1, q2⟩ := Vm.findClass_spec f
    obtain ⟨k2, q3, q4⟩ := Vm.findClass_spec e2
    cases q1.symm.trans q3
    exact q2.symm.trans q4
  obtain ⟨p, -, u, a, -, q, -, F, rfl | rfl⟩ := B
  · cases (show h[q.sa]? = some q.sC from F.ha).symm.trans e1
    obtain ⟨cS, ⟨⟨-, -, -, ⟨c1, k1, i1, f1, -⟩, -, -, -, v1, -⟩, -⟩, -⟩ := F
    obtain ⟨k2, z⟩ := ff_back (U := Wst Z vm h) hal f1
    cases z.symm.trans g2
    have := v1.symm.trans g7
    cases this
  · cases (show h[q.sd]? = some q.SA from F.hd).symm.trans e1
    obtain ⟨cS, -, -, f, -⟩ := F
    exact absurd (nm f rfl) (by decide)
theorem d0 : decode jdk_29_method_65_code 0 = .ok (.iload_n 0, 1) := by decide +kernel
theorem d1 : decode jdk_29_method_65_code 1 = .ok (.iload_n 1, 1) := by decide +kernel
theorem d2 : decode jdk_29_method_65_code 2 = .ok (.if_icmp .lt 7, 3) := by decide +kernel
theorem d3 : decode jdk_29_method_65_code 5 = .ok (.iload_n 0, 1) := by decide +kernel
theorem d4 : decode jdk_29_method_65_code 6 = .ok (.goto 4, 3) := by decide +kernel
theorem d5 : decode jdk_29_method_65_code 10 = .ok (.ireturn, 1) := by decide +kernel
theorem pn_0 : plainFor (⟨"java/lang/Math", "max", "(II)I"⟩ : MethodName) = true := by first | (simp [plainFor, overriddenIn]; done) | decide +kernel
theorem ef_0 (m : MethodId) (x0 : Int32) (x1 : Int32) : entryFrame m #[(.int x0), (.int x1)] 2 = mkF m 0 #[vI x0, vI x1] [] := by first | (simp [entryFrame, mkF, argsToLocals, Value.category, maxLocals]; done) | rfl
abbrev m_0 : MethodName := (⟨"java/lang/Math", "max", "(II)I"⟩ : MethodName)
def Q_max0 (Z : State) (h0 : Heap) (n0 : Nat) (v : Option Value) (h : Heap) (L : List Loc) : Prop := (v = some (.int 0)) ∧ (Fr n0 L) ∧ (h = h0)
theorem rm_max0 (l : Launch) (Z : State) (a0 : Array Value) (hw : HW Z a0) (ws : List Jvm.Cond) (h0 : Heap) (n0 : Nat) (Z0 : n0 ≤ h0.size) :
    MF l Z m_0 jdk_29_method_65_code 2 (some .int) ws (oR 0 0 0 0) #[(.int 0), (.int 0)] h0 (Q_max0 Z  h0 n0) := by
  refine own_body (cls := "java/lang/Math") pn_0 rfl (fun p e s m below meth c s₁ hx hby hml hown hnm hret hZ X0 e0 => ?_)
  have N0 := Fr.nil n0
  refine ⟨_, _, _, _, some (.int 0), X0, by decide, by decide, nofun, ?_, fun fs hr => castTop (ef_0 m (0 : Int32) (0 : Int32)) ?_⟩
  · show Q_max0 Z  h0 n0 _ s₁.heap _
    rw [(e0 : s₁.heap = h0)]
    exact ⟨rfl, N0, rfl⟩
  · show Steps _ _ _ (s₁.setTop (mkF m 0 #[vI 0, vI 0] [])) _
    refine XS.iloadN X0.here hx rfl (hb hby d0) rfl ?_
    refine XS.iloadN X0.here hx rfl (hb hby d1) rfl ?_
    refine XS.icmpNo X0.here hx rfl (hb hby d2) rfl (flt ((by decide) : ¬ ((0 : Int32) < (0 : Int32)))).1 ?_
    refine XS.iloadN X0.here hx rfl (hb hby d3) rfl ?_
    refine XS.goto X0.here hx rfl (pc0 := 6) (pc' := 10) rfl (hb hby d4) (by decide) (by decide) ?_
    exact retI X0 hx hret (hb hby d5) hr
theorem d6 : decode jdk_29_method_69_code 0 = .ok (.iload_n 0, 1) := by decide +kernel
theorem d7 : decode jdk_29_method_69_code 1 = .ok (.iload_n 1, 1) := by decide +kernel
theorem d8 : decode jdk_29_method_69_code 2 = .ok (.if_icmp .gt 7, 3) := by decide +kernel
theorem d9 : decode jdk_29_method_69_code 5 = .ok (.iload_n 0, 1) := by decide +kernel
theorem d10 : decode jdk_29_method_69_code 6 = .ok (.goto 4, 3) := by decide +kernel
theorem d11 : decode jdk_29_method_69_code 10 = .ok (.ireturn, 1) := by decide +kernel
theorem pn_1 : plainFor (⟨"java/lang/Math", "min", "(II)I"⟩ : MethodName) = true := by first | (simp [plainFor, overriddenIn]; done) | decide +kernel
abbrev m_1 : MethodName := (⟨"java/lang/Math", "min", "(II)I"⟩ : MethodName)
def Q_min0 (Z : State) (h0 : Heap) (n0 : Nat) (v : Option Value) (h : Heap) (L : List Loc) : Prop := (v = some (.int 0)) ∧ (Fr n0 L) ∧ (h = h0)
theorem rm_min0 (l : Launch) (Z : State) (a0 : Array Value) (hw : HW Z a0) (ws : List Jvm.Cond) (h0 : Heap) (n0 : Nat) (Z0 : n0 ≤ h0.size) :
    MF l Z m_1 jdk_29_method_69_code 2 (some .int) ws (oR 0 0 0 0) #[(.int 0), (.int 0)] h0 (Q_min0 Z  h0 n0) := by
  refine own_body (cls := "java/lang/Math") pn_1 rfl (fun p e s m below meth c s₁ hx hby hml hown hnm hret hZ X0 e0 => ?_)
  have N0 := Fr.nil n0
  refine ⟨_, _, _, _, some (.int 0), X0, by decide, by decide, nofun, ?_, fun fs hr => castTop (ef_0 m (0 : Int32) (0 : Int32)) ?_⟩
  · show Q_min0 Z  h0 n0 _ s₁.heap _
    rw [(e0 : s₁.heap = h0)]
    exact ⟨rfl, N0, rfl⟩
  · show Steps _ _ _ (s₁.setTop (mkF m 0 #[vI 0, vI 0] [])) _
    refine XS.iloadN X0.here hx rfl (hb hby d6) rfl ?_
    refine XS.iloadN X0.here hx rfl (hb hby d7) rfl ?_
    refine XS.icmpNo X0.here hx rfl (hb hby d8) rfl (flt ((by decide) : ¬ ((0 : Int32) < (0 : Int32)))).2.2.1 ?_
    refine XS.iloadN X0.here hx rfl (hb hby d9) rfl ?_
    refine XS.goto X0.here hx rfl (pc0 := 6) (pc' := 10) rfl (hb hby d10) (by decide) (by decide) ?_
    exact retI X0 hx hret (hb hby d11) hr
def Q_min1 (Z : State) (h0 : Heap) (n0 : Nat) (v : Option Value) (h : Heap) (L : List Loc) : Prop := (v = some (.int 1)) ∧ (Fr n0 L) ∧ (h = h0)
theorem rm_min1 (l : Launch) (Z : State) (a0 : Array Value) (hw : HW Z a0) (ws : List Jvm.Cond) (h0 : Heap) (n0 : Nat) (Z0 : n0 ≤ h0.size) :
    MF l Z m_1 jdk_29_method_69_code 2 (some .int) ws (oR 0 0 0 0) #[(.int 1), (.int 1)] h0 (Q_min1 Z  h0 n0) := by
  refine own_body (cls := "java/lang/Math") pn_1 rfl (fun p e s m below meth c s₁ hx hby hml hown hnm hret hZ X0 e0 => ?_)
  have N0 := Fr.nil n0
  refine ⟨_, _, _, _, some (.int 1), X0, by decide, by decide, nofun, ?_, fun fs hr => castTop (ef_0 m (1 : Int32) (1 : Int32)) ?_⟩
  · show Q_min1 Z  h0 n0 _ s₁.heap _
    rw [(e0 : s₁.heap = h0)]
    exact ⟨rfl, N0, rfl⟩
  · show Steps _ _ _ (s₁.setTop (mkF m 0 #[vI 1, vI 1] [])) _
    refine XS.iloadN X0.here hx rfl (hb hby d6) rfl ?_
    refine XS.iloadN X0.here hx rfl (hb hby d7) rfl ?_
    refine XS.icmpNo X0.here hx rfl (hb hby d8) rfl (flt ((by decide) : ¬ ((1 : Int32) < (1 : Int32)))).2.2.1 ?_
    refine XS.iloadN X0.here hx rfl (hb hby d9) rfl ?_
    refine XS.goto X0.here hx rfl (pc0 := 6) (pc' := 10) rfl (hb hby d10) (by decide) (by decide) ?_
    exact retI X0 hx hret (hb hby d11) hr
def Q_min2 (Z : State) (h0 : Heap) (n0 : Nat) (v : Option Value) (h : Heap) (L : List Loc) : Prop := (v = some (.int 2)) ∧ (Fr n0 L) ∧ (h = h0)
theorem rm_min2 (l : Launch) (Z : State) (a0 : Array Value) (hw : HW Z a0) (ws : List Jvm.Cond) (h0 : Heap) (n0 : Nat) (Z0 : n0 ≤ h0.size) :
    MF l Z m_1 jdk_29_method_69_code 2 (some .int) ws (oR 0 0 0 0) #[(.int 2), (.int 2)] h0 (Q_min2 Z  h0 n0) := by
  refine own_body (cls := "java/lang/Math") pn_1 rfl (fun p e s m below meth c s₁ hx hby hml hown hnm hret hZ X0 e0 => ?_)
  have N0 := Fr.nil n0
  refine ⟨_, _, _, _, some (.int 2), X0, by decide, by decide, nofun, ?_, fun fs hr => castTop (ef_0 m (2 : Int32) (2 : Int32)) ?_⟩
  · show Q_min2 Z  h0 n0 _ s₁.heap _
    rw [(e0 : s₁.heap = h0)]
    exact ⟨rfl, N0, rfl⟩
  · show Steps _ _ _ (s₁.setTop (mkF m 0 #[vI 2, vI 2] [])) _
    refine XS.iloadN X0.here hx rfl (hb hby d6) rfl ?_
    refine XS.iloadN X0.here hx rfl (hb hby d7) rfl ?_
    refine XS.icmpNo X0.here hx rfl (hb hby d8) rfl (flt ((by decide) : ¬ ((2 : Int32) < (2 : Int32)))).2.2.1 ?_
    refine XS.iloadN X0.here hx rfl (hb hby d9) rfl ?_
    refine XS.goto X0.here hx rfl (pc0 := 6) (pc' := 10) rfl (hb hby d10) (by decide) (by decide) ?_
    exact retI X0 hx hret (hb hby d11) hr
def Q_min3 (Z : State) (h0 : Heap) (n0 : Nat) (v : Option Value) (h : Heap) (L : List Loc) : Prop := (v = some (.int 3)) ∧ (Fr n0 L) ∧ (h = h0)
theorem rm_min3 (l : Launch) (Z : State) (a0 : Array Value) (hw : HW Z a0) (ws : List Jvm.Cond) (h0 : Heap) (n0 : Nat) (Z0 : n0 ≤ h0.size) :
    MF l Z m_1 jdk_29_method_69_code 2 (some .int) ws (oR 0 0 0 0) #[(.int 3), (.int 3)] h0 (Q_min3 Z  h0 n0) := by
  refine own_body (cls := "java/lang/Math") pn_1 rfl (fun p e s m below meth c s₁ hx hby hml hown hnm hret hZ X0 e0 => ?_)
  have N0 := Fr.nil n0
  refine ⟨_, _, _, _, some (.int 3), X0, by decide, by decide, nofun, ?_, fun fs hr => castTop (ef_0 m (3 : Int32) (3 : Int32)) ?_⟩
  · show Q_min3 Z  h0 n0 _ s₁.heap _
    rw [(e0 : s₁.heap = h0)]
    exact ⟨rfl, N0, rfl⟩
  · show Steps _ _ _ (s₁.setTop (mkF m 0 #[vI 3, vI 3] [])) _
    refine XS.iloadN X0.here hx rfl (hb hby d6) rfl ?_
    refine XS.iloadN X0.here hx rfl (hb hby d7) rfl ?_
    refine XS.icmpNo X0.here hx rfl (hb hby d8) rfl (flt ((by decide) : ¬ ((3 : Int32) < (3 : Int32)))).2.2.1 ?_
    refine XS.iloadN X0.here hx rfl (hb hby d9) rfl ?_
    refine XS.goto X0.here hx rfl (pc0 := 6) (pc' := 10) rfl (hb hby d10) (by decide) (by decide) ?_
    exact retI X0 hx hret (hb hby d11) hr
theorem d12 : decode jdk_43_method_4_code 0 = .ok (.iload_n 0, 1) := by decide +kernel
theorem d13 : decode jdk_43_method_4_code 1 = .ok (.ifCond .lt 14, 3) := by decide +kernel
theorem d14 : decode jdk_43_method_4_code 4 = .ok (.iload_n 0, 1) := by decide +kernel
theorem d15 : decode jdk_43_method_4_code 5 = .ok (.sipush 255, 3) := by decide +kernel
theorem d16 : decode jdk_43_method_4_code 8 = .ok (.if_icmp .gt 7, 3) := by decide +kernel
theorem d17 : decode jdk_43_method_4_code 11 = .ok (.iconst 1, 1) := by decide +kernel
theorem d18 : decode jdk_43_method_4_code 12 = .ok (.goto 4, 3) := by decide +kernel
theorem d19 : decode jdk_43_method_4_code 16 = .ok (.ireturn, 1) := by decide +kernel
theorem pn_2 : plainName "java/lang/StringLatin1" = true := by first | (simp [plainName, overriddenIn]; done) | decide +kernel
theorem ef_1 (m : MethodId) (x0 : Int32) : entryFrame m #[(.int x0)] 1 = mkF m 0 #[vI x0] [] := by first | (simp [entryFrame, mkF, argsToLocals, Value.category, maxLocals]; done) | rfl
abbrev m_2 : MethodName := (⟨"java/lang/StringLatin1", "canEncode", "(I)Z"⟩ : MethodName)
def Q_canI (Z : State) (x_ : Int32) (h0 : Heap) (n0 : Nat) (v : Option Value) (h : Heap) (L : List Loc) : Prop := (v = some (.int 1)) ∧ (Fr n0 L) ∧ (h = h0)
theorem rm_canI (l : Launch) (Z : State) (a0 : Array Value) (hw : HW Z a0) (ws : List Jvm.Cond) (x_ : Int32) (h0 : Heap) (n0 : Nat) (Z0 : n0 ≤ h0.size) (hx0 : ¬ (x_ < (0 : Int32))) (hx1 : ¬ ((255 : Int32) < x_)) :
    MF l Z m_2 jdk_43_method_4_code 1 (some .boolean) ws (oR 0 0 0 0) #[(.int x_)] h0 (Q_canI Z x_ h0 n0) := by
  refine own_body (cls := "java/lang/StringLatin1") (plainFor_of_name pn_2) rfl (fun p e s m below meth c s₁ hx hby hml hown hnm hret hZ X0 e0 => ?_)
  have N0 := Fr.nil n0
  refine ⟨_, _, _, _, some (.int 1), X0, by decide, by decide, nofun, ?_, fun fs hr => castTop (ef_1 m x_) ?_⟩
  · show Q_canI Z x_ h0 n0 _ s₁.heap _
    rw [(e0 : s₁.heap = h0)]
    exact ⟨rfl, N0, rfl⟩
  · show Steps _ _ _ (s₁.setTop (mkF m 0 #[vI x_] [])) _
    refine XS.iloadN X0.here hx rfl (hb hby d12) rfl ?_
    refine XS.ifNo X0.here hx rfl (hb hby d13) rfl ((if0 _ _).trans (flt (hx0 : ¬ (x_ < (0 : Int32)))).1) ?_
    refine XS.iloadN X0.here hx rfl (hb hby d14) rfl ?_
    refine XS.sipush X0.here hx rfl (hb hby d15) ?_
    refine XS.icmpNo X0.here hx rfl (hb hby d16) rfl (flt (hx1 : ¬ ((255 : Int32) < x_))).2.2.1 ?_
    refine XS.iconst X0.here hx rfl (hb hby d17) ?_
    refine XS.goto X0.here hx rfl (pc0 := 12) (pc' := 16) rfl (hb hby d18) (by decide) (by decide) ?_
    exact retN X0 hx (t := .boolean) hret (by simp) (hb hby d19) hr
def oP (y : Int32) : Int32 := if y &&& (3 : Int32) = (0 : Int32) then 10 else if y &&& (3 : Int32) = (1 : Int32) then 13 else nar .char (((y.toUInt32 >>> ((2 : Int32) &&& 31).toUInt32).toInt32).toUInt32.toUInt16.toUInt32.toInt32)
theorem own_oP (y : Int32) : ¬ oP y < 0 ∧ ¬ (65535 : Int32) < oP y := by
  unfold oP
  split
  · decide
  · split
    · decide
    · exact own_nar_rng _
theorem d20 : decode method_2_code 0 = .ok (.iload_n 0, 1) := by decide +kernel
theorem d21 : decode method_2_code 1 = .ok (.iconst 3, 1) := by decide +kernel
theorem d22 : decode method_2_code 2 = .ok (.iand, 1) := by decide +kernel
theorem d23 : decode method_2_code 3 = .ok (.istore_n 1, 1) := by decide +kernel
theorem d24 : decode method_2_code 4 = .ok (.iload_n 1, 1) := by decide +kernel
theorem d25 : decode method_2_code 5 = .ok (.ifCond .ne 6, 3) := by decide +kernel
theorem d26 : decode method_2_code 8 = .ok (.bipush 10, 2) := by decide +kernel
theorem d27 : decode method_2_code 10 = .ok (.ireturn, 1) := by decide +kernel
theorem pn_3 : plainName "com/example/branchward/branchward/IdsHoldsLineBreakPinLaw" = true := by first | (simp [plainName, overriddenIn]; done) | decide +kernel
theorem ef_2 (m : MethodId) (x0 : Int32) : entryFrame m #[(.int x0)] 2 = mkF m 0 #[vI x0, .unset] [] := by first | (simp [entryFrame, mkF, argsToLocals, Value.category, maxLocals]; done) | rfl
abbrev m_3 : MethodName := (⟨"com/example/branchward/branchward/IdsHoldsLineBreakPinLaw", "pick", "(I)C"⟩ : MethodName)
def Q_pick (Z : State) (x_ : Int32) (h0 : Heap) (n0 : Nat) (v : Option Value) (h : Heap) (L : List Loc) : Prop := (v = some (.int (oP x_))) ∧ (Fr n0 L) ∧ (h = h0)
theorem rm_pick_0 (l : Launch) (Z : State) (a0 : Array Value) (hw : HW Z a0) (ws : List Jvm.Cond) (x_ : Int32) (h0 : Heap) (n0 : Nat) (Z0 : n0 ≤ h0.size) (hc5 : (x_ &&& (3 : Int32)) = (0 : Int32)) :
    MF l Z m_3 method_2_code 2 (some .char) ws (oR 0 0 0 0) #[(.int x_)] h0 (Q_pick Z x_ h0 n0) := by
  refine own_body (cls := "com/example/branchward/branchward/IdsHoldsLineBreakPinLaw") (plainFor_of_name pn_3) rfl (fun p e s m below meth c s₁ hx hby hml hown hnm hret hZ X0 e0 => ?_)
  have N0 := Fr.nil n0
  refine ⟨_, _, _, _, some (.int 10), X0, by decide, by decide, nofun, ?_, fun fs hr => castTop (ef_2 m x_) ?_⟩
  · show Q_pick Z x_ h0 n0 _ s₁.heap _
    rw [(e0 : s₁.heap = h0)]
    exact ⟨(by simp only [oP, if_pos hc5]), N0, rfl⟩
  · show Steps _ _ _ (s₁.setTop (mkF m 0 #[vI x_, .unset] [])) _
    refine XS.iloadN X0.here hx rfl (hb hby d20) rfl ?_
    refine XS.iconst X0.here hx rfl (hb hby d21) ?_
    refine XS.iand X0.here hx rfl (hb hby d22) rfl ?_
    refine XS.istoreN X0.here hx rfl (hb hby d23) rfl (l' := #[vI x_, .val (.int (x_ &&& (3 : Int32)))]) rfl ?_
    refine XS.iloadN X0.here hx rfl (hb hby d24) rfl ?_
    refine XS.ifNo X0.here hx rfl (hb hby d25) rfl ((if0 _ _).trans (teq (hc5 : (x_ &&& (3 : Int32)) = (0 : Int32))).2) ?_
    refine XS.bipush X0.here hx rfl (hb hby d26) ?_
    exact retN X0 hx (t := .char) hret (by simp) (hb hby d27) hr
theorem d28 : decode method_2_code 11 = .ok (.iload_n 1, 1) := by decide +kernel
theorem d29 : decode method_2_code 12 = .ok (.iconst 1, 1) := by decide +kernel
theorem d30 : decode method_2_code 13 = .ok (.if_icmp .ne 6, 3) := by decide +kernel
theorem d31 : decode method_2_code 16 = .ok (.bipush 13, 2) := by decide +kernel
theorem d32 : decode method_2_code 18 = .ok (.ireturn, 1) := by decide +kernel
theorem rm_pick_1 (l : Launch) (Z : State) (a0 : Array Value) (hw : HW Z a0) (ws : List Jvm.Cond) (x_ : Int32) (h0 : Heap) (n0 : Nat) (Z0 : n0 ≤ h0.size) (hc5 : ¬ ((x_ &&& (3 : Int32)) = (0 : Int32))) (hc13 : (x_ &&& (3 : Int32)) = (1 : Int32)) :
    MF l Z m_3 method_2_code 2 (some .char) ws (oR 0 0 0 0) #[(.int x_)] h0 (Q_pick Z x_ h0 n0) := by
  refine own_body (cls := "com/example/branchward/branchward/IdsHoldsLineBreakPinLaw") (plainFor_of_name pn_3) rfl (fun p e s m below meth c s₁ hx hby hml hown hnm hret hZ X0 e0 => ?_)
  have N0 := Fr.nil n0
  refine ⟨_, _, _, _, some (.int 13), X0, by decide, by decide, nofun, ?_, fun fs hr => castTop (ef_2 m x_) ?_⟩
  · show Q_pick Z x_ h0 n0 _ s₁.heap _
    rw [(e0 : s₁.heap = h0)]
    exact ⟨(by simp only [oP, if_neg hc5, if_pos hc13]), N0, rfl⟩
  · show Steps _ _ _ (s₁.setTop (mkF m 0 #[vI x_, .unset] [])) _
    refine XS.iloadN X0.here hx rfl (hb hby d20) rfl ?_
    refine XS.iconst X0.here hx rfl (hb hby d21) ?_
    refine XS.iand X0.here hx rfl (hb hby d22) rfl ?_
    refine XS.istoreN X0.here hx rfl (hb hby d23) rfl (l' := #[vI x_, .val (.int (x_ &&& (3 : Int32)))]) rfl ?_
    refine XS.iloadN X0.here hx rfl (hb hby d24) rfl ?_
    refine XS.ifYes X0.here hx rfl (pc0 := 5) (pc' := 11) rfl (hb hby d25) rfl ((if0 _ _).trans (feq (hc5 : ¬ ((x_ &&& (3 : Int32)) = (0 : Int32)))).2) (by decide) (by decide) ?_
    refine XS.iloadN X0.here hx rfl (hb hby d28) rfl ?_
    refine XS.iconst X0.here hx rfl (hb hby d29) ?_
    refine XS.icmpNo X0.here hx rfl (hb hby d30) rfl (teq (hc13 : (x_ &&& (3 : Int32)) = (1 : Int32))).2 ?_
    refine XS.bipush X0.here hx rfl (hb hby d31) ?_
    exact retN X0 hx (t := .char) hret (by simp) (hb hby d32) hr
theorem d33 : decode method_2_code 19 = .ok (.iload_n 0, 1) := by decide +kernel
theorem d34 : decode method_2_code 20 = .ok (.iconst 2, 1) := by decide +kernel
theorem d35 : decode method_2_code 21 = .ok (.iushr, 1) := by decide +kernel
theorem d36 : decode method_2_code 22 = .ok (.i2c, 1) := by decide +kernel
theorem d37 : decode method_2_code 23 = .ok (.ireturn, 1) := by decide +kernel
theorem rm_pick_2 (l : Launch) (Z : State) (a0 : Array Value) (hw : HW Z a0) (ws : List Jvm.Cond) (x_ : Int32) (h0 : Heap) (n0 : Nat) (Z0 : n0 ≤ h0.size) (hc5 : ¬ ((x_ &&& (3 : Int32)) = (0 : Int32))) (hc13 : ¬ ((x_ &&& (3 : Int32)) = (1 : Int32))) :
    MF l Z m_3 method_2_code 2 (some .char) ws (oR 0 0 0 0) #[(.int x_)] h0 (Q_pick Z x_ h0 n0) := by
  refine own_body (cls := "com/example/branchward/branchward/IdsHoldsLineBreakPinLaw") (plainFor_of_name pn_3) rfl (fun p e s m below meth c s₁ hx hby hml hown hnm hret hZ X0 e0 => ?_)
  have N0 := Fr.nil n0
  refine ⟨_, _, _, _, some (.int (nar .char (((x_.toUInt32 >>> ((2 : Int32) &&& 31).toUInt32).toInt32).toUInt32.toUInt16.toUInt32.toInt32))), X0, by decide, by decide, nofun, ?_, fun fs hr => castTop (ef_2 m x_) ?_⟩
  · show Q_pick Z x_ h0 n0 _ s₁.heap _
    rw [(e0 : s₁.heap = h0)]
    exact ⟨(by simp only [oP, if_neg hc5, if_neg hc13]), N0, rfl⟩
  · show Steps _ _ _ (s₁.setTop (mkF m 0 #[vI x_, .unset] [])) _
    refine XS.iloadN X0.here hx rfl (hb hby d20) rfl ?_
    refine XS.iconst X0.here hx rfl (hb hby d21) ?_
    refine XS.iand X0.here hx rfl (hb hby d22) rfl ?_
    refine XS.istoreN X0.here hx rfl (hb hby d23) rfl (l' := #[vI x_, .val (.int (x_ &&& (3 : Int32)))]) rfl ?_
    refine XS.iloadN X0.here hx rfl (hb hby d24) rfl ?_
    refine XS.ifYes X0.here hx rfl (pc0 := 5) (pc' := 11) rfl (hb hby d25) rfl ((if0 _ _).trans (feq (hc5 : ¬ ((x_ &&& (3 : Int32)) = (0 : Int32)))).2) (by decide) (by decide) ?_
    refine XS.iloadN X0.here hx rfl (hb hby d28) rfl ?_
    refine XS.iconst X0.here hx rfl (hb hby d29) ?_
    refine XS.icmpYes X0.here hx rfl (pc0 := 13) (pc' := 19) rfl (hb hby d30) rfl (feq (hc13 : ¬ ((x_ &&& (3 : Int32)) = (1 : Int32)))).2 (by decide) (by decide) ?_
    refine XS.iloadN X0.here hx rfl (hb hby d33) rfl ?_
    refine XS.iconst X0.here hx rfl (hb hby d34) ?_
    refine XS.iushr X0.here hx rfl (hb hby d35) rfl ?_
    refine XS.i2c X0.here hx rfl (hb hby d36) rfl ?_
    exact retN X0 hx (t := .char) hret (by simp) (hb hby d37) hr
theorem rm_pick (l : Launch) (Z : State) (a0 : Array Value) (hw : HW Z a0) (ws : List Jvm.Cond) (x_ : Int32) (h0 : Heap) (n0 : Nat) (Z0 : n0 ≤ h0.size) :
    MF l Z m_3 method_2_code 2 (some .char) ws (oR 0 0 0 0) #[(.int x_)] h0 (Q_pick Z x_ h0 n0) := by
  by_cases h0' : x_ &&& (3 : Int32) = (0 : Int32)
  · exact rm_pick_0 l Z a0 hw ws x_ h0 n0 Z0  h0'
  by_cases h1' : x_ &&& (3 : Int32) = (1 : Int32)
  · exact rm_pick_1 l Z a0 hw ws x_ h0 n0 Z0  h0' h1'
  exact rm_pick_2 l Z a0 hw ws x_ h0 n0 Z0  h0' h1'
theorem d38 : decode method_3_code 0 = .ok (.iload_n 0, 1) := by decide +kernel
theorem d39 : decode method_3_code 1 = .ok (.bipush 10, 2) := by decide +kernel
theorem d40 : decode method_3_code 3 = .ok (.if_icmp .eq 9, 3) := by decide +kernel
theorem d41 : decode method_3_code 12 = .ok (.iconst 1, 1) := by decide +kernel
theorem d42 : decode method_3_code 13 = .ok (.goto 4, 3) := by decide +kernel
theorem d43 : decode method_3_code 17 = .ok (.ireturn, 1) := by decide +kernel
abbrev m_4 : MethodName := (⟨"com/example/branchward/branchward/IdsHoldsLineBreakPinLaw", "br", "(C)Z"⟩ : MethodName)
def Q_br1 (Z : State) (c_ : Int32) (h0 : Heap) (n0 : Nat) (v : Option Value) (h : Heap) (L : List Loc) : Prop := (v = some (.int 1)) ∧ (Fr n0 L) ∧ (h = h0)
theorem rm_br1_0 (l : Launch) (Z : State) (a0 : Array Value) (hw : HW Z a0) (ws : List Jvm.Cond) (c_ : Int32) (h0 : Heap) (n0 : Nat) (Z0 : n0 ≤ h0.size) (hb1 : c_ = (10 : Int32) ∨ c_ = (13 : Int32)) (hc3 : c_ = (10 : Int32)) :
    MF l Z m_4 method_3_code 1 (some .boolean) ws (oR 0 0 0 0) #[(.int c_)] h0 (Q_br1 Z c_ h0 n0) := by
  refine own_body (cls := "com/example/branchward/branchward/IdsHoldsLineBreakPinLaw") (plainFor_of_name pn_3) rfl (fun p e s m below meth c s₁ hx hby hml hown hnm hret hZ X0 e0 => ?_)
  have N0 := Fr.nil n0
  refine ⟨_, _, _, _, some (.int 1), X0, by decide, by decide, nofun, ?_, fun fs hr => castTop (ef_1 m c_) ?_⟩
  · show Q_br1 Z c_ h0 n0 _ s₁.heap _
    rw [(e0 : s₁.heap = h0)]
    exact ⟨rfl, N0, rfl⟩
  · show Steps _ _ _ (s₁.setTop (mkF m 0 #[vI c_] [])) _
    refine XS.iloadN X0.here hx rfl (hb hby d38) rfl ?_
    refine XS.bipush X0.here hx rfl (hb hby d39) ?_
    refine XS.icmpYes X0.here hx rfl (pc0 := 3) (pc' := 12) rfl (hb hby d40) rfl (teq (hc3 : c_ = (10 : Int32))).1 (by decide) (by decide) ?_
    refine XS.iconst X0.here hx rfl (hb hby d41) ?_
    refine XS.goto X0.here hx rfl (pc0 := 13) (pc' := 17) rfl (hb hby d42) (by decide) (by decide) ?_
    exact retN X0 hx (t := .boolean) hret (by simp) (hb hby d43) hr
theorem d44 : decode method_3_code 6 = .ok (.iload_n 0, 1) := by decide +kernel
theorem d45 : decode method_3_code 7 = .ok (.bipush 13, 2) := by decide +kernel
theorem d46 : decode method_3_code 9 = .ok (.if_icmp .ne 7, 3) := by decide +kernel
theorem rm_br1_1 (l : Launch) (Z : State) (a0 : Array Value) (hw : HW Z a0) (ws : List Jvm.Cond) (c_ : Int32) (h0 : Heap) (n0 : Nat) (Z0 : n0 ≤ h0.size) (hb1 : c_ = (10 : Int32) ∨ c_ = (13 : Int32)) (hc3 : ¬ (c_ = (10 : Int32))) (hc9 : c_ = (13 : Int32)) :
    MF l Z m_4 method_3_code 1 (some .boolean) ws (oR 0 0 0 0) #[(.int c_)] h0 (Q_br1 Z c_ h0 n0) := by
  refine own_body (cls := "com/example/branchward/branchward/IdsHoldsLineBreakPinLaw") (plainFor_of_name pn_3) rfl (fun p e s m below meth c s₁ hx hby hml hown hnm hret hZ X0 e0 => ?_)
  have N0 := Fr.nil n0
  refine ⟨_, _, _, _, some (.int 1), X0, by decide, by decide, nofun, ?_, fun fs hr => castTop (ef_1 m c_) ?_⟩
  · show Q_br1 Z c_ h0 n0 _ s₁.heap _
    rw [(e0 : s₁.heap = h0)]
    exact ⟨rfl, N0, rfl⟩
  · show Steps _ _ _ (s₁.setTop (mkF m 0 #[vI c_] [])) _
    refine XS.iloadN X0.here hx rfl (hb hby d38) rfl ?_
    refine XS.bipush X0.here hx rfl (hb hby d39) ?_
    refine XS.icmpNo X0.here hx rfl (hb hby d40) rfl (feq (hc3 : ¬ (c_ = (10 : Int32)))).1 ?_
    refine XS.iloadN X0.here hx rfl (hb hby d44) rfl ?_
    refine XS.bipush X0.here hx rfl (hb hby d45) ?_
    refine XS.icmpNo X0.here hx rfl (hb hby d46) rfl (teq (hc9 : c_ = (13 : Int32))).2 ?_
    refine XS.iconst X0.here hx rfl (hb hby d41) ?_
    refine XS.goto X0.here hx rfl (pc0 := 13) (pc' := 17) rfl (hb hby d42) (by decide) (by decide) ?_
    exact retN X0 hx (t := .boolean) hret (by simp) (hb hby d43) hr
theorem rm_br1 (l : Launch) (Z : State) (a0 : Array Value) (hw : HW Z a0) (ws : List Jvm.Cond) (c_ : Int32) (h0 : Heap) (n0 : Nat) (Z0 : n0 ≤ h0.size) (hb1 : c_ = (10 : Int32) ∨ c_ = (13 : Int32)) :
    MF l Z m_4 method_3_code 1 (some .boolean) ws (oR 0 0 0 0) #[(.int c_)] h0 (Q_br1 Z c_ h0 n0) := by
  by_cases h0' : c_ = (10 : Int32)
  · exact rm_br1_0 l Z a0 hw ws c_ h0 n0 Z0 hb1 h0'
  exact rm_br1_1 l Z a0 hw ws c_ h0 n0 Z0 hb1 h0' (hb1.resolve_left h0')
theorem d47 : decode method_3_code 16 = .ok (.iconst 0, 1) := by decide +kernel
def Q_br0 (Z : State) (c_ : Int32) (h0 : Heap) (n0 : Nat) (v : Option Value) (h : Heap) (L : List Loc) : Prop := (v = some (.int 0)) ∧ (Fr n0 L) ∧ (h = h0)
theorem rm_br0 (l : Launch) (Z : State) (a0 : Array Value) (hw : HW Z a0) (ws : List Jvm.Cond) (c_ : Int32) (h0 : Heap) (n0 : Nat) (Z0 : n0 ≤ h0.size) (hb2 : ¬ (c_ = (10 : Int32))) (hb3 : ¬ (c_ = (13 : Int32))) :
    MF l Z m_4 method_3_code 1 (some .boolean) ws (oR 0 0 0 0) #[(.int c_)] h0 (Q_br0 Z c_ h0 n0) := by
  refine own_body (cls := "com/example/branchward/branchward/IdsHoldsLineBreakPinLaw") (plainFor_of_name pn_3) rfl (fun p e s m below meth c s₁ hx hby hml hown hnm hret hZ X0 e0 => ?_)
  have N0 := Fr.nil n0
  refine ⟨_, _, _, _, some (.int 0), X0, by decide, by decide, nofun, ?_, fun fs hr => castTop (ef_1 m c_) ?_⟩
  · show Q_br0 Z c_ h0 n0 _ s₁.heap _
    rw [(e0 : s₁.heap = h0)]
    exact ⟨rfl, N0, rfl⟩
  · show Steps _ _ _ (s₁.setTop (mkF m 0 #[vI c_] [])) _
    refine XS.iloadN X0.here hx rfl (hb hby d38) rfl ?_
    refine XS.bipush X0.here hx rfl (hb hby d39) ?_
    refine XS.icmpNo X0.here hx rfl (hb hby d40) rfl (feq (hb2 : ¬ (c_ = (10 : Int32)))).1 ?_
    refine XS.iloadN X0.here hx rfl (hb hby d44) rfl ?_
    refine XS.bipush X0.here hx rfl (hb hby d45) ?_
    refine XS.icmpYes X0.here hx rfl (pc0 := 9) (pc' := 16) rfl (hb hby d46) rfl (feq (hb3 : ¬ (c_ = (13 : Int32)))).2 (by decide) (by decide) ?_
    refine XS.iconst X0.here hx rfl (hb hby d47) ?_
    exact retN X0 hx (t := .boolean) hret (by simp) (hb hby d43) hr
theorem w_99 {Z : State} {a0 : Array Value} (hw : HW Z a0) : (Jvm.Cond.fieldLink "java/lang/StringUTF16" (44 : Nat) "java/lang/StringUTF16" "$assertionsDisabled" "Z").before a0 Z = true := hw _ (List.mem_of_getElem? (i := 99) rfl)
theorem d48 : decode jdk_52_method_5_code 0 = .ok (.getstatic 44, 3) := by decide +kernel
theorem d49 : decode jdk_52_method_5_code 3 = .ok (.ifCond .ne 25, 3) := by decide +kernel
theorem d50 : decode jdk_52_method_5_code 28 = .ok (.iload_n 1, 1) := by decide +kernel
theorem d51 : decode jdk_52_method_5_code 29 = .ok (.iconst 1, 1) := by decide +kernel
theorem d52 : decode jdk_52_method_5_code 30 = .ok (.ishl, 1) := by decide +kernel
theorem d53 : decode jdk_52_method_5_code 31 = .ok (.istore_n 1, 1) := by decide +kernel
theorem d54 : decode jdk_52_method_5_code 32 = .ok (.aload_n 0, 1) := by decide +kernel
theorem d55 : decode jdk_52_method_5_code 33 = .ok (.iload_n 1, 1) := by decide +kernel
theorem d56 : decode jdk_52_method_5_code 34 = .ok (.iinc 1 1, 3) := by decide +kernel
theorem d57 : decode jdk_52_method_5_code 37 = .ok (.baload, 1) := by decide +kernel
theorem d58 : decode jdk_52_method_5_code 38 = .ok (.sipush 255, 3) := by decide +kernel
theorem d59 : decode jdk_52_method_5_code 41 = .ok (.iand, 1) := by decide +kernel
theorem w_100 {Z : State} {a0 : Array Value} (hw : HW Z a0) : (Jvm.Cond.fieldLink "java/lang/StringUTF16" (59 : Nat) "java/lang/StringUTF16" "HI_BYTE_SHIFT" "I").before a0 Z = true := hw _ (List.mem_of_getElem? (i := 100) rfl)
theorem d60 : decode jdk_52_method_5_code 42 = .ok (.getstatic 59, 3) := by decide +kernel
theorem d61 : decode jdk_52_method_5_code 45 = .ok (.ishl, 1) := by decide +kernel
theorem d62 : decode jdk_52_method_5_code 46 = .ok (.aload_n 0, 1) := by decide +kernel
theorem d63 : decode jdk_52_method_5_code 47 = .ok (.iload_n 1, 1) := by decide +kernel
theorem d64 : decode jdk_52_method_5_code 48 = .ok (.baload, 1) := by decide +kernel
theorem d65 : decode jdk_52_method_5_code 49 = .ok (.sipush 255, 3) := by decide +kernel
theorem d66 : decode jdk_52_method_5_code 52 = .ok (.iand, 1) := by decide +kernel
theorem w_101 {Z : State} {a0 : Array Value} (hw : HW Z a0) : (Jvm.Cond.fieldLink "java/lang/StringUTF16" (63 : Nat) "java/lang/StringUTF16" "LO_BYTE_SHIFT" "I").before a0 Z = true := hw _ (List.mem_of_getElem? (i := 101) rfl)
theorem d67 : decode jdk_52_method_5_code 53 = .ok (.getstatic 63, 3) := by decide +kernel
theorem d68 : decode jdk_52_method_5_code 56 = .ok (.ishl, 1) := by decide +kernel
theorem d69 : decode jdk_52_method_5_code 57 = .ok (.ior, 1) := by decide +kernel
theorem d70 : decode jdk_52_method_5_code 58 = .ok (.i2c, 1) := by decide +kernel
theorem d71 : decode jdk_52_method_5_code 59 = .ok (.ireturn, 1) := by decide +kernel
theorem pn_4 : plainName "java/lang/StringUTF16" = true := by first | (simp [plainName, overriddenIn]; done) | decide +kernel
theorem ef_3 (m : MethodId) (x0 : Addr) (x1 : Int32) : entryFrame m #[(.ref x0), (.int x1)] 2 = mkF m 0 #[vA x0, vI x1] [] := by first | (simp [entryFrame, mkF, argsToLocals, Value.category, maxLocals]; done) | rfl
abbrev m_5 : MethodName := (⟨"java/lang/StringUTF16", "getChar", "([BI)C"⟩ : MethodName)
def Q_get1_0 (Z : State) (c0 : Int32) (b : Addr) (k : ClassId) (h0 : Heap) (n0 : Nat) (v : Option Value) (h : Heap) (L : List Loc) : Prop := (v = some (.int c0)) ∧ (Fr n0 L) ∧ (h = h0)
theorem rm_get1_0 (l : Launch) (Z : State) (a0 : Array Value) (hw : HW Z a0) (ws : List Jvm.Cond) (c0 : Int32) (b : Addr) (k : ClassId) (h0 : Heap) (n0 : Nat) (Z0 : n0 ≤ h0.size) (P0 : Old Z n0 h0) (P1 : Arv Z h0 b k .byte (2 : Int32) [(.int (oL c0)), (.int (oH c0))] (.int 0)) (P2 : sta1 Z (.int 1)) (P3 : sta2 Z (.int 0)) (P4 : sta3 Z (.int 8)) (r0 : ¬ c0 < 0 ∧ ¬ (65535 : Int32) < c0) :
    MF l Z m_5 jdk_52_method_5_code 2 (some .char) ws (oR 0 0 0 0) #[(.ref b), (.int 0)] h0 (Q_get1_0 Z c0 b k h0 n0) := by
  refine own_body (cls := "java/lang/StringUTF16") (plainFor_of_name pn_4) rfl (fun p e s m below meth c s₁ hx hby hml hown hnm hret hZ X0 e0 => ?_)
  have N0 := Fr.nil n0
  have lt1 := own_l P1.lt
  obtain ⟨T2, X2, e2, st2⟩ := getS2 X0 hx hZ hown (host := "") (Or.inl (w_99 hw)) Via.refl e0 (P2.ext P0.2) (g := (mkF m 0 #[vA b, vI 0] [])) rfl (hb hby d48)
  obtain ⟨cl3, Ar3, q3, S3, M3, H3, G3⟩ := id P1
  have hin3 : ¬ ((0 : Int32) < 0 ∨ cl3.slots.size ≤ ((0 : Int32)).toNatClampNeg) := inb_of S3 ⟨by decide, by decide⟩
  have hat3 : cl3.slots[((0 : Int32)).toNatClampNeg]? = some (.int (oL c0)) := Has.at H3 hin3 rfl
  obtain ⟨T4, X4, e4, st4⟩ := getS2 X2 hx hZ hown (host := "") (Or.inl (w_100 hw)) Via.refl e2 (P3.ext P0.2) (g := (mkF m 42 #[vA b, vI 1] [(.int ((oL c0) &&& (255 : Int32)))])) rfl (hb hby d60)
  obtain ⟨cl5, Ar5, q5, S5, M5, H5, G5⟩ := id P1
  have hin5 : ¬ ((1 : Int32) < 0 ∨ cl5.slots.size ≤ ((1 : Int32)).toNatClampNeg) := inb_of S5 ⟨by decide, by decide⟩
  have hat5 : cl5.slots[((1 : Int32)).toNatClampNeg]? = some (.int (oH c0)) := Has.at H5 hin5 rfl
  obtain ⟨T6, X6, e6, st6⟩ := getS2 X4 hx hZ hown (host := "") (Or.inl (w_101 hw)) Via.refl e4 (P4.ext P0.2) (g := (mkF m 53 #[vA b, vI 1] [(.int ((oH c0) &&& (255 : Int32))), (.int (((oL c0) &&& (255 : Int32)) <<< ((0 : Int32) &&& 31)))])) rfl (hb hby d67)
  refine ⟨_, _, _, _, some (.int (nar .char (((((oL c0) &&& (255 : Int32)) <<< ((0 : Int32) &&& 31)) ||| (((oH c0) &&& (255 : Int32)) <<< ((8 : Int32) &&& 31))).toUInt32.toUInt16.toUInt32.toInt32))), X6, by decide, by decide, nofun, ?_, fun fs hr => castTop (ef_3 m b (0 : Int32)) ?_⟩
  · show Q_get1_0 Z c0 b k h0 n0 _ T6.heap _
    rw [(e6 : T6.heap = h0)]
    exact ⟨(congrArg (fun z => some (Value.int z)) (own_get r0)), N0, rfl⟩
  · show Steps _ _ _ (s₁.setTop (mkF m 0 #[vA b, vI 0] [])) _
    refine st2 _ ?_
    show Steps _ _ _ (T2.setTop (mkF m 3 #[vA b, vI 0] [(.int 1)])) _
    refine XS.ifYes X2.here hx rfl (pc0 := 3) (pc' := 28) rfl (hb hby d49) rfl ((if0 _ _).trans (feq ((by decide) : ¬ ((1 : Int32) = (0 : Int32)))).2) (by decide) (by decide) ?_
    refine XS.iloadN X2.here hx rfl (hb hby d50) rfl ?_
    refine XS.iconst X2.here hx rfl (hb hby d51) ?_
    refine XS.ishl X2.here hx rfl (hb hby d52) rfl ?_
    refine XS.istoreN X2.here hx rfl (hb hby d53) rfl (l' := #[vA b, vI 0]) rfl ?_
    refine XS.aloadN X2.here hx rfl (hb hby d54) rfl rfl ?_
    refine XS.iloadN X2.here hx rfl (hb hby d55) rfl ?_
    refine XS.iinc X2.here hx rfl (hb hby d56) rfl (l' := #[vA b, vI 1]) rfl ?_
    refine X2.baloadBytes hx (j := (0 : Int32)) (v := (.int (oL c0))) (by rw [e2]; exact Ar3.1) (State.isArrayOf_alike hZ.alike Ar3.2.1) Ar3.2.2 hin3 hat3 (g := (mkF m 37 #[vA b, vI 1] [(.int 0), (.ref b)])) rfl rfl (hb hby d57) _ ?_
    show Steps _ _ _ (T2.setTop (mkF m 38 #[vA b, vI 1] [(.int (oL c0))])) _
    refine XS.sipush X2.here hx rfl (hb hby d58) ?_
    refine XS.iand X2.here hx rfl (hb hby d59) rfl ?_
    refine st4 _ ?_
    show Steps _ _ _ (T4.setTop (mkF m 45 #[vA b, vI 1] [(.int 0), (.int ((oL c0) &&& (255 : Int32)))])) _
    refine XS.ishl X4.here hx rfl (hb hby d61) rfl ?_
    refine XS.aloadN X4.here hx rfl (hb hby d62) rfl rfl ?_
    refine XS.iloadN X4.here hx rfl (hb hby d63) rfl ?_
    refine X4.baloadBytes hx (j := (1 : Int32)) (v := (.int (oH c0))) (by rw [e4]; exact Ar5.1) (State.isArrayOf_alike hZ.alike Ar5.2.1) Ar5.2.2 hin5 hat5 (g := (mkF m 48 #[vA b, vI 1] [(.int 1), (.ref b), (.int (((oL c0) &&& (255 : Int32)) <<< ((0 : Int32) &&& 31)))])) rfl rfl (hb hby d64) _ ?_
    show Steps _ _ _ (T4.setTop (mkF m 49 #[vA b, vI 1] [(.int (oH c0)), (.int (((oL c0) &&& (255 : Int32)) <<< ((0 : Int32) &&& 31)))])) _
    refine XS.sipush X4.here hx rfl (hb hby d65) ?_
    refine XS.iand X4.here hx rfl (hb hby d66) rfl ?_
    refine st6 _ ?_
    show Steps _ _ _ (T6.setTop (mkF m 56 #[vA b, vI 1] [(.int 8), (.int ((oH c0) &&& (255 : Int32))), (.int (((oL c0) &&& (255 : Int32)) <<< ((0 : Int32) &&& 31)))])) _
    refine XS.ishl X6.here hx rfl (hb hby d68) rfl ?_
    refine XS.ior X6.here hx rfl (hb hby d69) rfl ?_
    refine XS.i2c X6.here hx rfl (hb hby d70) rfl ?_
    exact retN X6 hx (t := .char) hret (by simp) (hb hby d71) hr
def Q_get2_0 (Z : State) (c0 : Int32) (c1 : Int32) (b : Addr) (k : ClassId) (h0 : Heap) (n0 : Nat) (v : Option Value) (h : Heap) (L : List Loc) : Prop := (v = some (.int c0)) ∧ (Fr n0 L) ∧ (h = h0)
theorem rm_get2_0 (l : Launch) (Z : State) (a0 : Array Value) (hw : HW Z a0) (ws : List Jvm.Cond) (c0 : Int32) (c1 : Int32) (b : Addr) (k : ClassId) (h0 : Heap) (n0 : Nat) (Z0 : n0 ≤ h0.size) (P0 : Old Z n0 h0) (P1 : Arv Z h0 b k .byte (4 : Int32) [(.int (oL c0)), (.int (oH c0)), (.int (oL c1)), (.int (oH c1))] (.int 0)) (P2 : sta1 Z (.int 1)) (P3 : sta2 Z (.int 0)) (P4 : sta3 Z (.int 8)) (r0 : ¬ c0 < 0 ∧ ¬ (65535 : Int32) < c0) :
    MF l Z m_5 jdk_52_method_5_code 2 (some .char) ws (oR 0 0 0 0) #[(.ref b), (.int 0)] h0 (Q_get2_0 Z c0 c1 b k h0 n0) := by
  refine own_body (cls := "java/lang/StringUTF16") (plainFor_of_name pn_4) rfl (fun p e s m below meth c s₁ hx hby hml hown hnm hret hZ X0 e0 => ?_)
  have N0 := Fr.nil n0
  have lt1 := own_l P1.lt
  obtain ⟨T2, X2, e2, st2⟩ := getS2 X0 hx hZ hown (host := "") (Or.inl (w_99 hw)) Via.refl e0 (P2.ext P0.2) (g := (mkF m 0 #[vA b, vI 0] [])) rfl (hb hby d48)
  obtain ⟨cl3, Ar3, q3, S3, M3, H3, G3⟩ := id P1
  have hin3 : ¬ ((0 : Int32) < 0 ∨ cl3.slots.size ≤ ((0 : Int32)).toNatClampNeg) := inb_of S3 ⟨by decide, by decide⟩
  have hat3 : cl3.slots[((0 : Int32)).toNatClampNeg]? = some (.int (oL c0)) := Has.at H3 hin3 rfl
  obtain ⟨T4, X4, e4, st4⟩ := getS2 X2 hx hZ hown (host := "") (Or.inl (w_100 hw)) Via.refl e2 (P3.ext P0.2) (g := (mkF m 42 #[vA b, vI 1] [(.int ((oL c0) &&& (255 : Int32)))])) rfl (hb hby d60)
  obtain ⟨cl5, Ar5, q5, S5, M5, H5, G5⟩ := id P1
  have hin5 : ¬ ((1 : Int32) < 0 ∨ cl5.slots.size ≤ ((1 : Int32)).toNatClampNeg) := inb_of S5 ⟨by decide, by decide⟩
  have hat5 : cl5.slots[((1 : Int32)).toNatClampNeg]? = some (.int (oH c0)) := Has.at H5 hin5 rfl
  obtain ⟨T6, X6, e6, st6⟩ := getS2 X4 hx hZ hown (host := "") (Or.inl (w_101 hw)) Via.refl e4 (P4.ext P0.2) (g := (mkF m 53 #[vA b, vI 1] [(.int ((oH c0) &&& (255 : Int32))), (.int (((oL c0) &&& (255 : Int32)) <<< ((0 : Int32) &&& 31)))])) rfl (hb hby d67)
  refine ⟨_, _, _, _, some (.int (nar .char (((((oL c0) &&& (255 : Int32)) <<< ((0 : Int32) &&& 31)) ||| (((oH c0) &&& (255 : Int32)) <<< ((8 : Int32) &&& 31))).toUInt32.toUInt16.toUInt32.toInt32))), X6, by decide, by decide, nofun, ?_, fun fs hr => castTop (ef_3 m b (0 : Int32)) ?_⟩
  · show Q_get2_0 Z c0 c1 b k h0 n0 _ T6.heap _
    rw [(e6 : T6.heap = h0)]
    exact ⟨(congrArg (fun z => some (Value.int z)) (own_get r0)), N0, rfl⟩
  · show Steps _ _ _ (s₁.setTop (mkF m 0 #[vA b, vI 0] [])) _
    refine st2 _ ?_
    show Steps _ _ _ (T2.setTop (mkF m 3 #[vA b, vI 0] [(.int 1)])) _
    refine XS.ifYes X2.here hx rfl (pc0 := 3) (pc' := 28) rfl (hb hby d49) rfl ((if0 _ _).trans (feq ((by decide) : ¬ ((1 : Int32) = (0 : Int32)))).2) (by decide) (by decide) ?_
    refine XS.iloadN X2.here hx rfl (hb hby d50) rfl ?_
    refine XS.iconst X2.here hx rfl (hb hby d51) ?_
    refine XS.ishl X2.here hx rfl (hb hby d52) rfl ?_
    refine XS.istoreN X2.here hx rfl (hb hby d53) rfl (l' := #[vA b, vI 0]) rfl ?_
    refine XS.aloadN X2.here hx rfl (hb hby d54) rfl rfl ?_
    refine XS.iloadN X2.here hx rfl (hb hby d55) rfl ?_
    refine XS.iinc X2.here hx rfl (hb hby d56) rfl (l' := #[vA b, vI 1]) rfl ?_
    refine X2.baloadBytes hx (j := (0 : Int32)) (v := (.int (oL c0))) (by rw [e2]; exact Ar3.1) (State.isArrayOf_alike hZ.alike Ar3.2.1) Ar3.2.2 hin3 hat3 (g := (mkF m 37 #[vA b, vI 1] [(.int 0), (.ref b)])) rfl rfl (hb hby d57) _ ?_
    show Steps _ _ _ (T2.setTop (mkF m 38 #[vA b, vI 1] [(.int (oL c0))])) _
    refine XS.sipush X2.here hx rfl (hb hby d58) ?_
    refine XS.iand X2.here hx rfl (hb hby d59) rfl ?_
    refine st4 _ ?_
    show Steps _ _ _ (T4.setTop (mkF m 45 #[vA b, vI 1] [(.int 0), (.int ((oL c0) &&& (255 : Int32)))])) _
    refine XS.ishl X4.here hx rfl (hb hby d61) rfl ?_
    refine XS.aloadN X4.here hx rfl (hb hby d62) rfl rfl ?_
    refine XS.iloadN X4.here hx rfl (hb hby d63) rfl ?_
    refine X4.baloadBytes hx (j := (1 : Int32)) (v := (.int (oH c0))) (by rw [e4]; exact Ar5.1) (State.isArrayOf_alike hZ.alike Ar5.2.1) Ar5.2.2 hin5 hat5 (g := (mkF m 48 #[vA b, vI 1] [(.int 1), (.ref b), (.int (((oL c0) &&& (255 : Int32)) <<< ((0 : Int32) &&& 31)))])) rfl rfl (hb hby d64) _ ?_
    show Steps _ _ _ (T4.setTop (mkF m 49 #[vA b, vI 1] [(.int (oH c0)), (.int (((oL c0) &&& (255 : Int32)) <<< ((0 : Int32) &&& 31)))])) _
    refine XS.sipush X4.here hx rfl (hb hby d65) ?_
    refine XS.iand X4.here hx rfl (hb hby d66) rfl ?_
    refine st6 _ ?_
    show Steps _ _ _ (T6.setTop (mkF m 56 #[vA b, vI 1] [(.int 8), (.int ((oH c0) &&& (255 : Int32))), (.int (((oL c0) &&& (255 : Int32)) <<< ((0 : Int32) &&& 31)))])) _
    refine XS.ishl X6.here hx rfl (hb hby d68) rfl ?_
    refine XS.ior X6.here hx rfl (hb hby d69) rfl ?_
    refine XS.i2c X6.here hx rfl (hb hby d70) rfl ?_
    exact retN X6 hx (t := .char) hret (by simp) (hb hby d71) hr
def Q_get2_1 (Z : State) (c0 : Int32) (c1 : Int32) (b : Addr) (k : ClassId) (h0 : Heap) (n0 : Nat) (v : Option Value) (h : Heap) (L : List Loc) : Prop := (v = some (.int c1)) ∧ (Fr n0 L) ∧ (h = h0)
theorem rm_get2_1 (l : Launch) (Z : State) (a0 : Array Value) (hw : HW Z a0) (ws : List Jvm.Cond) (c0 : Int32) (c1 : Int32) (b : Addr) (k : ClassId) (h0 : Heap) (n0 : Nat) (Z0 : n0 ≤ h0.size) (P0 : Old Z n0 h0) (P1 : Arv Z h0 b k .byte (4 : Int32) [(.int (oL c0)), (.int (oH c0)), (.int (oL c1)), (.int (oH c1))] (.int 0)) (P2 : sta1 Z (.int 1)) (P3 : sta2 Z (.int 0)) (P4 : sta3 Z (.int 8)) (r1 : ¬ c1 < 0 ∧ ¬ (65535 : Int32) < c1) :
    MF l Z m_5 jdk_52_method_5_code 2 (some .char) ws (oR 0 0 0 0) #[(.ref b), (.int 1)] h0 (Q_get2_1 Z c0 c1 b k h0 n0) := by
  refine own_body (cls := "java/lang/StringUTF16") (plainFor_of_name pn_4) rfl (fun p e s m below meth c s₁ hx hby hml hown hnm hret hZ X0 e0 => ?_)
  have N0 := Fr.nil n0
  have lt1 := own_l P1.lt
  obtain ⟨T2, X2, e2, st2⟩ := getS2 X0 hx hZ hown (host := "") (Or.inl (w_99 hw)) Via.refl e0 (P2.ext P0.2) (g := (mkF m 0 #[vA b, vI 1] [])) rfl (hb hby d48)
  obtain ⟨cl3, Ar3, q3, S3, M3, H3, G3⟩ := id P1
  have hin3 : ¬ ((2 : Int32) < 0 ∨ cl3.slots.size ≤ ((2 : Int32)).toNatClampNeg) := inb_of S3 ⟨by decide, by decide⟩
  have hat3 : cl3.slots[((2 : Int32)).toNatClampNeg]? = some (.int (oL c1)) := Has.at H3 hin3 rfl
  obtain ⟨T4, X4, e4, st4⟩ := getS2 X2 hx hZ hown (host := "") (Or.inl (w_100 hw)) Via.refl e2 (P3.ext P0.2) (g := (mkF m 42 #[vA b, vI 3] [(.int ((oL c1) &&& (255 : Int32)))])) rfl (hb hby d60)
  obtain ⟨cl5, Ar5, q5, S5, M5, H5, G5⟩ := id P1
  have hin5 : ¬ ((3 : Int32) < 0 ∨ cl5.slots.size ≤ ((3 : Int32)).toNatClampNeg) := inb_of S5 ⟨by decide, by decide⟩
  have hat5 : cl5.slots[((3 : Int32)).toNatClampNeg]? = some (.int (oH c1)) := Has.at H5 hin5 rfl
  obtain ⟨T6, X6, e6, st6⟩ := getS2 X4 hx hZ hown (host := "") (Or.inl (w_101 hw)) Via.refl e4 (P4.ext P0.2) (g := (mkF m 53 #[vA b, vI 3] [(.int ((oH c1) &&& (255 : Int32))), (.int (((oL c1) &&& (255 : Int32)) <<< ((0 : Int32) &&& 31)))])) rfl (hb hby d67)
  refine ⟨_, _, _, _, some (.int (nar .char (((((oL c1) &&& (255 : Int32)) <<< ((0 : Int32) &&& 31)) ||| (((oH c1) &&& (255 : Int32)) <<< ((8 : Int32) &&& 31))).toUInt32.toUInt16.toUInt32.toInt32))), X6, by decide, by decide, nofun, ?_, fun fs hr => castTop (ef_3 m b (1 : Int32)) ?_⟩
  · show Q_get2_1 Z c0 c1 b k h0 n0 _ T6.heap _
    rw [(e6 : T6.heap = h0)]
    exact ⟨(congrArg (fun z => some (Value.int z)) (own_get r1)), N0, rfl⟩
  · show Steps _ _ _ (s₁.setTop (mkF m 0 #[vA b, vI 1] [])) _
    refine st2 _ ?_
    show Steps _ _ _ (T2.setTop (mkF m 3 #[vA b, vI 1] [(.int 1)])) _
    refine XS.ifYes X2.here hx rfl (pc0 := 3) (pc' := 28) rfl (hb hby d49) rfl ((if0 _ _).trans (feq ((by decide) : ¬ ((1 : Int32) = (0 : Int32)))).2) (by decide) (by decide) ?_
    refine XS.iloadN X2.here hx rfl (hb hby d50) rfl ?_
    refine XS.iconst X2.here hx rfl (hb hby d51) ?_
    refine XS.ishl X2.here hx rfl (hb hby d52) rfl ?_
    refine XS.istoreN X2.here hx rfl (hb hby d53) rfl (l' := #[vA b, vI 2]) rfl ?_
    refine XS.aloadN X2.here hx rfl (hb hby d54) rfl rfl ?_
    refine XS.iloadN X2.here hx rfl (hb hby d55) rfl ?_
    refine XS.iinc X2.here hx rfl (hb hby d56) rfl (l' := #[vA b, vI 3]) rfl ?_
    refine X2.baloadBytes hx (j := (2 : Int32)) (v := (.int (oL c1))) (by rw [e2]; exact Ar3.1) (State.isArrayOf_alike hZ.alike Ar3.2.1) Ar3.2.2 hin3 hat3 (g := (mkF m 37 #[vA b, vI 3] [(.int 2), (.ref b)])) rfl rfl (hb hby d57) _ ?_
    show Steps _ _ _ (T2.setTop (mkF m 38 #[vA b, vI 3] [(.int (oL c1))])) _
    refine XS.sipush X2.here hx rfl (hb hby d58) ?_
    refine XS.iand X2.here hx rfl (hb hby d59) rfl ?_
    refine st4 _ ?_
    show Steps _ _ _ (T4.setTop (mkF m 45 #[vA b, vI 3] [(.int 0), (.int ((oL c1) &&& (255 : Int32)))])) _
    refine XS.ishl X4.here hx rfl (hb hby d61) rfl ?_
    refine XS.aloadN X4.here hx rfl (hb hby d62) rfl rfl ?_
    refine XS.iloadN X4.here hx rfl (hb hby d63) rfl ?_
    refine X4.baloadBytes hx (j := (3 : Int32)) (v := (.int (oH c1))) (by rw [e4]; exact Ar5.1) (State.isArrayOf_alike hZ.alike Ar5.2.1) Ar5.2.2 hin5 hat5 (g := (mkF m 48 #[vA b, vI 3] [(.int 3), (.ref b), (.int (((oL c1) &&& (255 : Int32)) <<< ((0 : Int32) &&& 31)))])) rfl rfl (hb hby d64) _ ?_
    show Steps _ _ _ (T4.setTop (mkF m 49 #[vA b, vI 3] [(.int (oH c1)), (.int (((oL c1) &&& (255 : Int32)) <<< ((0 : Int32) &&& 31)))])) _
    refine XS.sipush X4.here hx rfl (hb hby d65) ?_
    refine XS.iand X4.here hx rfl (hb hby d66) rfl ?_
    refine st6 _ ?_
    show Steps _ _ _ (T6.setTop (mkF m 56 #[vA b, vI 3] [(.int 8), (.int ((oH c1) &&& (255 : Int32))), (.int (((oL c1) &&& (255 : Int32)) <<< ((0 : Int32) &&& 31)))])) _
    refine XS.ishl X6.here hx rfl (hb hby d68) rfl ?_
    refine XS.ior X6.here hx rfl (hb hby d69) rfl ?_
    refine XS.i2c X6.here hx rfl (hb hby d70) rfl ?_
    exact retN X6 hx (t := .char) hret (by simp) (hb hby d71) hr
def Q_get3_0 (Z : State) (c0 : Int32) (c1 : Int32) (c2 : Int32) (b : Addr) (k : ClassId) (h0 : Heap) (n0 : Nat) (v : Option Value) (h : Heap) (L : List Loc) : Prop := (v = some (.int c0)) ∧ (Fr n0 L) ∧ (h = h0)
theorem rm_get3_0 (l : Launch) (Z : State) (a0 : Array Value) (hw : HW Z a0) (ws : List Jvm.Cond) (c0 : Int32) (c1 : Int32) (c2 : Int32) (b : Addr) (k : ClassId) (h0 : Heap) (n0 : Nat) (Z0 : n0 ≤ h0.size) (P0 : Old Z n0 h0) (P1 : Arv Z h0 b k .byte (6 : Int32) [(.int (oL c0)), (.int (oH c0)), (.int (oL c1)), (.int (oH c1)), (.int (oL c2)), (.int (oH c2))] (.int 0)) (P2 : sta1 Z (.int 1)) (P3 : sta2 Z (.int 0)) (P4 : sta3 Z (.int 8)) (r0 : ¬ c0 < 0 ∧ ¬ (65535 : Int32) < c0) :
    MF l Z m_5 jdk_52_method_5_code 2 (some .char) ws (oR 0 0 0 0) #[(.ref b), (.int 0)] h0 (Q_get3_0 Z c0 c1 c2 b k h0 n0) := by
  refine own_body (cls := "java/lang/StringUTF16") (plainFor_of_name pn_4) rfl (fun p e s m below meth c s₁ hx hby hml hown hnm hret hZ X0 e0 => ?_)
  have N0 := Fr.nil n0
  have lt1 := own_l P1.lt
  obtain ⟨T2, X2, e2, st2⟩ := getS2 X0 hx hZ hown (host := "") (Or.inl (w_99 hw)) Via.refl e0 (P2.ext P0.2) (g := (mkF m 0 #[vA b, vI 0] [])) rfl (hb hby d48)
  obtain ⟨cl3, Ar3, q3, S3, M3, H3, G3⟩ := id P1
  have hin3 : ¬ ((0 : Int32) < 0 ∨ cl3.slots.size ≤ ((0 : Int32)).toNatClampNeg) := inb_of S3 ⟨by decide, by decide⟩
  have hat3 : cl3.slots[((0 : Int32)).toNatClampNeg]? = some (.int (oL c0)) := Has.at H3 hin3 rfl
  obtain ⟨T4, X4, e4, st4⟩ := getS2 X2 hx hZ hown (host := "") (Or.inl (w_100 hw)) Via.refl e2 (P3.ext P0.2) (g := (mkF m 42 #[vA b, vI 1] [(.int ((oL c0) &&& (255 : Int32)))])) rfl (hb hby d60)
  obtain ⟨cl5, Ar5, q5, S5, M5, H5, G5⟩ := id P1
  have hin5 : ¬ ((1 : Int32) < 0 ∨ cl5.slots.size ≤ ((1 : Int32)).toNatClampNeg) := inb_of S5 ⟨by decide, by decide⟩
  have hat5 : cl5.slots[((1 : Int32)).toNatClampNeg]? = some (.int (oH c0)) := Has.at H5 hin5 rfl
  obtain ⟨T6, X6, e6, st6⟩ := getS2 X4 hx hZ hown (host := "") (Or.inl (w_101 hw)) Via.refl e4 (P4.ext P0.2) (g := (mkF m 53 #[vA b, vI 1] [(.int ((oH c0) &&& (255 : Int32))), (.int (((oL c0) &&& (255 : Int32)) <<< ((0 : Int32) &&& 31)))])) rfl (hb hby d67)
  refine ⟨_, _, _, _, some (.int (nar .char (((((oL c0) &&& (255 : Int32)) <<< ((0 : Int32) &&& 31)) ||| (((oH c0) &&& (255 : Int32)) <<< ((8 : Int32) &&& 31))).toUInt32.toUInt16.toUInt32.toInt32))), X6, by decide, by decide, nofun, ?_, fun fs hr => castTop (ef_3 m b (0 : Int32)) ?_⟩
  · show Q_get3_0 Z c0 c1 c2 b k h0 n0 _ T6.heap _
    rw [(e6 : T6.heap = h0)]
    exact ⟨(congrArg (fun z => some (Value.int z)) (own_get r0)), N0, rfl⟩
  · show Steps _ _ _ (s₁.setTop (mkF m 0 #[vA b, vI 0] [])) _
    refine st2 _ ?_
    show Steps _ _ _ (T2.setTop (mkF m 3 #[vA b, vI 0] [(.int 1)])) _
    refine XS.ifYes X2.here hx rfl (pc0 := 3) (pc' := 28) rfl (hb hby d49) rfl ((if0 _ _).trans (feq ((by decide) : ¬ ((1 : Int32) = (0 : Int32)))).2) (by decide) (by decide) ?_
    refine XS.iloadN X2.here hx rfl (hb hby d50) rfl ?_
    refine XS.iconst X2.here hx rfl (hb hby d51) ?_
    refine XS.ishl X2.here hx rfl (hb hby d52) rfl ?_
    refine XS.istoreN X2.here hx rfl (hb hby d53) rfl (l' := #[vA b, vI 0]) rfl ?_
    refine XS.aloadN X2.here hx rfl (hb hby d54) rfl rfl ?_
    refine XS.iloadN X2.here hx rfl (hb hby d55) rfl ?_
    refine XS.iinc X2.here hx rfl (hb hby d56) rfl (l' := #[vA b, vI 1]) rfl ?_
    refine X2.baloadBytes hx (j := (0 : Int32)) (v := (.int (oL c0))) (by rw [e2]; exact Ar3.1) (State.isArrayOf_alike hZ.alike Ar3.2.1) Ar3.2.2 hin3 hat3 (g := (mkF m 37 #[vA b, vI 1] [(.int 0), (.ref b)])) rfl rfl (hb hby d57) _ ?_
    show Steps _ _ _ (T2.setTop (mkF m 38 #[vA b, vI 1] [(.int (oL c0))])) _
    refine XS.sipush X2.here hx rfl (hb hby d58) ?_
    refine XS.iand X2.here hx rfl (hb hby d59) rfl ?_
    refine st4 _ ?_
    show Steps _ _ _ (T4.setTop (mkF m 45 #[vA b, vI 1] [(.int 0), (.int ((oL c0) &&& (255 : Int32)))])) _
    refine XS.ishl X4.here hx rfl (hb hby d61) rfl ?_
    refine XS.aloadN X4.here hx rfl (hb hby d62) rfl rfl ?_
    refine XS.iloadN X4.here hx rfl (hb hby d63) rfl ?_
    refine X4.baloadBytes hx (j := (1 : Int32)) (v := (.int (oH c0))) (by rw [e4]; exact Ar5.1) (State.isArrayOf_alike hZ.alike Ar5.2.1) Ar5.2.2 hin5 hat5 (g := (mkF m 48 #[vA b, vI 1] [(.int 1), (.ref b), (.int (((oL c0) &&& (255 : Int32)) <<< ((0 : Int32) &&& 31)))])) rfl rfl (hb hby d64) _ ?_
    show Steps _ _ _ (T4.setTop (mkF m 49 #[vA b, vI 1] [(.int (oH c0)), (.int (((oL c0) &&& (255 : Int32)) <<< ((0 : Int32) &&& 31)))])) _
    refine XS.sipush X4.here hx rfl (hb hby d65) ?_
    refine XS.iand X4.here hx rfl (hb hby d66) rfl ?_
    refine st6 _ ?_
    show Steps _ _ _ (T6.setTop (mkF m 56 #[vA b, vI 1] [(.int 8), (.int ((oH c0) &&& (255 : Int32))), (.int (((oL c0) &&& (255 : Int32)) <<< ((0 : Int32) &&& 31)))])) _
    refine XS.ishl X6.here hx rfl (hb hby d68) rfl ?_
    refine XS.ior X6.here hx rfl (hb hby d69) rfl ?_
    refine XS.i2c X6.here hx rfl (hb hby d70) rfl ?_
    exact retN X6 hx (t := .char) hret (by simp) (hb hby d71) hr
def Q_get3_1 (Z : State) (c0 : Int32) (c1 : Int32) (c2 : Int32) (b : Addr) (k : ClassId) (h0 : Heap) (n0 : Nat) (v : Option Value) (h : Heap) (L : List Loc) : Prop := (v = some (.int c1)) ∧ (Fr n0 L) ∧ (h = h0)
theorem rm_get3_1 (l : Launch) (Z : State) (a0 : Array Value) (hw : HW Z a0) (ws : List Jvm.Cond) (c0 : Int32) (c1 : Int32) (c2 : Int32) (b : Addr) (k : ClassId) (h0 : Heap) (n0 : Nat) (Z0 : n0 ≤ h0.size) (P0 : Old Z n0 h0) (P1 : Arv Z h0 b k .byte (6 : Int32) [(.int (oL c0)), (.int (oH c0)), (.int (oL c1)), (.int (oH c1)), (.int (oL c2)), (.int (oH c2))] (.int 0)) (P2 : sta1 Z (.int 1)) (P3 : sta2 Z (.int 0)) (P4 : sta3 Z (.int 8)) (r1 : ¬ c1 < 0 ∧ ¬ (65535 : Int32) < c1) :
    MF l Z m_5 jdk_52_method_5_code 2 (some .char) ws (oR 0 0 0 0) #[(.ref b), (.int 1)] h0 (Q_get3_1 Z c0 c1 c2 b k h0 n0) := by
  refine own_body (cls := "java/lang/StringUTF16") (plainFor_of_name pn_4) rfl (fun p e s m below meth c s₁ hx hby hml hown hnm hret hZ X0 e0 => ?_)
  have N0 := Fr.nil n0
  have lt1 := own_l P1.lt
  obtain ⟨T2, X2, e2, st2⟩ := getS2 X0 hx hZ hown (host := "") (Or.inl (w_99 hw)) Via.refl e0 (P2.ext P0.2) (g := (mkF m 0 #[vA b, vI 1] [])) rfl (hb hby d48)
  obtain ⟨cl3, Ar3, q3, S3, M3, H3, G3⟩ := id P1
  have hin3 : ¬ ((2 : Int32) < 0 ∨ cl3.slots.size ≤ ((2 : Int32)).toNatClampNeg) := inb_of S3 ⟨by decide, by decide⟩
  have hat3 : cl3.slots[((2 : Int32)).toNatClampNeg]? = some (.int (oL c1)) := Has.at H3 hin3 rfl
  obtain ⟨T4, X4, e4, st4⟩ := getS2 X2 hx hZ hown (host := "") (Or.inl (w_100 hw)) Via.refl e2 (P3.ext P0.2) (g := (mkF m 42 #[vA b, vI 3] [(.int ((oL c1) &&& (255 : Int32)))])) rfl (hb hby d60)
  obtain ⟨cl5, Ar5, q5, S5, M5, H5, G5⟩ := id P1
  have hin5 : ¬ ((3 : Int32) < 0 ∨ cl5.slots.size ≤ ((3 : Int32)).toNatClampNeg) := inb_of S5 ⟨by decide, by decide⟩
  have hat5 : cl5.slots[((3 : Int32)).toNatClampNeg]? = some (.int (oH c1)) := Has.at H5 hin5 rfl
  obtain ⟨T6, X6, e6, st6⟩ := getS2 X4 hx hZ hown (host := "") (Or.inl (w_101 hw)) Via.refl e4 (P4.ext P0.2) (g := (mkF m 53 #[vA b, vI 3] [(.int ((oH c1) &&& (255 : Int32))), (.int (((oL c1) &&& (255 : Int32)) <<< ((0 : Int32) &&& 31)))])) rfl (hb hby d67)
  refine ⟨_, _, _, _, some (.int (nar .char (((((oL c1) &&& (255 : Int32)) <<< ((0 : Int32) &&& 31)) ||| (((oH c1) &&& (255 : Int32)) <<< ((8 : Int32) &&& 31))).toUInt32.toUInt16.toUInt32.toInt32))), X6, by decide, by decide, nofun, ?_, fun fs hr => castTop (ef_3 m b (1 : Int32)) ?_⟩
  · show Q_get3_1 Z c0 c1 c2 b k h0 n0 _ T6.heap _
    rw [(e6 : T6.heap = h0)]
    exact ⟨(congrArg (fun z => some (Value.int z)) (own_get r1)), N0, rfl⟩
  · show Steps _ _ _ (s₁.setTop (mkF m 0 #[vA b, vI 1] [])) _
    refine st2 _ ?_
    show Steps _ _ _ (T2.setTop (mkF m 3 #[vA b, vI 1] [(.int 1)])) _
    refine XS.ifYes X2.here hx rfl (pc0 := 3) (pc' := 28) rfl (hb hby d49) rfl ((if0 _ _).trans (feq ((by decide) : ¬ ((1 : Int32) = (0 : Int32)))).2) (by decide) (by decide) ?_
    refine XS.iloadN X2.here hx rfl (hb hby d50) rfl ?_
    refine XS.iconst X2.here hx rfl (hb hby d51) ?_
    refine XS.ishl X2.here hx rfl (hb hby d52) rfl ?_
    refine XS.istoreN X2.here hx rfl (hb hby d53) rfl (l' := #[vA b, vI 2]) rfl ?_
    refine XS.aloadN X2.here hx rfl (hb hby d54) rfl rfl ?_
    refine XS.iloadN X2.here hx rfl (hb hby d55) rfl ?_
    refine XS.iinc X2.here hx rfl (hb hby d56) rfl (l' := #[vA b, vI 3]) rfl ?_
    refine X2.baloadBytes hx (j := (2 : Int32)) (v := (.int (oL c1))) (by rw [e2]; exact Ar3.1) (State.isArrayOf_alike hZ.alike Ar3.2.1) Ar3.2.2 hin3 hat3 (g := (mkF m 37 #[vA b, vI 3] [(.int 2), (.ref b)])) rfl rfl (hb hby d57) _ ?_
    show Steps _ _ _ (T2.setTop (mkF m 38 #[vA b, vI 3] [(.int (oL c1))])) _
    refine XS.sipush X2.here hx rfl (hb hby d58) ?_
    refine XS.iand X2.here hx rfl (hb hby d59) rfl ?_
    refine st4 _ ?_
    show Steps _ _ _ (T4.setTop (mkF m 45 #[vA b, vI 3] [(.int 0), (.int ((oL c1) &&& (255 : Int32)))])) _
    refine XS.ishl X4.here hx rfl (hb hby d61) rfl ?_
    refine XS.aloadN X4.here hx rfl (hb hby d62) rfl rfl ?_
    refine XS.iloadN X4.here hx rfl (hb hby d63) rfl ?_
    refine X4.baloadBytes hx (j := (3 : Int32)) (v := (.int (oH c1))) (by rw [e4]; exact Ar5.1) (State.isArrayOf_alike hZ.alike Ar5.2.1) Ar5.2.2 hin5 hat5 (g := (mkF m 48 #[vA b, vI 3] [(.int 3), (.ref b), (.int (((oL c1) &&& (255 : Int32)) <<< ((0 : Int32) &&& 31)))])) rfl rfl (hb hby d64) _ ?_
    show Steps _ _ _ (T4.setTop (mkF m 49 #[vA b, vI 3] [(.int (oH c1)), (.int (((oL c1) &&& (255 : Int32)) <<< ((0 : Int32) &&& 31)))])) _
    refine XS.sipush X4.here hx rfl (hb hby d65) ?_
    refine XS.iand X4.here hx rfl (hb hby d66) rfl ?_
    refine st6 _ ?_
    show Steps _ _ _ (T6.setTop (mkF m 56 #[vA b, vI 3] [(.int 8), (.int ((oH c1) &&& (255 : Int32))), (.int (((oL c1) &&& (255 : Int32)) <<< ((0 : Int32) &&& 31)))])) _
    refine XS.ishl X6.here hx rfl (hb hby d68) rfl ?_
    refine XS.ior X6.here hx rfl (hb hby d69) rfl ?_
    refine XS.i2c X6.here hx rfl (hb hby d70) rfl ?_
    exact retN X6 hx (t := .char) hret (by simp) (hb hby d71) hr
def Q_get3_2 (Z : State) (c0 : Int32) (c1 : Int32) (c2 : Int32) (b : Addr) (k : ClassId) (h0 : Heap) (n0 : Nat) (v : Option Value) (h : Heap) (L : List Loc) : Prop := (v = some (.int c2)) ∧ (Fr n0 L) ∧ (h = h0)
theorem rm_get3_2 (l : Launch) (Z : State) (a0 : Array Value) (hw : HW Z a0) (ws : List Jvm.Cond) (c0 : Int32) (c1 : Int32) (c2 : Int32) (b : Addr) (k : ClassId) (h0 : Heap) (n0 : Nat) (Z0 : n0 ≤ h0.size) (P0 : Old Z n0 h0) (P1 : Arv Z h0 b k .byte (6 : Int32) [(.int (oL c0)), (.int (oH c0)), (.int (oL c1)), (.int (oH c1)), (.int (oL c2)), (.int (oH c2))] (.int 0)) (P2 : sta1 Z (.int 1)) (P3 : sta2 Z (.int 0)) (P4 : sta3 Z (.int 8)) (r2 : ¬ c2 < 0 ∧ ¬ (65535 : Int32) < c2) :
    MF l Z m_5 jdk_52_method_5_code 2 (some .char) ws (oR 0 0 0 0) #[(.ref b), (.int 2)] h0 (Q_get3_2 Z c0 c1 c2 b k h0 n0) := by
  refine own_body (cls := "java/lang/StringUTF16") (plainFor_of_name pn_4) rfl (fun p e s m below meth c s₁ hx hby hml hown hnm hret hZ X0 e0 => ?_)
  have N0 := Fr.nil n0
  have lt1 := own_l P1.lt
  obtain ⟨T2, X2, e2, st2⟩ := getS2 X0 hx hZ hown (host := "") (Or.inl (w_99 hw)) Via.refl e0 (P2.ext P0.2) (g := (mkF m 0 #[vA b, vI 2] [])) rfl (hb hby d48)
  obtain ⟨cl3, Ar3, q3, S3, M3, H3, G3⟩ := id P1
  have hin3 : ¬ ((4 : Int32) < 0 ∨ cl3.slots.size ≤ ((4 : Int32)).toNatClampNeg) := inb_of S3 ⟨by decide, by decide⟩
  have hat3 : cl3.slots[((4 : Int32)).toNatClampNeg]? = some (.int (oL c2)) := Has.at H3 hin3 rfl
  obtain ⟨T4, X4, e4, st4⟩ := getS2 X2 hx hZ hown (host := "") (Or.inl (w_100 hw)) Via.refl e2 (P3.ext P0.2) (g := (mkF m 42 #[vA b, vI 5] [(.int ((oL c2) &&& (255 : Int32)))])) rfl (hb hby d60)
  obtain ⟨cl5, Ar5, q5, S5, M5, H5, G5⟩ := id P1
  have hin5 : ¬ ((5 : Int32) < 0 ∨ cl5.slots.size ≤ ((5 : Int32)).toNatClampNeg) := inb_of S5 ⟨by decide, by decide⟩
  have hat5 : cl5.slots[((5 : Int32)).toNatClampNeg]? = some (.int (oH c2)) := Has.at H5 hin5 rfl
  obtain ⟨T6, X6, e6, st6⟩ := getS2 X4 hx hZ hown (host := "") (Or.inl (w_101 hw)) Via.refl e4 (P4.ext P0.2) (g := (mkF m 53 #[vA b, vI 5] [(.int ((oH c2) &&& (255 : Int32))), (.int (((oL c2) &&& (255 : Int32)) <<< ((0 : Int32) &&& 31)))])) rfl (hb hby d67)
  refine ⟨_, _, _, _, some (.int (nar .char (((((oL c2) &&& (255 : Int32)) <<< ((0 : Int32) &&& 31)) ||| (((oH c2) &&& (255 : Int32)) <<< ((8 : Int32) &&& 31))).toUInt32.toUInt16.toUInt32.toInt32))), X6, by decide, by decide, nofun, ?_, fun fs hr => castTop (ef_3 m b (2 : Int32)) ?_⟩
  · show Q_get3_2 Z c0 c1 c2 b k h0 n0 _ T6.heap _
    rw [(e6 : T6.heap = h0)]
    exact ⟨(congrArg (fun z => some (Value.int z)) (own_get r2)), N0, rfl⟩
  · show Steps _ _ _ (s₁.setTop (mkF m 0 #[vA b, vI 2] [])) _
    refine st2 _ ?_
    show Steps _ _ _ (T2.setTop (mkF m 3 #[vA b, vI 2] [(.int 1)])) _
    refine XS.ifYes X2.here hx rfl (pc0 := 3) (pc' := 28) rfl (hb hby d49) rfl ((if0 _ _).trans (feq ((by decide) : ¬ ((1 : Int32) = (0 : Int32)))).2) (by decide) (by decide) ?_
    refine XS.iloadN X2.here hx rfl (hb hby d50) rfl ?_
    refine XS.iconst X2.here hx rfl (hb hby d51) ?_
    refine XS.ishl X2.here hx rfl (hb hby d52) rfl ?_
    refine XS.istoreN X2.here hx rfl (hb hby d53) rfl (l' := #[vA b, vI 4]) rfl ?_
    refine XS.aloadN X2.here hx rfl (hb hby d54) rfl rfl ?_
    refine XS.iloadN X2.here hx rfl (hb hby d55) rfl ?_
    refine XS.iinc X2.here hx rfl (hb hby d56) rfl (l' := #[vA b, vI 5]) rfl ?_
    refine X2.baloadBytes hx (j := (4 : Int32)) (v := (.int (oL c2))) (by rw [e2]; exact Ar3.1) (State.isArrayOf_alike hZ.alike Ar3.2.1) Ar3.2.2 hin3 hat3 (g := (mkF m 37 #[vA b, vI 5] [(.int 4), (.ref b)])) rfl rfl (hb hby d57) _ ?_
    show Steps _ _ _ (T2.setTop (mkF m 38 #[vA b, vI 5] [(.int (oL c2))])) _
    refine XS.sipush X2.here hx rfl (hb hby d58) ?_
    refine XS.iand X2.here hx rfl (hb hby d59) rfl ?_
    refine st4 _ ?_
    show Steps _ _ _ (T4.setTop (mkF m 45 #[vA b, vI 5] [(.int 0), (.int ((oL c2) &&& (255 : Int32)))])) _
    refine XS.ishl X4.here hx rfl (hb hby d61) rfl ?_
    refine XS.aloadN X4.here hx rfl (hb hby d62) rfl rfl ?_
    refine XS.iloadN X4.here hx rfl (hb hby d63) rfl ?_
    refine X4.baloadBytes hx (j := (5 : Int32)) (v := (.int (oH c2))) (by rw [e4]; exact Ar5.1) (State.isArrayOf_alike hZ.alike Ar5.2.1) Ar5.2.2 hin5 hat5 (g := (mkF m 48 #[vA b, vI 5] [(.int 5), (.ref b), (.int (((oL c2) &&& (255 : Int32)) <<< ((0 : Int32) &&& 31)))])) rfl rfl (hb hby d64) _ ?_
    show Steps _ _ _ (T4.setTop (mkF m 49 #[vA b, vI 5] [(.int (oH c2)), (.int (((oL c2) &&& (255 : Int32)) <<< ((0 : Int32) &&& 31)))])) _
    refine XS.sipush X4.here hx rfl (hb hby d65) ?_
    refine XS.iand X4.here hx rfl (hb hby d66) rfl ?_
    refine st6 _ ?_
    show Steps _ _ _ (T6.setTop (mkF m 56 #[vA b, vI 5] [(.int 8), (.int ((oH c2) &&& (255 : Int32))), (.int (((oL c2) &&& (255 : Int32)) <<< ((0 : Int32) &&& 31)))])) _
    refine XS.ishl X6.here hx rfl (hb hby d68) rfl ?_
    refine XS.ior X6.here hx rfl (hb hby d69) rfl ?_
    refine XS.i2c X6.here hx rfl (hb hby d70) rfl ?_
    exact retN X6 hx (t := .char) hret (by simp) (hb hby d71) hr
theorem d72 : decode jdk_52_method_4_code 0 = .ok (.getstatic 44, 3) := by decide +kernel
theorem d73 : decode jdk_52_method_4_code 3 = .ok (.ifCond .ne 25, 3) := by decide +kernel
theorem d74 : decode jdk_52_method_4_code 28 = .ok (.iload_n 1, 1) := by decide +kernel
theorem d75 : decode jdk_52_method_4_code 29 = .ok (.iconst 1, 1) := by decide +kernel
theorem d76 : decode jdk_52_method_4_code 30 = .ok (.ishl, 1) := by decide +kernel
theorem d77 : decode jdk_52_method_4_code 31 = .ok (.istore_n 1, 1) := by decide +kernel
theorem d78 : decode jdk_52_method_4_code 32 = .ok (.aload_n 0, 1) := by decide +kernel
theorem d79 : decode jdk_52_method_4_code 33 = .ok (.iload_n 1, 1) := by decide +kernel
theorem d80 : decode jdk_52_method_4_code 34 = .ok (.iinc 1 1, 3) := by decide +kernel
theorem d81 : decode jdk_52_method_4_code 37 = .ok (.iload_n 2, 1) := by decide +kernel
theorem d82 : decode jdk_52_method_4_code 38 = .ok (.getstatic 59, 3) := by decide +kernel
theorem d83 : decode jdk_52_method_4_code 41 = .ok (.ishr, 1) := by decide +kernel
theorem d84 : decode jdk_52_method_4_code 42 = .ok (.i2b, 1) := by decide +kernel
theorem d85 : decode jdk_52_method_4_code 43 = .ok (.bastore, 1) := by decide +kernel
theorem d86 : decode jdk_52_method_4_code 44 = .ok (.aload_n 0, 1) := by decide +kernel
theorem d87 : decode jdk_52_method_4_code 45 = .ok (.iload_n 1, 1) := by decide +kernel
theorem d88 : decode jdk_52_method_4_code 46 = .ok (.iload_n 2, 1) := by decide +kernel
theorem d89 : decode jdk_52_method_4_code 47 = .ok (.getstatic 63, 3) := by decide +kernel
theorem d90 : decode jdk_52_method_4_code 50 = .ok (.ishr, 1) := by decide +kernel
theorem d91 : decode jdk_52_method_4_code 51 = .ok (.i2b, 1) := by decide +kernel
theorem d92 : decode jdk_52_method_4_code 52 = .ok (.bastore, 1) := by decide +kernel
theorem d93 : decode jdk_52_method_4_code 53 = .ok (.return_, 1) := by decide +kernel
theorem ef_4 (m : MethodId) (x0 : Addr) (x1 : Int32) (x2 : Int32) : entryFrame m #[(.ref x0), (.int x1), (.int x2)] 3 = mkF m 0 #[vA x0, vI x1, vI x2] [] := by first | (simp [entryFrame, mkF, argsToLocals, Value.category, maxLocals]; done) | rfl
abbrev m_6 : MethodName := (⟨"java/lang/StringUTF16", "putChar", "([BII)V"⟩ : MethodName)
def Q_put1_0 (Z : State) (c0 : Int32) (b : Addr) (k : ClassId) (h0 : Heap) (n0 : Nat) (v : Option Value) (h : Heap) (L : List Loc) : Prop := (v = none) ∧ (Fr n0 L) ∧ (Keep h0 h [b]) ∧ (Arv Z h b k .byte (2 : Int32) [(.int (oL c0)), (.int (oH c0))] (.int 0)) ∧ (Old Z n0 h)
theorem rm_put1_0 (l : Launch) (Z : State) (a0 : Array Value) (hw : HW Z a0) (ws : List Jvm.Cond) (c0 : Int32) (b : Addr) (k : ClassId) (h0 : Heap) (n0 : Nat) (Z0 : n0 ≤ h0.size) (P0 : Old Z n0 h0) (P1 : Arv Z h0 b k .byte (2 : Int32) [(.int 0), (.int 0)] (.int 0)) (P2 : n0 ≤ b) (P3 : sta1 Z (.int 1)) (P4 : sta2 Z (.int 0)) (P5 : sta3 Z (.int 8)) :
    MF l Z m_6 jdk_52_method_4_code 3 none ws (oR 0 0 0 0) #[(.ref b), (.int 0), (.int c0)] h0 (Q_put1_0 Z c0 b k h0 n0) := by
  refine own_body (cls := "java/lang/StringUTF16") (plainFor_of_name pn_4) rfl (fun p e s m below meth c s₁ hx hby hml hown hnm hret hZ X0 e0 => ?_)
  have N0 := Fr.nil n0
  have K0 := Keep.refl h0 [b]
  have lt1 := own_l P1.lt
  obtain ⟨T2, X2, e2, st2⟩ := getS2 X0 hx hZ hown (host := "") (Or.inl (w_99 hw)) Via.refl e0 (P3.ext P0.2) (g := (mkF m 0 #[vA b, vI 0, vI c0] [])) rfl (hb hby d72)
  obtain ⟨T3, X3, e3, st3⟩ := getS2 X2 hx hZ hown (host := "") (Or.inl (w_100 hw)) Via.refl e2 (P4.ext P0.2) (g := (mkF m 38 #[vA b, vI 1, vI c0] [(.int c0), (.int 0), (.ref b)])) rfl (hb hby d82)
  obtain ⟨cl4, Ar4, q4, S4, M4, H4, G4⟩ := id P1
  have hin4 : ¬ ((0 : Int32) < 0 ∨ cl4.slots.size ≤ ((0 : Int32)).toNatClampNeg) := inb_of S4 ⟨by decide, by decide⟩
  obtain ⟨T4, h4, X4, e4, W4, st4⟩ := stB X3 hx hZ e3 Ar4 (j := (0 : Int32)) hin4 (g := (mkF m 43 #[vA b, vI 1, vI c0] [(.int ((c0 >>> ((0 : Int32) &&& 31)).toInt8.toInt32)), (.int 0), (.ref b)])) rfl rfl (hb hby d85)
  have V4 : Arv Z h4 b k .byte (2 : Int32) [(.int (nar .byte ((c0 >>> ((0 : Int32) &&& 31)).toInt8.toInt32))), (.int 0)] (.int 0) := Arv.set Ar4 q4 S4 M4 H4 G4 (fits_nar_byte ((c0 >>> ((0 : Int32) &&& 31)).toInt8.toInt32)) W4 0 rfl (Nat.le_of_ble_eq_true rfl)
  have z4 := W4.size
  have K4 := K0.wr W4 (Or.inl (List.mem_of_getElem? (i := 0) rfl))
  have N4 := Fr.snoc X4 N0 (by omega)
  have f6 := P0.wr W4 (by omega)
  obtain ⟨T5, X5, e5, st5⟩ := getS2 X4 hx hZ hown (host := "") (Or.inl (w_101 hw)) Via.refl e4 (P5.ext f6.2) (g := (mkF m 47 #[vA b, vI 1, vI c0] [(.int c0), (.int 1), (.ref b)])) rfl (hb hby d89)
  obtain ⟨cl7, Ar7, q7, S7, M7, H7, G7⟩ := id V4
  have hin7 : ¬ ((1 : Int32) < 0 ∨ cl7.slots.size ≤ ((1 : Int32)).toNatClampNeg) := inb_of S7 ⟨by decide, by decide⟩
  obtain ⟨T7, h7, X7, e7, W7, st7⟩ := stB X5 hx hZ e5 Ar7 (j := (1 : Int32)) hin7 (g := (mkF m 52 #[vA b, vI 1, vI c0] [(.int ((c0 >>> ((8 : Int32) &&& 31)).toInt8.toInt32)), (.int 1), (.ref b)])) rfl rfl (hb hby d92)
  have V7 : Arv Z h7 b k .byte (2 : Int32) [(.int (nar .byte ((c0 >>> ((0 : Int32) &&& 31)).toInt8.toInt32))), (.int (nar .byte ((c0 >>> ((8 : Int32) &&& 31)).toInt8.toInt32)))] (.int 0) := Arv.set Ar7 q7 S7 M7 H7 G7 (fits_nar_byte ((c0 >>> ((8 : Int32) &&& 31)).toInt8.toInt32)) W7 1 rfl (Nat.le_of_ble_eq_true rfl)
  have z7 := W7.size
  have K7 := K4.wr W7 (Or.inl (List.mem_of_getElem? (i := 0) rfl))
  have N7 := Fr.snoc X7 N4 (by omega)
  have f8 := f6.wr W7 (by omega)
  refine ⟨_, _, _, _, none, X7, by decide, by decide, fun _ => rfl, ?_, fun fs hr => castTop (ef_4 m b (0 : Int32) c0) ?_⟩
  · show Q_put1_0 Z c0 b k h0 n0 _ T7.heap _
    rw [(e7 : T7.heap = h7)]
    exact ⟨rfl, N7, K7, V7, f8⟩
  · show Steps _ _ _ (s₁.setTop (mkF m 0 #[vA b, vI 0, vI c0] [])) _
    refine st2 _ ?_
    show Steps _ _ _ (T2.setTop (mkF m 3 #[vA b, vI 0, vI c0] [(.int 1)])) _
    refine XS.ifYes X2.here hx rfl (pc0 := 3) (pc' := 28) rfl (hb hby d73) rfl ((if0 _ _).trans (feq ((by decide) : ¬ ((1 : Int32) = (0 : Int32)))).2) (by decide) (by decide) ?_
    refine XS.iloadN X2.here hx rfl (hb hby d74) rfl ?_
    refine XS.iconst X2.here hx rfl (hb hby d75) ?_
    refine XS.ishl X2.here hx rfl (hb hby d76) rfl ?_
    refine XS.istoreN X2.here hx rfl (hb hby d77) rfl (l' := #[vA b, vI 0, vI c0]) rfl ?_
    refine XS.aloadN X2.here hx rfl (hb hby d78) rfl rfl ?_
    refine XS.iloadN X2.here hx rfl (hb hby d79) rfl ?_
    refine XS.iinc X2.here hx rfl (hb hby d80) rfl (l' := #[vA b, vI 1, vI c0]) rfl ?_
    refine XS.iloadN X2.here hx rfl (hb hby d81) rfl ?_
    refine st3 _ ?_
    show Steps _ _ _ (T3.setTop (mkF m 41 #[vA b, vI 1, vI c0] [(.int 0), (.int c0), (.int 0), (.ref b)])) _
    refine XS.ishr X3.here hx rfl (hb hby d83) rfl ?_
    refine XS.i2b X3.here hx rfl (hb hby d84) rfl ?_
    refine st4 _ ?_
    show Steps _ _ _ (T4.setTop (mkF m 44 #[vA b, vI 1, vI c0] [])) _
    refine XS.aloadN X4.here hx rfl (hb hby d86) rfl rfl ?_
    refine XS.iloadN X4.here hx rfl (hb hby d87) rfl ?_
    refine XS.iloadN X4.here hx rfl (hb hby d88) rfl ?_
    refine st5 _ ?_
    show Steps _ _ _ (T5.setTop (mkF m 50 #[vA b, vI 1, vI c0] [(.int 8), (.int c0), (.int 1), (.ref b)])) _
    refine XS.ishr X5.here hx rfl (hb hby d90) rfl ?_
    refine XS.i2b X5.here hx rfl (hb hby d91) rfl ?_
    refine st7 _ ?_
    show Steps _ _ _ (T7.setTop (mkF m 53 #[vA b, vI 1, vI c0] [])) _
    exact X7.returnOut hx hret (hb hby d93) hr
def Q_put2_0 (Z : State) (c0 : Int32) (b : Addr) (k : ClassId) (h0 : Heap) (n0 : Nat) (v : Option Value) (h : Heap) (L : List Loc) : Prop := (v = none) ∧ (Fr n0 L) ∧ (Keep h0 h [b]) ∧ (Arv Z h b k .byte (4 : Int32) [(.int (oL c0)), (.int (oH c0)), (.int 0), (.int 0)] (.int 0)) ∧ (Old Z n0 h)
theorem rm_put2_0 (l : Launch) (Z : State) (a0 : Array Value) (hw : HW Z a0) (ws : List Jvm.Cond) (c0 : Int32) (b : Addr) (k : ClassId) (h0 : Heap) (n0 : Nat) (Z0 : n0 ≤ h0.size) (P0 : Old Z n0 h0) (P1 : Arv Z h0 b k .byte (4 : Int32) [(.int 0), (.int 0), (.int 0), (.int 0)] (.int 0)) (P2 : n0 ≤ b) (P3 : sta1 Z (.int 1)) (P4 : sta2 Z (.int 0)) (P5 : sta3 Z (.int 8)) :
    MF l Z m_6 jdk_52_method_4_code 3 none ws (oR 0 0 0 0) #[(.ref b), (.int 0), (.int c0)] h0 (Q_put2_0 Z c0 b k h0 n0) := by
  refine own_body (cls := "java/lang/StringUTF16") (plainFor_of_name pn_4) rfl (fun p e s m below meth c s₁ hx hby hml hown hnm hret hZ X0 e0 => ?_)
  have N0 := Fr.nil n0
  have K0 := Keep.refl h0 [b]
  have lt1 := own_l P1.lt
  obtain ⟨T2, X2, e2, st2⟩ := getS2 X0 hx hZ hown (host := "") (Or.inl (w_99 hw)) Via.refl e0 (P3.ext P0.2) (g := (mkF m 0 #[vA b, vI 0, vI c0] [])) rfl (hb hby d72)
  obtain ⟨T3, X3, e3, st3⟩ := getS2 X2 hx hZ hown (host := "") (Or.inl (w_100 hw)) Via.refl e2 (P4.ext P0.2) (g := (mkF m 38 #[vA b, vI 1, vI c0] [(.int c0), (.int 0), (.ref b)])) rfl (hb hby d82)
  obtain ⟨cl4, Ar4, q4, S4, M4, H4, G4⟩ := id P1
  have hin4 : ¬ ((0 : Int32) < 0 ∨ cl4.slots.size ≤ ((0 : Int32)).toNatClampNeg) := inb_of S4 ⟨by decide, by decide⟩
  obtain ⟨T4, h4, X4, e4, W4, st4⟩ := stB X3 hx hZ e3 Ar4 (j := (0 : Int32)) hin4 (g := (mkF m 43 #[vA b, vI 1, vI c0] [(.int ((c0 >>> ((0 : Int32) &&& 31)).toInt8.toInt32)), (.int 0), (.ref b)])) rfl rfl (hb hby d85)
  have V4 : Arv Z h4 b k .byte (4 : Int32) [(.int (nar .byte ((c0 >>> ((0 : Int32) &&& 31)).toInt8.toInt32))), (.int 0), (.int 0), (.int 0)] (.int 0) := Arv.set Ar4 q4 S4 M4 H4 G4 (fits_nar_byte ((c0 >>> ((0 : Int32) &&& 31)).toInt8.toInt32)) W4 0 rfl (Nat.le_of_ble_eq_true rfl)
  have z4 := W4.size
  have K4 := K0.wr W4 (Or.inl (List.mem_of_getElem? (i := 0) rfl))
  have N4 := Fr.snoc X4 N0 (by omega)
  have f6 := P0.wr W4 (by omega)
  obtain ⟨T5, X5, e5, st5⟩ := getS2 X4 hx hZ hown (host := "") (Or.inl (w_101 hw)) Via.refl e4 (P5.ext f6.2) (g := (mkF m 47 #[vA b, vI 1, vI c0] [(.int c0), (.int 1), (.ref b)])) rfl (hb hby d89)
  obtain ⟨cl7, Ar7, q7, S7, M7, H7, G7⟩ := id V4
  have hin7 : ¬ ((1 : Int32) < 0 ∨ cl7.slots.size ≤ ((1 : Int32)).toNatClampNeg) := inb_of S7 ⟨by decide, by decide⟩
  obtain ⟨T7, h7, X7, e7, W7, st7⟩ := stB X5 hx hZ e5 Ar7 (j := (1 : Int32)) hin7 (g := (mkF m 52 #[vA b, vI 1, vI c0] [(.int ((c0 >>> ((8 : Int32) &&& 31)).toInt8.toInt32)), (.int 1), (.ref b)])) rfl rfl (hb hby d92)
  have V7 : Arv Z h7 b k .byte (4 : Int32) [(.int (nar .byte ((c0 >>> ((0 : Int32) &&& 31)).toInt8.toInt32))), (.int (nar .byte ((c0 >>> ((8 : Int32) &&& 31)).toInt8.toInt32))), (.int 0), (.int 0)] (.int 0) := Arv.set Ar7 q7 S7 M7 H7 G7 (fits_nar_byte ((c0 >>> ((8 : Int32) &&& 31)).toInt8.toInt32)) W7 1 rfl (Nat.le_of_ble_eq_true rfl)
  have z7 := W7.size
  have K7 := K4.wr W7 (Or.inl (List.mem_of_getElem? (i := 0) rfl))
  have N7 := Fr.snoc X7 N4 (by omega)
  have f8 := f6.wr W7 (by omega)
  refine ⟨_, _, _, _, none, X7, by decide, by decide, fun _ => rfl, ?_, fun fs hr => castTop (ef_4 m b (0 : Int32) c0) ?_⟩
  · show Q_put2_0 Z c0 b k h0 n0 _ T7.heap _
    rw [(e7 : T7.heap = h7)]
    exact ⟨rfl, N7, K7, V7, f8⟩
  · show Steps _ _ _ (s₁.setTop (mkF m 0 #[vA b, vI 0, vI c0] [])) _
    refine st2 _ ?_
    show Steps _ _ _ (T2.setTop (mkF m 3 #[vA b, vI 0, vI c0] [(.int 1)])) _
    refine XS.ifYes X2.here hx rfl (pc0 := 3) (pc' := 28) rfl (hb hby d73) rfl ((if0 _ _).trans (feq ((by decide) : ¬ ((1 : Int32) = (0 : Int32)))).2) (by decide) (by decide) ?_
    refine XS.iloadN X2.here hx rfl (hb hby d74) rfl ?_
    refine XS.iconst X2.here hx rfl (hb hby d75) ?_
    refine XS.ishl X2.here hx rfl (hb hby d76) rfl ?_
    refine XS.istoreN X2.here hx rfl (hb hby d77) rfl (l' := #[vA b, vI 0, vI c0]) rfl ?_
    refine XS.aloadN X2.here hx rfl (hb hby d78) rfl rfl ?_
    refine XS.iloadN X2.here hx rfl (hb hby d79) rfl ?_
    refine XS.iinc X2.here hx rfl (hb hby d80) rfl (l' := #[vA b, vI 1, vI c0]) rfl ?_
    refine XS.iloadN X2.here hx rfl (hb hby d81) rfl ?_
    refine st3 _ ?_
    show Steps _ _ _ (T3.setTop (mkF m 41 #[vA b, vI 1, vI c0] [(.int 0), (.int c0), (.int 0), (.ref b)])) _
    refine XS.ishr X3.here hx rfl (hb hby d83) rfl ?_
    refine XS.i2b X3.here hx rfl (hb hby d84) rfl ?_
    refine st4 _ ?_
    show Steps _ _ _ (T4.setTop (mkF m 44 #[vA b, vI 1, vI c0] [])) _
    refine XS.aloadN X4.here hx rfl (hb hby d86) rfl rfl ?_
    refine XS.iloadN X4.here hx rfl (hb hby d87) rfl ?_
    refine XS.iloadN X4.here hx rfl (hb hby d88) rfl ?_
    refine st5 _ ?_
    show Steps _ _ _ (T5.setTop (mkF m 50 #[vA b, vI 1, vI c0] [(.int 8), (.int c0), (.int 1), (.ref b)])) _
    refine XS.ishr X5.here hx rfl (hb hby d90) rfl ?_
    refine XS.i2b X5.here hx rfl (hb hby d91) rfl ?_
    refine st7 _ ?_
    show Steps _ _ _ (T7.setTop (mkF m 53 #[vA b, vI 1, vI c0] [])) _
    exact X7.returnOut hx hret (hb hby d93) hr
def Q_put2_1 (Z : State) (c0 : Int32) (c1 : Int32) (b : Addr) (k : ClassId) (h0 : Heap) (n0 : Nat) (v : Option Value) (h : Heap) (L : List Loc) : Prop := (v = none) ∧ (Fr n0 L) ∧ (Keep h0 h [b]) ∧ (Arv Z h b k .byte (4 : Int32) [(.int (oL c0)), (.int (oH c0)), (.int (oL c1)), (.int (oH c1))] (.int 0)) ∧ (Old Z n0 h)
theorem rm_put2_1 (l : Launch) (Z : State) (a0 : Array Value) (hw : HW Z a0) (ws : List Jvm.Cond) (c0 : Int32) (c1 : Int32) (b : Addr) (k : ClassId) (h0 : Heap) (n0 : Nat) (Z0 : n0 ≤ h0.size) (P0 : Old Z n0 h0) (P1 : Arv Z h0 b k .byte (4 : Int32) [(.int (oL c0)), (.int (oH c0)), (.int 0), (.int 0)] (.int 0)) (P2 : n0 ≤ b) (P3 : sta1 Z (.int 1)) (P4 : sta2 Z (.int 0)) (P5 : sta3 Z (.int 8)) :
    MF l Z m_6 jdk_52_method_4_code 3 none ws (oR 0 0 0 0) #[(.ref b), (.int 1), (.int c1)] h0 (Q_put2_1 Z c0 c1 b k h0 n0) := by
  refine own_body (cls := "java/lang/StringUTF16") (plainFor_of_name pn_4) rfl (fun p e s m below meth c s₁ hx hby hml hown hnm hret hZ X0 e0 => ?_)
  have N0 := Fr.nil n0
  have K0 := Keep.refl h0 [b]
  have lt1 := own_l P1.lt
  obtain ⟨T2, X2, e2, st2⟩ := getS2 X0 hx hZ hown (host := "") (Or.inl (w_99 hw)) Via.refl e0 (P3.ext P0.2) (g := (mkF m 0 #[vA b, vI 1, vI c1] [])) rfl (hb hby d72)
  obtain ⟨T3, X3, e3, st3⟩ := getS2 X2 hx hZ hown (host := "") (Or.inl (w_100 hw)) Via.refl e2 (P4.ext P0.2) (g := (mkF m 38 #[vA b, vI 3, vI c1] [(.int c1), (.int 2), (.ref b)])) rfl (hb hby d82)
  obtain ⟨cl4, Ar4, q4, S4, M4, H4, G4⟩ := id P1
  have hin4 : ¬ ((2 : Int32) < 0 ∨ cl4.slots.size ≤ ((2 : Int32)).toNatClampNeg) := inb_of S4 ⟨by decide, by decide⟩
  obtain ⟨T4, h4, X4, e4, W4, st4⟩ := stB X3 hx hZ e3 Ar4 (j := (2 : Int32)) hin4 (g := (mkF m 43 #[vA b, vI 3, vI c1] [(.int ((c1 >>> ((0 : Int32) &&& 31)).toInt8.toInt32)), (.int 2), (.ref b)])) rfl rfl (hb hby d85)
  have V4 : Arv Z h4 b k .byte (4 : Int32) [(.int (oL c0)), (.int (oH c0)), (.int (nar .byte ((c1 >>> ((0 : Int32) &&& 31)).toInt8.toInt32))), (.int 0)] (.int 0) := Arv.set Ar4 q4 S4 M4 H4 G4 (fits_nar_byte ((c1 >>> ((0 : Int32) &&& 31)).toInt8.toInt32)) W4 2 rfl (Nat.le_of_ble_eq_true rfl)
  have z4 := W4.size
  have K4 := K0.wr W4 (Or.inl (List.mem_of_getElem? (i := 0) rfl))
  have N4 := Fr.snoc X4 N0 (by omega)
  have f6 := P0.wr W4 (by omega)
  obtain ⟨T5, X5, e5, st5⟩ := getS2 X4 hx hZ hown (host := "") (Or.inl (w_101 hw)) Via.refl e4 (P5.ext f6.2) (g := (mkF m 47 #[vA b, vI 3, vI c1] [(.int c1), (.int 3), (.ref b)])) rfl (hb hby d89)
  obtain ⟨cl7, Ar7, q7, S7, M7, H7, G7⟩ := id V4
  have hin7 : ¬ ((3 : Int32) < 0 ∨ cl7.slots.size ≤ ((3 : Int32)).toNatClampNeg) := inb_of S7 ⟨by decide, by decide⟩
  obtain ⟨T7, h7, X7, e7, W7, st7⟩ := stB X5 hx hZ e5 Ar7 (j := (3 : Int32)) hin7 (g := (mkF m 52 #[vA b, vI 3, vI c1] [(.int ((c1 >>> ((8 : Int32) &&& 31)).toInt8.toInt32)), (.int 3), (.ref b)])) rfl rfl (hb hby d92)
  have V7 : Arv Z h7 b k .byte (4 : Int32) [(.int (oL c0)), (.int (oH c0)), (.int (nar .byte ((c1 >>> ((0 : Int32) &&& 31)).toInt8.toInt32))), (.int (nar .byte ((c1 >>> ((8 : Int32) &&& 31)).toInt8.toInt32)))] (.int 0) := Arv.set Ar7 q7 S7 M7 H7 G7 (fits_nar_byte ((c1 >>> ((8 : Int32) &&& 31)).toInt8.toInt32)) W7 3 rfl (Nat.le_of_ble_eq_true rfl)
  have z7 := W7.size
  have K7 := K4.wr W7 (Or.inl (List.mem_of_getElem? (i := 0) rfl))
  have N7 := Fr.snoc X7 N4 (by omega)
  have f8 := f6.wr W7 (by omega)
  refine ⟨_, _, _, _, none, X7, by decide, by decide, fun _ => rfl, ?_, fun fs hr => castTop (ef_4 m b (1 : Int32) c1) ?_⟩
  · show Q_put2_1 Z c0 c1 b k h0 n0 _ T7.heap _
    rw [(e7 : T7.heap = h7)]
    exact ⟨rfl, N7, K7, V7, f8⟩
  · show Steps _ _ _ (s₁.setTop (mkF m 0 #[vA b, vI 1, vI c1] [])) _
    refine st2 _ ?_
    show Steps _ _ _ (T2.setTop (mkF m 3 #[vA b, vI 1, vI c1] [(.int 1)])) _
    refine XS.ifYes X2.here hx rfl (pc0 := 3) (pc' := 28) rfl (hb hby d73) rfl ((if0 _ _).trans (feq ((by decide) : ¬ ((1 : Int32) = (0 : Int32)))).2) (by decide) (by decide) ?_
    refine XS.iloadN X2.here hx rfl (hb hby d74) rfl ?_
    refine XS.iconst X2.here hx rfl (hb hby d75) ?_
    refine XS.ishl X2.here hx rfl (hb hby d76) rfl ?_
    refine XS.istoreN X2.here hx rfl (hb hby d77) rfl (l' := #[vA b, vI 2, vI c1]) rfl ?_
    refine XS.aloadN X2.here hx rfl (hb hby d78) rfl rfl ?_
    refine XS.iloadN X2.here hx rfl (hb hby d79) rfl ?_
    refine XS.iinc X2.here hx rfl (hb hby d80) rfl (l' := #[vA b, vI 3, vI c1]) rfl ?_
    refine XS.iloadN X2.here hx rfl (hb hby d81) rfl ?_
    refine st3 _ ?_
    show Steps _ _ _ (T3.setTop (mkF m 41 #[vA b, vI 3, vI c1] [(.int 0), (.int c1), (.int 2), (.ref b)])) _
    refine XS.ishr X3.here hx rfl (hb hby d83) rfl ?_
    refine XS.i2b X3.here hx rfl (hb hby d84) rfl ?_
    refine st4 _ ?_
    show Steps _ _ _ (T4.setTop (mkF m 44 #[vA b, vI 3, vI c1] [])) _
    refine XS.aloadN X4.here hx rfl (hb hby d86) rfl rfl ?_
    refine XS.iloadN X4.here hx rfl (hb hby d87) rfl ?_
    refine XS.iloadN X4.here hx rfl (hb hby d88) rfl ?_
    refine st5 _ ?_
    show Steps _ _ _ (T5.setTop (mkF m 50 #[vA b, vI 3, vI c1] [(.int 8), (.int c1), (.int 3), (.ref b)])) _
    refine XS.ishr X5.here hx rfl (hb hby d90) rfl ?_
    refine XS.i2b X5.here hx rfl (hb hby d91) rfl ?_
    refine st7 _ ?_
    show Steps _ _ _ (T7.setTop (mkF m 53 #[vA b, vI 3, vI c1] [])) _
    exact X7.returnOut hx hret (hb hby d93) hr
def Q_put3_0 (Z : State) (c0 : Int32) (b : Addr) (k : ClassId) (h0 : Heap) (n0 : Nat) (v : Option Value) (h : Heap) (L : List Loc) : Prop := (v = none) ∧ (Fr n0 L) ∧ (Keep h0 h [b]) ∧ (Arv Z h b k .byte (6 : Int32) [(.int (oL c0)), (.int (oH c0)), (.int 0), (.int 0), (.int 0), (.int 0)] (.int 0)) ∧ (Old Z n0 h)
theorem rm_put3_0 (l : Launch) (Z : State) (a0 : Array Value) (hw : HW Z a0) (ws : List Jvm.Cond) (c0 : Int32) (b : Addr) (k : ClassId) (h0 : Heap) (n0 : Nat) (Z0 : n0 ≤ h0.size) (P0 : Old Z n0 h0) (P1 : Arv Z h0 b k .byte (6 : Int32) [(.int 0), (.int 0), (.int 0), (.int 0), (.int 0), (.int 0)] (.int 0)) (P2 : n0 ≤ b) (P3 : sta1 Z (.int 1)) (P4 : sta2 Z (.int 0)) (P5 : sta3 Z (.int 8)) :
    MF l Z m_6 jdk_52_method_4_code 3 none ws (oR 0 0 0 0) #[(.ref b), (.int 0), (.int c0)] h0 (Q_put3_0 Z c0 b k h0 n0) := by
  refine own_body (cls := "java/lang/StringUTF16") (plainFor_of_name pn_4) rfl (fun p e s m below meth c s₁ hx hby hml hown hnm hret hZ X0 e0 => ?_)
  have N0 := Fr.nil n0
  have K0 := Keep.refl h0 [b]
  have lt1 := own_l P1.lt
  obtain ⟨T2, X2, e2, st2⟩ := getS2 X0 hx hZ hown (host := "") (Or.inl (w_99 hw)) Via.refl e0 (P3.ext P0.2) (g := (mkF m 0 #[vA b, vI 0, vI c0] [])) rfl (hb hby d72)
  obtain ⟨T3, X3, e3, st3⟩ := getS2 X2 hx hZ hown (host := "") (Or.inl (w_100 hw)) Via.refl e2 (P4.ext P0.2) (g := (mkF m 38 #[vA b, vI 1, vI c0] [(.int c0), (.int 0), (.ref b)])) rfl (hb hby d82)
  obtain ⟨cl4, Ar4, q4, S4, M4, H4, G4⟩ := id P1
  have hin4 : ¬ ((0 : Int32) < 0 ∨ cl4.slots.size ≤ ((0 : Int32)).toNatClampNeg) := inb_of S4 ⟨by decide, by decide⟩
  obtain ⟨T4, h4, X4, e4, W4, st4⟩ := stB X3 hx hZ e3 Ar4 (j := (0 : Int32)) hin4 (g := (mkF m 43 #[vA b, vI 1, vI c0] [(.int ((c0 >>> ((0 : Int32) &&& 31)).toInt8.toInt32)), (.int 0), (.ref b)])) rfl rfl (hb hby d85)
  have V4 : Arv Z h4 b k .byte (6 : Int32) [(.int (nar .byte ((c0 >>> ((0 : Int32) &&& 31)).toInt8.toInt32))), (.int 0), (.int 0), (.int 0), (.int 0), (.int 0)] (.int 0) := Arv.set Ar4 q4 S4 M4 H4 G4 (fits_nar_byte ((c0 >>> ((0 : Int32) &&& 31)).toInt8.toInt32)) W4 0 rfl (Nat.le_of_ble_eq_true rfl)
  have z4 := W4.size
  have K4 := K0.wr W4 (Or.inl (List.mem_of_getElem? (i := 0) rfl))
  have N4 := Fr.snoc X4 N0 (by omega)
  have f6 := P0.wr W4 (by omega)
  obtain ⟨T5, X5, e5, st5⟩ := getS2 X4 hx hZ hown (host := "") (Or.inl (w_101 hw)) Via.refl e4 (P5.ext f6.2) (g := (mkF m 47 #[vA b, vI 1, vI c0] [(.int c0), (.int 1), (.ref b)])) rfl (hb hby d89)
  obtain ⟨cl7, Ar7, q7, S7, M7, H7, G7⟩ := id V4
  have hin7 : ¬ ((1 : Int32) < 0 ∨ cl7.slots.size ≤ ((1 : Int32)).toNatClampNeg) := inb_of S7 ⟨by decide, by decide⟩
  obtain ⟨T7, h7, X7, e7, W7, st7⟩ := stB X5 hx hZ e5 Ar7 (j := (1 : Int32)) hin7 (g := (mkF m 52 #[vA b, vI 1, vI c0] [(.int ((c0 >>> ((8 : Int32) &&& 31)).toInt8.toInt32)), (.int 1), (.ref b)])) rfl rfl (hb hby d92)
  have V7 : Arv Z h7 b k .byte (6 : Int32) [(.int (nar .byte ((c0 >>> ((0 : Int32) &&& 31)).toInt8.toInt32))), (.int (nar .byte ((c0 >>> ((8 : Int32) &&& 31)).toInt8.toInt32))), (.int 0), (.int 0), (.int 0), (.int 0)] (.int 0) := Arv.set Ar7 q7 S7 M7 H7 G7 (fits_nar_byte ((c0 >>> ((8 : Int32) &&& 31)).toInt8.toInt32)) W7 1 rfl (Nat.le_of_ble_eq_true rfl)
  have z7 := W7.size
  have K7 := K4.wr W7 (Or.inl (List.mem_of_getElem? (i := 0) rfl))
  have N7 := Fr.snoc X7 N4 (by omega)
  have f8 := f6.wr W7 (by omega)
  refine ⟨_, _, _, _, none, X7, by decide, by decide, fun _ => rfl, ?_, fun fs hr => castTop (ef_4 m b (0 : Int32) c0) ?_⟩
  · show Q_put3_0 Z c0 b k h0 n0 _ T7.heap _
    rw [(e7 : T7.heap = h7)]
    exact ⟨rfl, N7, K7, V7, f8⟩
  · show Steps _ _ _ (s₁.setTop (mkF m 0 #[vA b, vI 0, vI c0] [])) _
    refine st2 _ ?_
    show Steps _ _ _ (T2.setTop (mkF m 3 #[vA b, vI 0, vI c0] [(.int 1)])) _
    refine XS.ifYes X2.here hx rfl (pc0 := 3) (pc' := 28) rfl (hb hby d73) rfl ((if0 _ _).trans (feq ((by decide) : ¬ ((1 : Int32) = (0 : Int32)))).2) (by decide) (by decide) ?_
    refine XS.iloadN X2.here hx rfl (hb hby d74) rfl ?_
    refine XS.iconst X2.here hx rfl (hb hby d75) ?_
    refine XS.ishl X2.here hx rfl (hb hby d76) rfl ?_
    refine XS.istoreN X2.here hx rfl (hb hby d77) rfl (l' := #[vA b, vI 0, vI c0]) rfl ?_
    refine XS.aloadN X2.here hx rfl (hb hby d78) rfl rfl ?_
    refine XS.iloadN X2.here hx rfl (hb hby d79) rfl ?_
    refine XS.iinc X2.here hx rfl (hb hby d80) rfl (l' := #[vA b, vI 1, vI c0]) rfl ?_
    refine XS.iloadN X2.here hx rfl (hb hby d81) rfl ?_
    refine st3 _ ?_
    show Steps _ _ _ (T3.setTop (mkF m 41 #[vA b, vI 1, vI c0] [(.int 0), (.int c0), (.int 0), (.ref b)])) _
    refine XS.ishr X3.here hx rfl (hb hby d83) rfl ?_
    refine XS.i2b X3.here hx rfl (hb hby d84) rfl ?_
    refine st4 _ ?_
    show Steps _ _ _ (T4.setTop (mkF m 44 #[vA b, vI 1, vI c0] [])) _
    refine XS.aloadN X4.here hx rfl (hb hby d86) rfl rfl ?_
    refine XS.iloadN X4.here hx rfl (hb hby d87) rfl ?_
    refine XS.iloadN X4.here hx rfl (hb hby d88) rfl ?_
    refine st5 _ ?_
    show Steps _ _ _ (T5.setTop (mkF m 50 #[vA b, vI 1, vI c0] [(.int 8), (.int c0), (.int 1), (.ref b)])) _
    refine XS.ishr X5.here hx rfl (hb hby d90) rfl ?_
    refine XS.i2b X5.here hx rfl (hb hby d91) rfl ?_
    refine st7 _ ?_
    show Steps _ _ _ (T7.setTop (mkF m 53 #[vA b, vI 1, vI c0] [])) _
    exact X7.returnOut hx hret (hb hby d93) hr
def Q_put3_1 (Z : State) (c0 : Int32) (c1 : Int32) (b : Addr) (k : ClassId) (h0 : Heap) (n0 : Nat) (v : Option Value) (h : Heap) (L : List Loc) : Prop := (v = none) ∧ (Fr n0 L) ∧ (Keep h0 h [b]) ∧ (Arv Z h b k .byte (6 : Int32) [(.int (oL c0)), (.int (oH c0)), (.int (oL c1)), (.int (oH c1)), (.int 0), (.int 0)] (.int 0)) ∧ (Old Z n0 h)
theorem rm_put3_1 (l : Launch) (Z : State) (a0 : Array Value) (hw : HW Z a0) (ws : List Jvm.Cond) (c0 : Int32) (c1 : Int32) (b : Addr) (k : ClassId) (h0 : Heap) (n0 : Nat) (Z0 : n0 ≤ h0.size) (P0 : Old Z n0 h0) (P1 : Arv Z h0 b k .byte (6 : Int32) [(.int (oL c0)), (.int (oH c0)), (.int 0), (.int 0), (.int 0), (.int 0)] (.int 0)) (P2 : n0 ≤ b) (P3 : sta1 Z (.int 1)) (P4 : sta2 Z (.int 0)) (P5 : sta3 Z (.int 8)) :
    MF l Z m_6 jdk_52_method_4_code 3 none ws (oR 0 0 0 0) #[(.ref b), (.int 1), (.int c1)] h0 (Q_put3_1 Z c0 c1 b k h0 n0) := by
  refine own_body (cls := "java/lang/StringUTF16") (plainFor_of_name pn_4) rfl (fun p e s m below meth c s₁ hx hby hml hown hnm hret hZ X0 e0 => ?_)
  have N0 := Fr.nil n0
  have K0 := Keep.refl h0 [b]
  have lt1 := own_l P1.lt
  obtain ⟨T2, X2, e2, st2⟩ := getS2 X0 hx hZ hown (host := "") (Or.inl (w_99 hw)) Via.refl e0 (P3.ext P0.2) (g := (mkF m 0 #[vA b, vI 1, vI c1] [])) rfl (hb hby d72)
  obtain ⟨T3, X3, e3, st3⟩ := getS2 X2 hx hZ hown (host := "") (Or.inl (w_100 hw)) Via.refl e2 (P4.ext P0.2) (g := (mkF m 38 #[vA b, vI 3, vI c1] [(.int c1), (.int 2), (.ref b)])) rfl (hb hby d82)
  obtain ⟨cl4, Ar4, q4, S4, M4, H4, G4⟩ := id P1
  have hin4 : ¬ ((2 : Int32) < 0 ∨ cl4.slots.size ≤ ((2 : Int32)).toNatClampNeg) := inb_of S4 ⟨by decide, by decide⟩
  obtain ⟨T4, h4, X4, e4, W4, st4⟩ := stB X3 hx hZ e3 Ar4 (j := (2 : Int32)) hin4 (g := (mkF m 43 #[vA b, vI 3, vI c1] [(.int ((c1 >>> ((0 : Int32) &&& 31)).toInt8.toInt32)), (.int 2), (.ref b)])) rfl rfl (hb hby d85)
  have V4 : Arv Z h4 b k .byte (6 : Int32) [(.int (oL c0)), (.int (oH c0)), (.int (nar .byte ((c1 >>> ((0 : Int32) &&& 31)).toInt8.toInt32))), (.int 0), (.int 0), (.int 0)] (.int 0) := Arv.set Ar4 q4 S4 M4 H4 G4 (fits_nar_byte ((c1 >>> ((0 : Int32) &&& 31)).toInt8.toInt32)) W4 2 rfl (Nat.le_of_ble_eq_true rfl)
  have z4 := W4.size
  have K4 := K0.wr W4 (Or.inl (List.mem_of_getElem? (i := 0) rfl))
  have N4 := Fr.snoc X4 N0 (by omega)
  have f6 := P0.wr W4 (by omega)
  obtain ⟨T5, X5, e5, st5⟩ := getS2 X4 hx hZ hown (host := "") (Or.inl (w_101 hw)) Via.refl e4 (P5.ext f6.2) (g := (mkF m 47 #[vA b, vI 3, vI c1] [(.int c1), (.int 3), (.ref b)])) rfl (hb hby d89)
  obtain ⟨cl7, Ar7, q7, S7, M7, H7, G7⟩ := id V4
  have hin7 : ¬ ((3 : Int32) < 0 ∨ cl7.slots.size ≤ ((3 : Int32)).toNatClampNeg) := inb_of S7 ⟨by decide, by decide⟩
  obtain ⟨T7, h7, X7, e7, W7, st7⟩ := stB X5 hx hZ e5 Ar7 (j := (3 : Int32)) hin7 (g := (mkF m 52 #[vA b, vI 3, vI c1] [(.int ((c1 >>> ((8 : Int32) &&& 31)).toInt8.toInt32)), (.int 3), (.ref b)])) rfl rfl (hb hby d92)
  have V7 : Arv Z h7 b k .byte (6 : Int32) [(.int (oL c0)), (.int (oH c0)), (.int (nar .byte ((c1 >>> ((0 : Int32) &&& 31)).toInt8.toInt32))), (.int (nar .byte ((c1 >>> ((8 : Int32) &&& 31)).toInt8.toInt32))), (.int 0), (.int 0)] (.int 0) := Arv.set Ar7 q7 S7 M7 H7 G7 (fits_nar_byte ((c1 >>> ((8 : Int32) &&& 31)).toInt8.toInt32)) W7 3 rfl (Nat.le_of_ble_eq_true rfl)
  have z7 := W7.size
  have K7 := K4.wr W7 (Or.inl (List.mem_of_getElem? (i := 0) rfl))
  have N7 := Fr.snoc X7 N4 (by omega)
  have f8 := f6.wr W7 (by omega)
  refine ⟨_, _, _, _, none, X7, by decide, by decide, fun _ => rfl, ?_, fun fs hr => castTop (ef_4 m b (1 : Int32) c1) ?_⟩
  · show Q_put3_1 Z c0 c1 b k h0 n0 _ T7.heap _
    rw [(e7 : T7.heap = h7)]
    exact ⟨rfl, N7, K7, V7, f8⟩
  · show Steps _ _ _ (s₁.setTop (mkF m 0 #[vA b, vI 1, vI c1] [])) _
    refine st2 _ ?_
    show Steps _ _ _ (T2.setTop (mkF m 3 #[vA b, vI 1, vI c1] [(.int 1)])) _
    refine XS.ifYes X2.here hx rfl (pc0 := 3) (pc' := 28) rfl (hb hby d73) rfl ((if0 _ _).trans (feq ((by decide) : ¬ ((1 : Int32) = (0 : Int32)))).2) (by decide) (by decide) ?_
    refine XS.iloadN X2.here hx rfl (hb hby d74) rfl ?_
    refine XS.iconst X2.here hx rfl (hb hby d75) ?_
    refine XS.ishl X2.here hx rfl (hb hby d76) rfl ?_
    refine XS.istoreN X2.here hx rfl (hb hby d77) rfl (l' := #[vA b, vI 2, vI c1]) rfl ?_
    refine XS.aloadN X2.here hx rfl (hb hby d78) rfl rfl ?_
    refine XS.iloadN X2.here hx rfl (hb hby d79) rfl ?_
    refine XS.iinc X2.here hx rfl (hb hby d80) rfl (l' := #[vA b, vI 3, vI c1]) rfl ?_
    refine XS.iloadN X2.here hx rfl (hb hby d81) rfl ?_
    refine st3 _ ?_
    show Steps _ _ _ (T3.setTop (mkF m 41 #[vA b, vI 3, vI c1] [(.int 0), (.int c1), (.int 2), (.ref b)])) _
    refine XS.ishr X3.here hx rfl (hb hby d83) rfl ?_
    refine XS.i2b X3.here hx rfl (hb hby d84) rfl ?_
    refine st4 _ ?_
    show Steps _ _ _ (T4.setTop (mkF m 44 #[vA b, vI 3, vI c1] [])) _
    refine XS.aloadN X4.here hx rfl (hb hby d86) rfl rfl ?_
    refine XS.iloadN X4.here hx rfl (hb hby d87) rfl ?_
    refine XS.iloadN X4.here hx rfl (hb hby d88) rfl ?_
    refine st5 _ ?_
    show Steps _ _ _ (T5.setTop (mkF m 50 #[vA b, vI 3, vI c1] [(.int 8), (.int c1), (.int 3), (.ref b)])) _
    refine XS.ishr X5.here hx rfl (hb hby d90) rfl ?_
    refine XS.i2b X5.here hx rfl (hb hby d91) rfl ?_
    refine st7 _ ?_
    show Steps _ _ _ (T7.setTop (mkF m 53 #[vA b, vI 3, vI c1] [])) _
    exact X7.returnOut hx hret (hb hby d93) hr
def Q_put3_2 (Z : State) (c0 : Int32) (c1 : Int32) (c2 : Int32) (b : Addr) (k : ClassId) (h0 : Heap) (n0 : Nat) (v : Option Value) (h : Heap) (L : List Loc) : Prop := (v = none) ∧ (Fr n0 L) ∧ (Keep h0 h [b]) ∧ (Arv Z h b k .byte (6 : Int32) [(.int (oL c0)), (.int (oH c0)), (.int (oL c1)), (.int (oH c1)), (.int (oL c2)), (.int (oH c2))] (.int 0)) ∧ (Old Z n0 h)
theorem rm_put3_2 (l : Launch) (Z : State) (a0 : Array Value) (hw : HW Z a0) (ws : List Jvm.Cond) (c0 : Int32) (c1 : Int32) (c2 : Int32) (b : Addr) (k : ClassId) (h0 : Heap) (n0 : Nat) (Z0 : n0 ≤ h0.size) (P0 : Old Z n0 h0) (P1 : Arv Z h0 b k .byte (6 : Int32) [(.int (oL c0)), (.int (oH c0)), (.int (oL c1)), (.int (oH c1)), (.int 0), (.int 0)] (.int 0)) (P2 : n0 ≤ b) (P3 : sta1 Z (.int 1)) (P4 : sta2 Z (.int 0)) (P5 : sta3 Z (.int 8)) :
    MF l Z m_6 jdk_52_method_4_code 3 none ws (oR 0 0 0 0) #[(.ref b), (.int 2), (.int c2)] h0 (Q_put3_2 Z c0 c1 c2 b k h0 n0) := by
  refine own_body (cls := "java/lang/StringUTF16") (plainFor_of_name pn_4) rfl (fun p e s m below meth c s₁ hx hby hml hown hnm hret hZ X0 e0 => ?_)
  have N0 := Fr.nil n0
  have K0 := Keep.refl h0 [b]
  have lt1 := own_l P1.lt
  obtain ⟨T2, X2, e2, st2⟩ := getS2 X0 hx hZ hown (host := "") (Or.inl (w_99 hw)) Via.refl e0 (P3.ext P0.2) (g := (mkF m 0 #[vA b, vI 2, vI c2] [])) rfl (hb hby d72)
  obtain ⟨T3, X3, e3, st3⟩ := getS2 X2 hx hZ hown (host := "") (Or.inl (w_100 hw)) Via.refl e2 (P4.ext P0.2) (g := (mkF m 38 #[vA b, vI 5, vI c2] [(.int c2), (.int 4), (.ref b)])) rfl (hb hby d82)
  obtain ⟨cl4, Ar4, q4, S4, M4, H4, G4⟩ := id P1
  have hin4 : ¬ ((4 : Int32) < 0 ∨ cl4.slots.size ≤ ((4 : Int32)).toNatClampNeg) := inb_of S4 ⟨by decide, by decide⟩
  obtain ⟨T4, h4, X4, e4, W4, st4⟩ := stB X3 hx hZ e3 Ar4 (j := (4 : Int32)) hin4 (g := (mkF m 43 #[vA b, vI 5, vI c2] [(.int ((c2 >>> ((0 : Int32) &&& 31)).toInt8.toInt32)), (.int 4), (.ref b)])) rfl rfl (hb hby d85)
  have V4 : Arv Z h4 b k .byte (6 : Int32) [(.int (oL c0)), (.int (oH c0)), (.int (oL c1)), (.int (oH c1)), (.int (nar .byte ((c2 >>> ((0 : Int32) &&& 31)).toInt8.toInt32))), (.int 0)] (.int 0) := Arv.set Ar4 q4 S4 M4 H4 G4 (fits_nar_byte ((c2 >>> ((0 : Int32) &&& 31)).toInt8.toInt32)) W4 4 rfl (Nat.le_of_ble_eq_true rfl)
  have z4 := W4.size
  have K4 := K0.wr W4 (Or.inl (List.mem_of_getElem? (i := 0) rfl))
  have N4 := Fr.snoc X4 N0 (by omega)
  have f6 := P0.wr W4 (by omega)
  obtain ⟨T5, X5, e5, st5⟩ := getS2 X4 hx hZ hown (host := "") (Or.inl (w_101 hw)) Via.refl e4 (P5.ext f6.2) (g := (mkF m 47 #[vA b, vI 5, vI c2] [(.int c2), (.int 5), (.ref b)])) rfl (hb hby d89)
  obtain ⟨cl7, Ar7, q7, S7, M7, H7, G7⟩ := id V4
  have hin7 : ¬ ((5 : Int32) < 0 ∨ cl7.slots.size ≤ ((5 : Int32)).toNatClampNeg) := inb_of S7 ⟨by decide, by decide⟩
  obtain ⟨T7, h7, X7, e7, W7, st7⟩ := stB X5 hx hZ e5 Ar7 (j := (5 : Int32)) hin7 (g := (mkF m 52 #[vA b, vI 5, vI c2] [(.int ((c2 >>> ((8 : Int32) &&& 31)).toInt8.toInt32)), (.int 5), (.ref b)])) rfl rfl (hb hby d92)
  have V7 : Arv Z h7 b k .byte (6 : Int32) [(.int (oL c0)), (.int (oH c0)), (.int (oL c1)), (.int (oH c1)), (.int (nar .byte ((c2 >>> ((0 : Int32) &&& 31)).toInt8.toInt32))), (.int (nar .byte ((c2 >>> ((8 : Int32) &&& 31)).toInt8.toInt32)))] (.int 0) := Arv.set Ar7 q7 S7 M7 H7 G7 (fits_nar_byte ((c2 >>> ((8 : Int32) &&& 31)).toInt8.toInt32)) W7 5 rfl (Nat.le_of_ble_eq_true rfl)
  have z7 := W7.size
  have K7 := K4.wr W7 (Or.inl (List.mem_of_getElem? (i := 0) rfl))
  have N7 := Fr.snoc X7 N4 (by omega)
  have f8 := f6.wr W7 (by omega)
  refine ⟨_, _, _, _, none, X7, by decide, by decide, fun _ => rfl, ?_, fun fs hr => castTop (ef_4 m b (2 : Int32) c2) ?_⟩
  · show Q_put3_2 Z c0 c1 c2 b k h0 n0 _ T7.heap _
    rw [(e7 : T7.heap = h7)]
    exact ⟨rfl, N7, K7, V7, f8⟩
  · show Steps _ _ _ (s₁.setTop (mkF m 0 #[vA b, vI 2, vI c2] [])) _
    refine st2 _ ?_
    show Steps _ _ _ (T2.setTop (mkF m 3 #[vA b, vI 2, vI c2] [(.int 1)])) _
    refine XS.ifYes X2.here hx rfl (pc0 := 3) (pc' := 28) rfl (hb hby d73) rfl ((if0 _ _).trans (feq ((by decide) : ¬ ((1 : Int32) = (0 : Int32)))).2) (by decide) (by decide) ?_
    refine XS.iloadN X2.here hx rfl (hb hby d74) rfl ?_
    refine XS.iconst X2.here hx rfl (hb hby d75) ?_
    refine XS.ishl X2.here hx rfl (hb hby d76) rfl ?_
    refine XS.istoreN X2.here hx rfl (hb hby d77) rfl (l' := #[vA b, vI 4, vI c2]) rfl ?_
    refine XS.aloadN X2.here hx rfl (hb hby d78) rfl rfl ?_
    refine XS.iloadN X2.here hx rfl (hb hby d79) rfl ?_
    refine XS.iinc X2.here hx rfl (hb hby d80) rfl (l' := #[vA b, vI 5, vI c2]) rfl ?_
    refine XS.iloadN X2.here hx rfl (hb hby d81) rfl ?_
    refine st3 _ ?_
    show Steps _ _ _ (T3.setTop (mkF m 41 #[vA b, vI 5, vI c2] [(.int 0), (.int c2), (.int 4), (.ref b)])) _
    refine XS.ishr X3.here hx rfl (hb hby d83) rfl ?_
    refine XS.i2b X3.here hx rfl (hb hby d84) rfl ?_
    refine st4 _ ?_
    show Steps _ _ _ (T4.setTop (mkF m 44 #[vA b, vI 5, vI c2] [])) _
    refine XS.aloadN X4.here hx rfl (hb hby d86) rfl rfl ?_
    refine XS.iloadN X4.here hx rfl (hb hby d87) rfl ?_
    refine XS.iloadN X4.here hx rfl (hb hby d88) rfl ?_
    refine st5 _ ?_
    show Steps _ _ _ (T5.setTop (mkF m 50 #[vA b, vI 5, vI c2] [(.int 8), (.int c2), (.int 5), (.ref b)])) _
    refine XS.ishr X5.here hx rfl (hb hby d90) rfl ?_
    refine XS.i2b X5.here hx rfl (hb hby d91) rfl ?_
    refine st7 _ ?_
    show Steps _ _ _ (T7.setTop (mkF m 53 #[vA b, vI 5, vI c2] [])) _
    exact X7.returnOut hx hret (hb hby d93) hr
theorem d94 : decode jdk_52_method_3_code 0 = .ok (.iload_n 0, 1) := by decide +kernel
theorem d95 : decode jdk_52_method_3_code 1 = .ok (.ifCond .ge 11, 3) := by decide +kernel
theorem d96 : decode jdk_52_method_3_code 12 = .ok (.iload_n 0, 1) := by decide +kernel
theorem w_95 {Z : State} {a0 : Array Value} (hw : HW Z a0) : (Jvm.Cond.constant "java/lang/StringUTF16" (20 : Nat) (1073741823 : Int32)).before a0 Z = true := hw _ (List.mem_of_getElem? (i := 95) rfl)
theorem d97 : decode jdk_52_method_3_code 13 = .ok (.ldc 20, 2) := by decide +kernel
theorem d98 : decode jdk_52_method_3_code 15 = .ok (.if_icmp .lt 40, 3) := by decide +kernel
theorem d99 : decode jdk_52_method_3_code 55 = .ok (.iload_n 0, 1) := by decide +kernel
theorem d100 : decode jdk_52_method_3_code 56 = .ok (.iconst 1, 1) := by decide +kernel
theorem d101 : decode jdk_52_method_3_code 57 = .ok (.ishl, 1) := by decide +kernel
theorem d102 : decode jdk_52_method_3_code 58 = .ok (.ireturn, 1) := by decide +kernel
abbrev m_7 : MethodName := (⟨"java/lang/StringUTF16", "newBytesLength", "(I)I"⟩ : MethodName)
def Q_nbl1 (Z : State) (h0 : Heap) (n0 : Nat) (v : Option Value) (h : Heap) (L : List Loc) : Prop := (v = some (.int 2)) ∧ (Fr n0 L) ∧ (h = h0)
theorem rm_nbl1 (l : Launch) (Z : State) (a0 : Array Value) (hw : HW Z a0) (ws : List Jvm.Cond) (h0 : Heap) (n0 : Nat) (Z0 : n0 ≤ h0.size) :
    MF l Z m_7 jdk_52_method_3_code 1 (some .int) ws (oR 0 0 0 0) #[(.int 1)] h0 (Q_nbl1 Z  h0 n0) := by
  refine own_body (cls := "java/lang/StringUTF16") (plainFor_of_name pn_4) rfl (fun p e s m below meth c s₁ hx hby hml hown hnm hret hZ X0 e0 => ?_)
  have N0 := Fr.nil n0
  refine ⟨_, _, _, _, some (.int 2), X0, by decide, by decide, nofun, ?_, fun fs hr => castTop (ef_1 m (1 : Int32)) ?_⟩
  · show Q_nbl1 Z  h0 n0 _ s₁.heap _
    rw [(e0 : s₁.heap = h0)]
    exact ⟨rfl, N0, rfl⟩
  · show Steps _ _ _ (s₁.setTop (mkF m 0 #[vI 1] [])) _
    refine XS.iloadN X0.here hx rfl (hb hby d94) rfl ?_
    refine XS.ifYes X0.here hx rfl (pc0 := 1) (pc' := 12) rfl (hb hby d95) rfl ((if0 _ _).trans (flt ((by decide) : ¬ ((1 : Int32) < (0 : Int32)))).2.1) (by decide) (by decide) ?_
    refine XS.iloadN X0.here hx rfl (hb hby d96) rfl ?_
    refine X0.ldcInt hx hown (mvT hZ (w_95 hw)) (g := (mkF m 13 #[vI 1] [(.int 1)])) rfl (hb hby d97) _ ?_
    show Steps _ _ _ (s₁.setTop (mkF m 15 #[vI 1] [(.int 1073741823), (.int 1)])) _
    refine XS.icmpYes X0.here hx rfl (pc0 := 15) (pc' := 55) rfl (hb hby d98) rfl (tlt ((by decide) : (1 : Int32) < (1073741823 : Int32))).1 (by decide) (by decide) ?_
    refine XS.iloadN X0.here hx rfl (hb hby d99) rfl ?_
    refine XS.iconst X0.here hx rfl (hb hby d100) ?_
    refine XS.ishl X0.here hx rfl (hb hby d101) rfl ?_
    exact retI X0 hx hret (hb hby d102) hr
theorem d103 : decode jdk_52_method_2_code 0 = .ok (.iload_n 0, 1) := by decide +kernel
theorem w_92 {Z : State} {a0 : Array Value} (hw : HW Z a0) : (Jvm.Cond.methodLink "java/lang/StringUTF16" (11 : Nat) m_7).before a0 Z = true := hw _ (List.mem_of_getElem? (i := 92) rfl)
theorem w_94 {Z : State} {a0 : Array Value} (hw : HW Z a0) : (Jvm.Cond.code m_7 jdk_52_method_3_code (1 : Nat) (Option.some FieldType.int)).before a0 Z = true := hw _ (List.mem_of_getElem? (i := 94) rfl)
theorem w_72 {Z : State} {a0 : Array Value} (hw : HW Z a0) : (Jvm.Cond.initialized "java/lang/StringUTF16").before a0 Z = true := hw _ (List.mem_of_getElem? (i := 72) rfl)
theorem pd_0 : parseMethodDescriptor "(I)I" = some ⟨[.int], some .int⟩ := by decide +kernel
theorem d104 : decode jdk_52_method_2_code 1 = .ok (.invokestatic 11, 3) := by decide +kernel
theorem w_93 {Z : State} {a0 : Array Value} (hw : HW Z a0) : (Jvm.Cond.static m_7).before a0 Z = true := hw _ (List.mem_of_getElem? (i := 93) rfl)
theorem d105 : decode jdk_52_method_2_code 4 = .ok (.newarray .byte, 2) := by decide +kernel
theorem d106 : decode jdk_52_method_2_code 6 = .ok (.areturn, 1) := by decide +kernel
abbrev m_8 : MethodName := (⟨"java/lang/StringUTF16", "newBytesFor", "(I)[B"⟩ : MethodName)
def Q_nbf1 (Z : State) (h0 : Heap) (n0 : Nat) (v : Option Value) (h : Heap) (L : List Loc) : Prop := ∃ (b : Addr) (k : ClassId), (v = some (.ref b)) ∧ (Fr n0 L) ∧ (Keep h0 h []) ∧ (h0.size ≤ b) ∧ (Arv Z h b k .byte (2 : Int32) [(.int 0), (.int 0)] (.int 0))
theorem rm_nbf1 (l : Launch) (Z : State) (a0 : Array Value) (hw : HW Z a0) (ws : List Jvm.Cond) (h0 : Heap) (n0 : Nat) (Z0 : n0 ≤ h0.size) :
    MF l Z m_8 jdk_52_method_2_code 1 (some (.array .byte)) ws (oR 1 1 2 12) #[(.int 1)] h0 (Q_nbf1 Z  h0 n0) := by
  refine own_body (cls := "java/lang/StringUTF16") (plainFor_of_name pn_4) rfl (fun p e s m below meth c s₁ hx hby hml hown hnm hret hZ X0 e0 => ?_)
  have N0 := Fr.nil n0
  have K0 := Keep.refl h0 []
  obtain ⟨_, _, ⟨T1, L1, k1, n1⟩, -, X1, ⟨Lc1, hQ1, l1, y1, z1⟩, st1⟩ := Jvm.LawKit.callS X0 hx (y := m_7) hown (mvT hZ (w_92 hw)) (mvT hZ (w_93 hw)) (mvT hZ (w_72 hw)) (mvT hZ (w_94 hw)) (by decide) (backOf (W := 0) (rm_nbl1 l Z a0 hw []  h0 n0 (by omega) ) hZ (w_94 hw) (w_72 hw) (by decide) (by decide)) (g := (mkF m 1 #[vI 1] [(.int 1)])) rfl (by rw [hml]; rfl) (argsL := [(.int 1)]) (rest := []) (lenOf pd_0 rfl) rfl (Nat.le_of_eq rfl) (hb hby d104) (fun _ _ => ⟨rfl, e0, (by decide : 0 + 0 ≤ _), (by decide : 0 + 0 ≤ _)⟩)
  dsimp only [Pt.U, Pt.locs, Pt.cells, Pt.slots] at X1 l1 y1 z1 st1 hQ1
  rw [l1, y1, z1] at X1
  obtain ⟨rfl, Nq1, Kq1⟩ := hQ1
  have N1 := Fr.app N0 Nq1
  obtain ⟨T2, h2, k2, X2, e2, E2, A2, st2⟩ := newP X1 hx hZ (aty := .byte) (w_19 hw) Kq1 (g := (mkF m 4 #[vI 1] [(.int 2)])) rfl (hb hby d105) rfl (by decide) (cap := 2) (by decide) (by decide) (by decide) (by decide)
  obtain ⟨b2, g2⟩ : ∃ z, z = h0.size := ⟨_, rfl⟩
  rw [← g2] at A2 st2
  have z2 := E2.1
  have K2 := K0.ext E2
  have V2 : Arv Z h2 b2 k2 .byte (2 : Int32) [(.int 0), (.int 0)] (.int 0) := (Arv.new A2 (by decide)).pad (pad_rep [] (.int 0) 2)
  have lt3 := own_l V2.lt
  refine ⟨_, _, _, _, some (.ref b2), X2, by decide, by decide, nofun, ?_, fun fs hr => castTop (ef_1 m (1 : Int32)) ?_⟩
  · show Q_nbf1 Z  h0 n0 _ T2.heap _
    rw [(e2 : T2.heap = h2)]
    exact ⟨b2, k2, rfl, N1, K2, (by omega), V2⟩
  · show Steps _ _ _ (s₁.setTop (mkF m 0 #[vI 1] [])) _
    refine XS.iloadN X0.here hx rfl (hb hby d103) rfl ?_
    refine st1 _ ?_
    show Steps _ _ _ (T1.setTop (mkF m 4 #[vI 1] [(.int 2)])) _
    refine st2 _ ?_
    show Steps _ _ _ (T2.setTop (mkF m 6 #[vI 1] [(.ref b2)])) _
    exact retOut X2 hx hret (own_narrow_ref rfl) (Or.inr (Or.inr (Or.inr (Or.inr ⟨rfl, rfl, rfl⟩)))) (hb hby d106) hr
theorem d107 : decode jdk_52_method_14_code 0 = .ok (.iload_n 2, 1) := by decide +kernel
theorem w_89 {Z : State} {a0 : Array Value} (hw : HW Z a0) : (Jvm.Cond.methodLink "java/lang/StringUTF16" (107 : Nat) m_8).before a0 Z = true := hw _ (List.mem_of_getElem? (i := 89) rfl)
theorem w_91 {Z : State} {a0 : Array Value} (hw : HW Z a0) : (Jvm.Cond.code m_8 jdk_52_method_2_code (1 : Nat) (Option.some (FieldType.array FieldType.byte))).before a0 Z = true := hw _ (List.mem_of_getElem? (i := 91) rfl)
theorem pd_1 : parseMethodDescriptor "(I)[B" = some ⟨[.int], some (.array .byte)⟩ := by decide +kernel
theorem d108 : decode jdk_52_method_14_code 1 = .ok (.invokestatic 107, 3) := by decide +kernel
theorem w_90 {Z : State} {a0 : Array Value} (hw : HW Z a0) : (Jvm.Cond.static m_8).before a0 Z = true := hw _ (List.mem_of_getElem? (i := 90) rfl)
theorem d109 : decode jdk_52_method_14_code 4 = .ok (.astore_n 3, 1) := by decide +kernel
theorem d110 : decode jdk_52_method_14_code 5 = .ok (.iconst 0, 1) := by decide +kernel
theorem d111 : decode jdk_52_method_14_code 6 = .ok (.istore 4, 2) := by decide +kernel
theorem d112 : decode jdk_52_method_14_code 8 = .ok (.iload 4, 2) := by decide +kernel
theorem d113 : decode jdk_52_method_14_code 10 = .ok (.iload_n 2, 1) := by decide +kernel
theorem d114 : decode jdk_52_method_14_code 11 = .ok (.if_icmp .ge 21, 3) := by decide +kernel
theorem d115 : decode jdk_52_method_14_code 14 = .ok (.aload_n 3, 1) := by decide +kernel
theorem d116 : decode jdk_52_method_14_code 15 = .ok (.iload 4, 2) := by decide +kernel
theorem d117 : decode jdk_52_method_14_code 17 = .ok (.aload_n 0, 1) := by decide +kernel
theorem d118 : decode jdk_52_method_14_code 18 = .ok (.iload_n 1, 1) := by decide +kernel
theorem d119 : decode jdk_52_method_14_code 19 = .ok (.caload, 1) := by decide +kernel
theorem w_96 {Z : State} {a0 : Array Value} (hw : HW Z a0) : (Jvm.Cond.methodLink "java/lang/StringUTF16" (111 : Nat) m_6).before a0 Z = true := hw _ (List.mem_of_getElem? (i := 96) rfl)
theorem w_98 {Z : State} {a0 : Array Value} (hw : HW Z a0) : (Jvm.Cond.code m_6 jdk_52_method_4_code (3 : Nat) (Option.none : Option Jvm.ClassFile.FieldType)).before a0 Z = true := hw _ (List.mem_of_getElem? (i := 98) rfl)
theorem pd_2 : parseMethodDescriptor "([BII)V" = some ⟨[(.array .byte), .int, .int], none⟩ := by decide +kernel
theorem d120 : decode jdk_52_method_14_code 20 = .ok (.invokestatic 111, 3) := by decide +kernel
theorem w_97 {Z : State} {a0 : Array Value} (hw : HW Z a0) : (Jvm.Cond.static m_6).before a0 Z = true := hw _ (List.mem_of_getElem? (i := 97) rfl)
theorem d121 : decode jdk_52_method_14_code 23 = .ok (.iinc 1 1, 3) := by decide +kernel
theorem d122 : decode jdk_52_method_14_code 26 = .ok (.iinc 4 1, 3) := by decide +kernel
theorem d123 : decode jdk_52_method_14_code 29 = .ok (.goto (-21), 3) := by decide +kernel
theorem d124 : decode jdk_52_method_14_code 32 = .ok (.aload_n 3, 1) := by decide +kernel
theorem d125 : decode jdk_52_method_14_code 33 = .ok (.areturn, 1) := by decide +kernel
theorem ef_5 (m : MethodId) (x0 : Addr) (x1 : Int32) (x2 : Int32) : entryFrame m #[(.ref x0), (.int x1), (.int x2)] 5 = mkF m 0 #[vA x0, vI x1, vI x2, .unset, .unset] [] := by first | (simp [entryFrame, mkF, argsToLocals, Value.category, maxLocals]; done) | rfl
abbrev m_9 : MethodName := (⟨"java/lang/StringUTF16", "toBytes", "([CII)[B"⟩ : MethodName)
def Q_tob1 (Z : State) (c0 : Int32) (ch : Addr) (kc : ClassId) (h0 : Heap) (n0 : Nat) (v : Option Value) (h : Heap) (L : List Loc) : Prop := ∃ (b : Addr) (k : ClassId), (v = some (.ref b)) ∧ (Fr n0 L) ∧ (Keep h0 h []) ∧ (h0.size ≤ b) ∧ (Arv Z h b k .byte (2 : Int32) [(.int (oL c0)), (.int (oH c0))] (.int 0)) ∧ (Old Z n0 h)
theorem rm_tob1 (l : Launch) (Z : State) (a0 : Array Value) (hw : HW Z a0) (ws : List Jvm.Cond) (c0 : Int32) (ch : Addr) (kc : ClassId) (h0 : Heap) (n0 : Nat) (Z0 : n0 ≤ h0.size) (P0 : Old Z n0 h0) (P1 : Arv Z h0 ch kc .char (1 : Int32) [(.int c0)] (.int 0)) (P2 : sta1 Z (.int 1)) (P3 : sta2 Z (.int 0)) (P4 : sta3 Z (.int 8)) :
    MF l Z m_9 jdk_52_method_14_code 5 (some (.array .byte)) ws (oR 2 1 2 24) #[(.ref ch), (.int 0), (.int 1)] h0 (Q_tob1 Z c0 ch kc h0 n0) := by
  refine own_body (cls := "java/lang/StringUTF16") (plainFor_of_name pn_4) rfl (fun p e s m below meth c s₁ hx hby hml hown hnm hret hZ X0 e0 => ?_)
  have N0 := Fr.nil n0
  have K0 := Keep.refl h0 []
  have lt1 := own_l P1.lt
  obtain ⟨_, _, ⟨T2, L2, k2, n2⟩, -, X2, ⟨Lc2, hQ2, l2, y2, z2⟩, st2⟩ := Jvm.LawKit.callS X0 hx (y := m_8) hown (mvT hZ (w_89 hw)) (mvT hZ (w_90 hw)) (mvT hZ (w_72 hw)) (mvT hZ (w_91 hw)) (by decide) (backOf (W := 0) (rm_nbf1 l Z a0 hw []  h0 n0 (by omega) ) hZ (w_91 hw) (w_72 hw) (by decide) (by decide)) (g := (mkF m 1 #[vA ch, vI 0, vI 1, .unset, .unset] [(.int 1)])) rfl (by rw [hml]; rfl) (argsL := [(.int 1)]) (rest := []) (lenOf pd_1 rfl) rfl (Nat.le_of_eq rfl) (hb hby d108) (fun _ _ => ⟨rfl, e0, (by decide : 0 + 1 ≤ _), (by decide : 0 + 2 ≤ _)⟩)
  dsimp only [Pt.U, Pt.locs, Pt.cells, Pt.slots] at X2 l2 y2 z2 st2 hQ2
  rw [l2, y2, z2] at X2
  obtain ⟨x2_b, x2_k, rfl, Nq2, Kq2, r2_0, r2_1⟩ := hQ2
  have N2 := Fr.app N0 Nq2
  have z2' := Kq2.1
  have K2 := K0.trans Kq2 all0
  have lt3 := own_l r2_1.lt
  have f5 := P1.keep Kq2 nin0
  obtain ⟨cl4, Ar4, q4, S4, M4, H4, G4⟩ := id f5
  have hin4 : ¬ ((0 : Int32) < 0 ∨ cl4.slots.size ≤ ((0 : Int32)).toNatClampNeg) := inb_of S4 ⟨by decide, by decide⟩
  have hat4 : cl4.slots[((0 : Int32)).toNatClampNeg]? = some (.int c0) := Has.at H4 hin4 rfl
  have f7 := P0.keep Kq2 all0
  obtain ⟨_, _, ⟨T6, L6, k6, n6⟩, -, X6, ⟨Lc6, hQ6, l6, y6, z6⟩, st6⟩ := Jvm.LawKit.callS X2 hx (y := m_6) hown (mvT hZ (w_96 hw)) (mvT hZ (w_97 hw)) (mvT hZ (w_72 hw)) (mvT hZ (w_98 hw)) (by decide) (backOf (W := 0) (rm_put1_0 l Z a0 hw [] c0 x2_b x2_k T2.heap n0 (by omega) f7 r2_1 (by omega) P2 P3 P4) hZ (w_98 hw) (w_72 hw) (by decide) (by decide)) (g := (mkF m 20 #[vA ch, vI 0, vI 1, vA x2_b, vI 0] [(.int c0), (.int 0), (.ref x2_b)])) rfl (by rw [hml]; rfl) (argsL := [(.ref x2_b), (.int 0), (.int c0)]) (rest := []) (lenOf pd_2 rfl) rfl (Nat.le_of_eq rfl) (hb hby d120) (fun _ _ => ⟨rfl, rfl, (by decide : 1 + 0 ≤ _), (by decide : 2 + 0 ≤ _)⟩)
  dsimp only [Pt.U, Pt.locs, Pt.cells, Pt.slots] at X6 l6 y6 z6 st6 hQ6
  rw [l6, y6, z6] at X6
  obtain ⟨rfl, Nq6, Kq6, r6_0, r6_1⟩ := hQ6
  have N6 := Fr.app N2 Nq6
  have z6' := Kq6.1
  have K6 := K2.trans Kq6 (allS (Or.inr (by omega)) all0)
  have lt8 := own_l r6_0.lt
  refine ⟨_, _, _, _, some (.ref x2_b), X6, by decide, by decide, nofun, ?_, fun fs hr => castTop (ef_5 m ch (0 : Int32) (1 : Int32)) ?_⟩
  · show Q_tob1 Z c0 ch kc h0 n0 _ T6.heap _
    exact ⟨x2_b, x2_k, rfl, N6, K6, (by omega), r6_0, r6_1⟩
  · show Steps _ _ _ (s₁.setTop (mkF m 0 #[vA ch, vI 0, vI 1, .unset, .unset] [])) _
    refine XS.iloadN X0.here hx rfl (hb hby d107) rfl ?_
    refine st2 _ ?_
    show Steps _ _ _ (T2.setTop (mkF m 4 #[vA ch, vI 0, vI 1, .unset, .unset] [(.ref x2_b)])) _
    refine XS.astoreN X2.here hx rfl (hb hby d109) rfl rfl (l' := #[vA ch, vI 0, vI 1, vA x2_b, .unset]) rfl ?_
    refine XS.iconst X2.here hx rfl (hb hby d110) ?_
    refine XS.istore X2.here hx rfl (hb hby d111) rfl (l' := #[vA ch, vI 0, vI 1, vA x2_b, vI 0]) rfl ?_
    refine XS.iload X2.here hx rfl (hb hby d112) rfl ?_
    refine XS.iloadN X2.here hx rfl (hb hby d113) rfl ?_
    refine XS.icmpNo X2.here hx rfl (hb hby d114) rfl (tlt ((by decide) : (0 : Int32) < (1 : Int32))).2.1 ?_
    refine XS.aloadN X2.here hx rfl (hb hby d115) rfl rfl ?_
    refine XS.iload X2.here hx rfl (hb hby d116) rfl ?_
    refine XS.aloadN X2.here hx rfl (hb hby d117) rfl rfl ?_
    refine XS.iloadN X2.here hx rfl (hb hby d118) rfl ?_
    refine X2.caload hx (j := (0 : Int32)) (v := (.int c0)) Ar4.1 (State.isArrayOf_alike hZ.alike Ar4.2.1) Ar4.2.2 hin4 hat4 (g := (mkF m 19 #[vA ch, vI 0, vI 1, vA x2_b, vI 0] [(.int 0), (.ref ch), (.int 0), (.ref x2_b)])) rfl rfl (hb hby d119) _ ?_
    show Steps _ _ _ (T2.setTop (mkF m 20 #[vA ch, vI 0, vI 1, vA x2_b, vI 0] [(.int c0), (.int 0), (.ref x2_b)])) _
    refine st6 _ ?_
    show Steps _ _ _ (T6.setTop (mkF m 23 #[vA ch, vI 0, vI 1, vA x2_b, vI 0] [])) _
    refine XS.iinc X6.here hx rfl (hb hby d121) rfl (l' := #[vA ch, vI 1, vI 1, vA x2_b, vI 0]) rfl ?_
    refine XS.iinc X6.here hx rfl (hb hby d122) rfl (l' := #[vA ch, vI 1, vI 1, vA x2_b, vI 1]) rfl ?_
    refine XS.goto X6.here hx rfl (pc0 := 29) (pc' := 8) rfl (hb hby d123) (by decide) (by decide) ?_
    refine XS.iload X6.here hx rfl (hb hby d112) rfl ?_
    refine XS.iloadN X6.here hx rfl (hb hby d113) rfl ?_
    refine XS.icmpYes X6.here hx rfl (pc0 := 11) (pc' := 32) rfl (hb hby d114) rfl (flt ((by decide) : ¬ ((1 : Int32) < (1 : Int32)))).2.1 (by decide) (by decide) ?_
    refine XS.aloadN X6.here hx rfl (hb hby d124) rfl rfl ?_
    exact retOut X6 hx hret (own_narrow_ref rfl) (Or.inr (Or.inr (Or.inr (Or.inr ⟨rfl, rfl, rfl⟩)))) (hb hby d125) hr
def Q_nbl2 (Z : State) (h0 : Heap) (n0 : Nat) (v : Option Value) (h : Heap) (L : List Loc) : Prop := (v = some (.int 4)) ∧ (Fr n0 L) ∧ (h = h0)
theorem rm_nbl2 (l : Launch) (Z : State) (a0 : Array Value) (hw : HW Z a0) (ws : List Jvm.Cond) (h0 : Heap) (n0 : Nat) (Z0 : n0 ≤ h0.size) :
    MF l Z m_7 jdk_52_method_3_code 1 (some .int) ws (oR 0 0 0 0) #[(.int 2)] h0 (Q_nbl2 Z  h0 n0) := by
  refine own_body (cls := "java/lang/StringUTF16") (plainFor_of_name pn_4) rfl (fun p e s m below meth c s₁ hx hby hml hown hnm hret hZ X0 e0 => ?_)
  have N0 := Fr.nil n0
  refine ⟨_, _, _, _, some (.int 4), X0, by decide, by decide, nofun, ?_, fun fs hr => castTop (ef_1 m (2 : Int32)) ?_⟩
  · show Q_nbl2 Z  h0 n0 _ s₁.heap _
    rw [(e0 : s₁.heap = h0)]
    exact ⟨rfl, N0, rfl⟩
  · show Steps _ _ _ (s₁.setTop (mkF m 0 #[vI 2] [])) _
    refine XS.iloadN X0.here hx rfl (hb hby d94) rfl ?_
    refine XS.ifYes X0.here hx rfl (pc0 := 1) (pc' := 12) rfl (hb hby d95) rfl ((if0 _ _).trans (flt ((by decide) : ¬ ((2 : Int32) < (0 : Int32)))).2.1) (by decide) (by decide) ?_
    refine XS.iloadN X0.here hx rfl (hb hby d96) rfl ?_
    refine X0.ldcInt hx hown (mvT hZ (w_95 hw)) (g := (mkF m 13 #[vI 2] [(.int 2)])) rfl (hb hby d97) _ ?_
    show Steps _ _ _ (s₁.setTop (mkF m 15 #[vI 2] [(.int 1073741823), (.int 2)])) _
    refine XS.icmpYes X0.here hx rfl (pc0 := 15) (pc' := 55) rfl (hb hby d98) rfl (tlt ((by decide) : (2 : Int32) < (1073741823 : Int32))).1 (by decide) (by decide) ?_
    refine XS.iloadN X0.here hx rfl (hb hby d99) rfl ?_
    refine XS.iconst X0.here hx rfl (hb hby d100) ?_
    refine XS.ishl X0.here hx rfl (hb hby d101) rfl ?_
    exact retI X0 hx hret (hb hby d102) hr
def Q_nbf2 (Z : State) (h0 : Heap) (n0 : Nat) (v : Option Value) (h : Heap) (L : List Loc) : Prop := ∃ (b : Addr) (k : ClassId), (v = some (.ref b)) ∧ (Fr n0 L) ∧ (Keep h0 h []) ∧ (h0.size ≤ b) ∧ (Arv Z h b k .byte (4 : Int32) [(.int 0), (.int 0), (.int 0), (.int 0)] (.int 0))
theorem rm_nbf2 (l : Launch) (Z : State) (a0 : Array Value) (hw : HW Z a0) (ws : List Jvm.Cond) (h0 : Heap) (n0 : Nat) (Z0 : n0 ≤ h0.size) :
    MF l Z m_8 jdk_52_method_2_code 1 (some (.array .byte)) ws (oR 1 1 4 12) #[(.int 2)] h0 (Q_nbf2 Z  h0 n0) := by
  refine own_body (cls := "java/lang/StringUTF16") (plainFor_of_name pn_4) rfl (fun p e s m below meth c s₁ hx hby hml hown hnm hret hZ X0 e0 => ?_)
  have N0 := Fr.nil n0
  have K0 := Keep.refl h0 []
  obtain ⟨_, _, ⟨T1, L1, k1, n1⟩, -, X1, ⟨Lc1, hQ1, l1, y1, z1⟩, st1⟩ := Jvm.LawKit.callS X0 hx (y := m_7) hown (mvT hZ (w_92 hw)) (mvT hZ (w_93 hw)) (mvT hZ (w_72 hw)) (mvT hZ (w_94 hw)) (by decide) (backOf (W := 0) (rm_nbl2 l Z a0 hw []  h0 n0 (by omega) ) hZ (w_94 hw) (w_72 hw) (by decide) (by decide)) (g := (mkF m 1 #[vI 2] [(.int 2)])) rfl (by rw [hml]; rfl) (argsL := [(.int 2)]) (rest := []) (lenOf pd_0 rfl) rfl (Nat.le_of_eq rfl) (hb hby d104) (fun _ _ => ⟨rfl, e0, (by decide : 0 + 0 ≤ _), (by decide : 0 + 0 ≤ _)⟩)
  dsimp only [Pt.U, Pt.locs, Pt.cells, Pt.slots] at X1 l1 y1 z1 st1 hQ1
  rw [l1, y1, z1] at X1
  obtain ⟨rfl, Nq1, Kq1⟩ := hQ1
  have N1 := Fr.app N0 Nq1
  obtain ⟨T2, h2, k2, X2, e2, E2, A2, st2⟩ := newP X1 hx hZ (aty := .byte) (w_19 hw) Kq1 (g := (mkF m 4 #[vI 2] [(.int 4)])) rfl (hb hby d105) rfl (by decide) (cap := 4) (by decide) (by decide) (by decide) (by decide)
  obtain ⟨b2, g2⟩ : ∃ z, z = h0.size := ⟨_, rfl⟩
  rw [← g2] at A2 st2
  have z2 := E2.1
  have K2 := K0.ext E2
  have V2 : Arv Z h2 b2 k2 .byte (4 : Int32) [(.int 0), (.int 0), (.int 0), (.int 0)] (.int 0) := (Arv.new A2 (by decide)).pad (pad_rep [] (.int 0) 4)
  have lt3 := own_l V2.lt
  refine ⟨_, _, _, _, some (.ref b2), X2, by decide, by decide, nofun, ?_, fun fs hr => castTop (ef_1 m (2 : Int32)) ?_⟩
  · show Q_nbf2 Z  h0 n0 _ T2.heap _
    rw [(e2 : T2.heap = h2)]
    exact ⟨b2, k2, rfl, N1, K2, (by omega), V2⟩
  · show Steps _ _ _ (s₁.setTop (mkF m 0 #[vI 2] [])) _
    refine XS.iloadN X0.here hx rfl (hb hby d103) rfl ?_
    refine st1 _ ?_
    show Steps _ _ _ (T1.setTop (mkF m 4 #[vI 2] [(.int 4)])) _
    refine st2 _ ?_
    show Steps _ _ _ (T2.setTop (mkF m 6 #[vI 2] [(.ref b2)])) _
    exact retOut X2 hx hret (own_narrow_ref rfl) (Or.inr (Or.inr (Or.inr (Or.inr ⟨rfl, rfl, rfl⟩)))) (hb hby d106) hr
def Q_tob2 (Z : State) (c0 : Int32) (c1 : Int32) (ch : Addr) (kc : ClassId) (h0 : Heap) (n0 : Nat) (v : Option Value) (h : Heap) (L : List Loc) : Prop := ∃ (b : Addr) (k : ClassId), (v = some (.ref b)) ∧ (Fr n0 L) ∧ (Keep h0 h []) ∧ (h0.size ≤ b) ∧ (Arv Z h b k .byte (4 : Int32) [(.int (oL c0)), (.int (oH c0)), (.int (oL c1)), (.int (oH c1))] (.int 0)) ∧ (Old Z n0 h)
theorem rm_tob2 (l : Launch) (Z : State) (a0 : Array Value) (hw : HW Z a0) (ws : List Jvm.Cond) (c0 : Int32) (c1 : Int32) (ch : Addr) (kc : ClassId) (h0 : Heap) (n0 : Nat) (Z0 : n0 ≤ h0.size) (P0 : Old Z n0 h0) (P1 : Arv Z h0 ch kc .char (2 : Int32) [(.int c0), (.int c1)] (.int 0)) (P2 : sta1 Z (.int 1)) (P3 : sta2 Z (.int 0)) (P4 : sta3 Z (.int 8)) :
    MF l Z m_9 jdk_52_method_14_code 5 (some (.array .byte)) ws (oR 2 1 4 24) #[(.ref ch), (.int 0), (.int 2)] h0 (Q_tob2 Z c0 c1 ch kc h0 n0) := by
  refine own_body (cls := "java/lang/StringUTF16") (plainFor_of_name pn_4) rfl (fun p e s m below meth c s₁ hx hby hml hown hnm hret hZ X0 e0 => ?_)
  have N0 := Fr.nil n0
  have K0 := Keep.refl h0 []
  have lt1 := own_l P1.lt
  obtain ⟨_, _, ⟨T2, L2, k2, n2⟩, -, X2, ⟨Lc2, hQ2, l2, y2, z2⟩, st2⟩ := Jvm.LawKit.callS X0 hx (y := m_8) hown (mvT hZ (w_89 hw)) (mvT hZ (w_90 hw)) (mvT hZ (w_72 hw)) (mvT hZ (w_91 hw)) (by decide) (backOf (W := 0) (rm_nbf2 l Z a0 hw []  h0 n0 (by omega) ) hZ (w_91 hw) (w_72 hw) (by decide) (by decide)) (g := (mkF m 1 #[vA ch, vI 0, vI 2, .unset, .unset] [(.int 2)])) rfl (by rw [hml]; rfl) (argsL := [(.int 2)]) (rest := []) (lenOf pd_1 rfl) rfl (Nat.le_of_eq rfl) (hb hby d108) (fun _ _ => ⟨rfl, e0, (by decide : 0 + 1 ≤ _), (by decide : 0 + 4 ≤ _)⟩)
  dsimp only [Pt.U, Pt.locs, Pt.cells, Pt.slots] at X2 l2 y2 z2 st2 hQ2
  rw [l2, y2, z2] at X2
  obtain ⟨x2_b, x2_k, rfl, Nq2, Kq2, r2_0, r2_1⟩ := hQ2
  have N2 := Fr.app N0 Nq2
  have z2' := Kq2.1
  have K2 := K0.trans Kq2 all0
  have lt3 := own_l r2_1.lt
  have f5 := P1.keep Kq2 nin0
  obtain ⟨cl4, Ar4, q4, S4, M4, H4, G4⟩ := id f5
  have hin4 : ¬ ((0 : Int32) < 0 ∨ cl4.slots.size ≤ ((0 : Int32)).toNatClampNeg) := inb_of S4 ⟨by decide, by decide⟩
  have hat4 : cl4.slots[((0 : Int32)).toNatClampNeg]? = some (.int c0) := Has.at H4 hin4 rfl
  have f7 := P0.keep Kq2 all0
  obtain ⟨_, _, ⟨T6, L6, k6, n6⟩, -, X6, ⟨Lc6, hQ6, l6, y6, z6⟩, st6⟩ := Jvm.LawKit.callS X2 hx (y := m_6) hown (mvT hZ (w_96 hw)) (mvT hZ (w_97 hw)) (mvT hZ (w_72 hw)) (mvT hZ (w_98 hw)) (by decide) (backOf (W := 0) (rm_put2_0 l Z a0 hw [] c0 x2_b x2_k T2.heap n0 (by omega) f7 r2_1 (by omega) P2 P3 P4) hZ (w_98 hw) (w_72 hw) (by decide) (by decide)) (g := (mkF m 20 #[vA ch, vI 0, vI 2, vA x2_b, vI 0] [(.int c0), (.int 0), (.ref x2_b)])) rfl (by rw [hml]; rfl) (argsL := [(.ref x2_b), (.int 0), (.int c0)]) (rest := []) (lenOf pd_2 rfl) rfl (Nat.le_of_eq rfl) (hb hby d120) (fun _ _ => ⟨rfl, rfl, (by decide : 1 + 0 ≤ _), (by decide : 4 + 0 ≤ _)⟩)
  dsimp only [Pt.U, Pt.locs, Pt.cells, Pt.slots] at X6 l6 y6 z6 st6 hQ6
  rw [l6, y6, z6] at X6
  obtain ⟨rfl, Nq6, Kq6, r6_0, r6_1⟩ := hQ6
  have N6 := Fr.app N2 Nq6
  have z6' := Kq6.1
  have K6 := K2.trans Kq6 (allS (Or.inr (by omega)) all0)
  have lt8 := own_l r6_0.lt
  have f10 := f5.keep Kq6 (ninS (own_ne (by omega)) nin0)
  obtain ⟨cl9, Ar9, q9, S9, M9, H9, G9⟩ := id f10
  have hin9 : ¬ ((1 : Int32) < 0 ∨ cl9.slots.size ≤ ((1 : Int32)).toNatClampNeg) := inb_of S9 ⟨by decide, by decide⟩
  have hat9 : cl9.slots[((1 : Int32)).toNatClampNeg]? = some (.int c1) := Has.at H9 hin9 rfl
  obtain ⟨_, _, ⟨T11, L11, k11, n11⟩, -, X11, ⟨Lc11, hQ11, l11, y11, z11⟩, st11⟩ := Jvm.LawKit.callS X6 hx (y := m_6) hown (mvT hZ (w_96 hw)) (mvT hZ (w_97 hw)) (mvT hZ (w_72 hw)) (mvT hZ (w_98 hw)) (by decide) (backOf (W := 0) (rm_put2_1 l Z a0 hw [] c0 c1 x2_b x2_k T6.heap n0 (by omega) r6_1 r6_0 (by omega) P2 P3 P4) hZ (w_98 hw) (w_72 hw) (by decide) (by decide)) (g := (mkF m 20 #[vA ch, vI 1, vI 2, vA x2_b, vI 1] [(.int c1), (.int 1), (.ref x2_b)])) rfl (by rw [hml]; rfl) (argsL := [(.ref x2_b), (.int 1), (.int c1)]) (rest := []) (lenOf pd_2 rfl) rfl (Nat.le_of_eq rfl) (hb hby d120) (fun _ _ => ⟨rfl, rfl, (by decide : 1 + 0 ≤ _), (by decide : 4 + 0 ≤ _)⟩)
  dsimp only [Pt.U, Pt.locs, Pt.cells, Pt.slots] at X11 l11 y11 z11 st11 hQ11
  rw [l11, y11, z11] at X11
  obtain ⟨rfl, Nq11, Kq11, r11_0, r11_1⟩ := hQ11
  have N11 := Fr.app N6 Nq11
  have z11' := Kq11.1
  have K11 := K6.trans Kq11 (allS (Or.inr (by omega)) all0)
  have lt12 := own_l r11_0.lt
  refine ⟨_, _, _, _, some (.ref x2_b), X11, by decide, by decide, nofun, ?_, fun fs hr => castTop (ef_5 m ch (0 : Int32) (2 : Int32)) ?_⟩
  · show Q_tob2 Z c0 c1 ch kc h0 n0 _ T11.heap _
    exact ⟨x2_b, x2_k, rfl, N11, K11, (by omega), r11_0, r11_1⟩
  · show Steps _ _ _ (s₁.setTop (mkF m 0 #[vA ch, vI 0, vI 2, .unset, .unset] [])) _
    refine XS.iloadN X0.here hx rfl (hb hby d107) rfl ?_
    refine st2 _ ?_
    show Steps _ _ _ (T2.setTop (mkF m 4 #[vA ch, vI 0, vI 2, .unset, .unset] [(.ref x2_b)])) _
    refine XS.astoreN X2.here hx rfl (hb hby d109) rfl rfl (l' := #[vA ch, vI 0, vI 2, vA x2_b, .unset]) rfl ?_
    refine XS.iconst X2.here hx rfl (hb hby d110) ?_
    refine XS.istore X2.here hx rfl (hb hby d111) rfl (l' := #[vA ch, vI 0, vI 2, vA x2_b, vI 0]) rfl ?_
    refine XS.iload X2.here hx rfl (hb hby d112) rfl ?_
    refine XS.iloadN X2.here hx rfl (hb hby d113) rfl ?_
    refine XS.icmpNo X2.here hx rfl (hb hby d114) rfl (tlt ((by decide) : (0 : Int32) < (2 : Int32))).2.1 ?_
    refine XS.aloadN X2.here hx rfl (hb hby d115) rfl rfl ?_
    refine XS.iload X2.here hx rfl (hb hby d116) rfl ?_
    refine XS.aloadN X2.here hx rfl (hb hby d117) rfl rfl ?_
    refine XS.iloadN X2.here hx rfl (hb hby d118) rfl ?_
    refine X2.caload hx (j := (0 : Int32)) (v := (.int c0)) Ar4.1 (State.isArrayOf_alike hZ.alike Ar4.2.1) Ar4.2.2 hin4 hat4 (g := (mkF m 19 #[vA ch, vI 0, vI 2, vA x2_b, vI 0] [(.int 0), (.ref ch), (.int 0), (.ref x2_b)])) rfl rfl (hb hby d119) _ ?_
    show Steps _ _ _ (T2.setTop (mkF m 20 #[vA ch, vI 0, vI 2, vA x2_b, vI 0] [(.int c0), (.int 0), (.ref x2_b)])) _
    refine st6 _ ?_
    show Steps _ _ _ (T6.setTop (mkF m 23 #[vA ch, vI 0, vI 2, vA x2_b, vI 0] [])) _
    refine XS.iinc X6.here hx rfl (hb hby d121) rfl (l' := #[vA ch, vI 1, vI 2, vA x2_b, vI 0]) rfl ?_
    refine XS.iinc X6.here hx rfl (hb hby d122) rfl (l' := #[vA ch, vI 1, vI 2, vA x2_b, vI 1]) rfl ?_
    refine XS.goto X6.here hx rfl (pc0 := 29) (pc' := 8) rfl (hb hby d123) (by decide) (by decide) ?_
    refine XS.iload X6.here hx rfl (hb hby d112) rfl ?_
    refine XS.iloadN X6.here hx rfl (hb hby d113) rfl ?_
    refine XS.icmpNo X6.here hx rfl (hb hby d114) rfl (tlt ((by decide) : (1 : Int32) < (2 : Int32))).2.1 ?_
    refine XS.aloadN X6.here hx rfl (hb hby d115) rfl rfl ?_
    refine XS.iload X6.here hx rfl (hb hby d116) rfl ?_
    refine XS.aloadN X6.here hx rfl (hb hby d117) rfl rfl ?_
    refine XS.iloadN X6.here hx rfl (hb hby d118) rfl ?_
    refine X6.caload hx (j := (1 : Int32)) (v := (.int c1)) Ar9.1 (State.isArrayOf_alike hZ.alike Ar9.2.1) Ar9.2.2 hin9 hat9 (g := (mkF m 19 #[vA ch, vI 1, vI 2, vA x2_b, vI 1] [(.int 1), (.ref ch), (.int 1), (.ref x2_b)])) rfl rfl (hb hby d119) _ ?_
    show Steps _ _ _ (T6.setTop (mkF m 20 #[vA ch, vI 1, vI 2, vA x2_b, vI 1] [(.int c1), (.int 1), (.ref x2_b)])) _
    refine st11 _ ?_
    show Steps _ _ _ (T11.setTop (mkF m 23 #[vA ch, vI 1, vI 2, vA x2_b, vI 1] [])) _
    refine XS.iinc X11.here hx rfl (hb hby d121) rfl (l' := #[vA ch, vI 2, vI 2, vA x2_b, vI 1]) rfl ?_
    refine XS.iinc X11.here hx rfl (hb hby d122) rfl (l' := #[vA ch, vI 2, vI 2, vA x2_b, vI 2]) rfl ?_
    refine XS.goto X11.here hx rfl (pc0 := 29) (pc' := 8) rfl (hb hby d123) (by decide) (by decide) ?_
    refine XS.iload X11.here hx rfl (hb hby d112) rfl ?_
    refine XS.iloadN X11.here hx rfl (hb hby d113) rfl ?_
    refine XS.icmpYes X11.here hx rfl (pc0 := 11) (pc' := 32) rfl (hb hby d114) rfl (flt ((by decide) : ¬ ((2 : Int32) < (2 : Int32)))).2.1 (by decide) (by decide) ?_
    refine XS.aloadN X11.here hx rfl (hb hby d124) rfl rfl ?_
    exact retOut X11 hx hret (own_narrow_ref rfl) (Or.inr (Or.inr (Or.inr (Or.inr ⟨rfl, rfl, rfl⟩)))) (hb hby d125) hr
def Q_nbl3 (Z : State) (h0 : Heap) (n0 : Nat) (v : Option Value) (h : Heap) (L : List Loc) : Prop := (v = some (.int 6)) ∧ (Fr n0 L) ∧ (h = h0)
theorem rm_nbl3 (l : Launch) (Z : State) (a0 : Array Value) (hw : HW Z a0) (ws : List Jvm.Cond) (h0 : Heap) (n0 : Nat) (Z0 : n0 ≤ h0.size) :
    MF l Z m_7 jdk_52_method_3_code 1 (some .int) ws (oR 0 0 0 0) #[(.int 3)] h0 (Q_nbl3 Z  h0 n0) := by
  refine own_body (cls := "java/lang/StringUTF16") (plainFor_of_name pn_4) rfl (fun p e s m below meth c s₁ hx hby hml hown hnm hret hZ X0 e0 => ?_)
  have N0 := Fr.nil n0
  refine ⟨_, _, _, _, some (.int 6), X0, by decide, by decide, nofun, ?_, fun fs hr => castTop (ef_1 m (3 : Int32)) ?_⟩
  · show Q_nbl3 Z  h0 n0 _ s₁.heap _
    rw [(e0 : s₁.heap = h0)]
    exact ⟨rfl, N0, rfl⟩
  · show Steps _ _ _ (s₁.setTop (mkF m 0 #[vI 3] [])) _
    refine XS.iloadN X0.here hx rfl (hb hby d94) rfl ?_
    refine XS.ifYes X0.here hx rfl (pc0 := 1) (pc' := 12) rfl (hb hby d95) rfl ((if0 _ _).trans (flt ((by decide) : ¬ ((3 : Int32) < (0 : Int32)))).2.1) (by decide) (by decide) ?_
    refine XS.iloadN X0.here hx rfl (hb hby d96) rfl ?_
    refine X0.ldcInt hx hown (mvT hZ (w_95 hw)) (g := (mkF m 13 #[vI 3] [(.int 3)])) rfl (hb hby d97) _ ?_
    show Steps _ _ _ (s₁.setTop (mkF m 15 #[vI 3] [(.int 1073741823), (.int 3)])) _
    refine XS.icmpYes X0.here hx rfl (pc0 := 15) (pc' := 55) rfl (hb hby d98) rfl (tlt ((by decide) : (3 : Int32) < (1073741823 : Int32))).1 (by decide) (by decide) ?_
    refine XS.iloadN X0.here hx rfl (hb hby d99) rfl ?_
    refine XS.iconst X0.here hx rfl (hb hby d100) ?_
    refine XS.ishl X0.here hx rfl (hb hby d101) rfl ?_
    exact retI X0 hx hret (hb hby d102) hr
def Q_nbf3 (Z : State) (h0 : Heap) (n0 : Nat) (v : Option Value) (h : Heap) (L : List Loc) : Prop := ∃ (b : Addr) (k : ClassId), (v = some (.ref b)) ∧ (Fr n0 L) ∧ (Keep h0 h []) ∧ (h0.size ≤ b) ∧ (Arv Z h b k .byte (6 : Int32) [(.int 0), (.int 0), (.int 0), (.int 0), (.int 0), (.int 0)] (.int 0))
theorem rm_nbf3 (l : Launch) (Z : State) (a0 : Array Value) (hw : HW Z a0) (ws : List Jvm.Cond) (h0 : Heap) (n0 : Nat) (Z0 : n0 ≤ h0.size) :
    MF l Z m_8 jdk_52_method_2_code 1 (some (.array .byte)) ws (oR 1 1 6 12) #[(.int 3)] h0 (Q_nbf3 Z  h0 n0) := by
  refine own_body (cls := "java/lang/StringUTF16") (plainFor_of_name pn_4) rfl (fun p e s m below meth c s₁ hx hby hml hown hnm hret hZ X0 e0 => ?_)
  have N0 := Fr.nil n0
  have K0 := Keep.refl h0 []
  obtain ⟨_, _, ⟨T1, L1, k1, n1⟩, -, X1, ⟨Lc1, hQ1, l1, y1, z1⟩, st1⟩ := Jvm.LawKit.callS X0 hx (y := m_7) hown (mvT hZ (w_92 hw)) (mvT hZ (w_93 hw)) (mvT hZ (w_72 hw)) (mvT hZ (w_94 hw)) (by decide) (backOf (W := 0) (rm_nbl3 l Z a0 hw []  h0 n0 (by omega) ) hZ (w_94 hw) (w_72 hw) (by decide) (by decide)) (g := (mkF m 1 #[vI 3] [(.int 3)])) rfl (by rw [hml]; rfl) (argsL := [(.int 3)]) (rest := []) (lenOf pd_0 rfl) rfl (Nat.le_of_eq rfl) (hb hby d104) (fun _ _ => ⟨rfl, e0, (by decide : 0 + 0 ≤ _), (by decide : 0 + 0 ≤ _)⟩)
  dsimp only [Pt.U, Pt.locs, Pt.cells, Pt.slots] at X1 l1 y1 z1 st1 hQ1
  rw [l1, y1, z1] at X1
  obtain ⟨rfl, Nq1, Kq1⟩ := hQ1
  have N1 := Fr.app N0 Nq1
  obtain ⟨T2, h2, k2, X2, e2, E2, A2, st2⟩ := newP X1 hx hZ (aty := .byte) (w_19 hw) Kq1 (g := (mkF m 4 #[vI 3] [(.int 6)])) rfl (hb hby d105) rfl (by decide) (cap := 6) (by decide) (by decide) (by decide) (by decide)
  obtain ⟨b2, g2⟩ : ∃ z, z = h0.size := ⟨_, rfl⟩
  rw [← g2] at A2 st2
  have z2 := E2.1
  have K2 := K0.ext E2
  have V2 : Arv Z h2 b2 k2 .byte (6 : Int32) [(.int 0), (.int 0), (.int 0), (.int 0), (.int 0), (.int 0)] (.int 0) := (Arv.new A2 (by decide)).pad (pad_rep [] (.int 0) 6)
  have lt3 := own_l V2.lt
  refine ⟨_, _, _, _, some (.ref b2), X2, by decide, by decide, nofun, ?_, fun fs hr => castTop (ef_1 m (3 : Int32)) ?_⟩
  · show Q_nbf3 Z  h0 n0 _ T2.heap _
    rw [(e2 : T2.heap = h2)]
    exact ⟨b2, k2, rfl, N1, K2, (by omega), V2⟩
  · show Steps _ _ _ (s₁.setTop (mkF m 0 #[vI 3] [])) _
    refine XS.iloadN X0.here hx rfl (hb hby d103) rfl ?_
    refine st1 _ ?_
    show Steps _ _ _ (T1.setTop (mkF m 4 #[vI 3] [(.int 6)])) _
    refine st2 _ ?_
    show Steps _ _ _ (T2.setTop (mkF m 6 #[vI 3] [(.ref b2)])) _
    exact retOut X2 hx hret (own_narrow_ref rfl) (Or.inr (Or.inr (Or.inr (Or.inr ⟨rfl, rfl, rfl⟩)))) (hb hby d106) hr
def Q_tob3 (Z : State) (c0 : Int32) (c1 : Int32) (c2 : Int32) (ch : Addr) (kc : ClassId) (h0 : Heap) (n0 : Nat) (v : Option Value) (h : Heap) (L : List Loc) : Prop := ∃ (b : Addr) (k : ClassId), (v = some (.ref b)) ∧ (Fr n0 L) ∧ (Keep h0 h []) ∧ (h0.size ≤ b) ∧ (Arv Z h b k .byte (6 : Int32) [(.int (oL c0)), (.int (oH c0)), (.int (oL c1)), (.int (oH c1)), (.int (oL c2)), (.int (oH c2))] (.int 0)) ∧ (Old Z n0 h)
theorem rm_tob3 (l : Launch) (Z : State) (a0 : Array Value) (hw : HW Z a0) (ws : List Jvm.Cond) (c0 : Int32) (c1 : Int32) (c2 : Int32) (ch : Addr) (kc : ClassId) (h0 : Heap) (n0 : Nat) (Z0 : n0 ≤ h0.size) (P0 : Old Z n0 h0) (P1 : Arv Z h0 ch kc .char (3 : Int32) [(.int c0), (.int c1), (.int c2)] (.int 0)) (P2 : sta1 Z (.int 1)) (P3 : sta2 Z (.int 0)) (P4 : sta3 Z (.int 8)) :
    MF l Z m_9 jdk_52_method_14_code 5 (some (.array .byte)) ws (oR 2 1 6 24) #[(.ref ch), (.int 0), (.int 3)] h0 (Q_tob3 Z c0 c1 c2 ch kc h0 n0) := by
  refine own_body (cls := "java/lang/StringUTF16") (plainFor_of_name pn_4) rfl (fun p e s m below meth c s₁ hx hby hml hown hnm hret hZ X0 e0 => ?_)
  have N0 := Fr.nil n0
  have K0 := Keep.refl h0 []
  have lt1 := own_l P1.lt
  obtain ⟨_, _, ⟨T2, L2, k2, n2⟩, -, X2, ⟨Lc2, hQ2, l2, y2, z2⟩, st2⟩ := Jvm.LawKit.callS X0 hx (y := m_8) hown (mvT hZ (w_89 hw)) (mvT hZ (w_90 hw)) (mvT hZ (w_72 hw)) (mvT hZ (w_91 hw)) (by decide) (backOf (W := 0) (rm_nbf3 l Z a0 hw []  h0 n0 (by omega) ) hZ (w_91 hw) (w_72 hw) (by decide) (by decide)) (g := (mkF m 1 #[vA ch, vI 0, vI 3, .unset, .unset] [(.int 3)])) rfl (by rw [hml]; rfl) (argsL := [(.int 3)]) (rest := []) (lenOf pd_1 rfl) rfl (Nat.le_of_eq rfl) (hb hby d108) (fun _ _ => ⟨rfl, e0, (by decide : 0 + 1 ≤ _), (by decide : 0 + 6 ≤ _)⟩)
  dsimp only [Pt.U, Pt.locs, Pt.cells, Pt.slots] at X2 l2 y2 z2 st2 hQ2
  rw [l2, y2, z2] at X2
  obtain ⟨x2_b, x2_k, rfl, Nq2, Kq2, r2_0, r2_1⟩ := hQ2
  have N2 := Fr.app N0 Nq2
  have z2' := Kq2.1
  have K2 := K0.trans Kq2 all0
  have lt3 := own_l r2_1.lt
  have f5 := P1.keep Kq2 nin0
  obtain ⟨cl4, Ar4, q4, S4, M4, H4, G4⟩ := id f5
  have hin4 : ¬ ((0 : Int32) < 0 ∨ cl4.slots.size ≤ ((0 : Int32)).toNatClampNeg) := inb_of S4 ⟨by decide, by decide⟩
  have hat4 : cl4.slots[((0 : Int32)).toNatClampNeg]? = some (.int c0) := Has.at H4 hin4 rfl
  have f7 := P0.keep Kq2 all0
  obtain ⟨_, _, ⟨T6, L6, k6, n6⟩, -, X6, ⟨Lc6, hQ6, l6, y6, z6⟩, st6⟩ := Jvm.LawKit.callS X2 hx (y := m_6) hown (mvT hZ (w_96 hw)) (mvT hZ (w_97 hw)) (mvT hZ (w_72 hw)) (mvT hZ (w_98 hw)) (by decide) (backOf (W := 0) (rm_put3_0 l Z a0 hw [] c0 x2_b x2_k T2.heap n0 (by omega) f7 r2_1 (by omega) P2 P3 P4) hZ (w_98 hw) (w_72 hw) (by decide) (by decide)) (g := (mkF m 20 #[vA ch, vI 0, vI 3, vA x2_b, vI 0] [(.int c0), (.int 0), (.ref x2_b)])) rfl (by rw [hml]; rfl) (argsL := [(.ref x2_b), (.int 0), (.int c0)]) (rest := []) (lenOf pd_2 rfl) rfl (Nat.le_of_eq rfl) (hb hby d120) (fun _ _ => ⟨rfl, rfl, (by decide : 1 + 0 ≤ _), (by decide : 6 + 0 ≤ _)⟩)
  dsimp only [Pt.U, Pt.locs, Pt.cells, Pt.slots] at X6 l6 y6 z6 st6 hQ6
  rw [l6, y6, z6] at X6
  obtain ⟨rfl, Nq6, Kq6, r6_0, r6_1⟩ := hQ6
  have N6 := Fr.app N2 Nq6
  have z6' := Kq6.1
  have K6 := K2.trans Kq6 (allS (Or.inr (by omega)) all0)
  have lt8 := own_l r6_0.lt
  have f10 := f5.keep Kq6 (ninS (own_ne (by omega)) nin0)
  obtain ⟨cl9, Ar9, q9, S9, M9, H9, G9⟩ := id f10
  have hin9 : ¬ ((1 : Int32) < 0 ∨ cl9.slots.size ≤ ((1 : Int32)).toNatClampNeg) := inb_of S9 ⟨by decide, by decide⟩
  have hat9 : cl9.slots[((1 : Int32)).toNatClampNeg]? = some (.int c1) := Has.at H9 hin9 rfl
  obtain ⟨_, _, ⟨T11, L11, k11, n11⟩, -, X11, ⟨Lc11, hQ11, l11, y11, z11⟩, st11⟩ := Jvm.LawKit.callS X6 hx (y := m_6) hown (mvT hZ (w_96 hw)) (mvT hZ (w_97 hw)) (mvT hZ (w_72 hw)) (mvT hZ (w_98 hw)) (by decide) (backOf (W := 0) (rm_put3_1 l Z a0 hw [] c0 c1 x2_b x2_k T6.heap n0 (by omega) r6_1 r6_0 (by omega) P2 P3 P4) hZ (w_98 hw) (w_72 hw) (by decide) (by decide)) (g := (mkF m 20 #[vA ch, vI 1, vI 3, vA x2_b, vI 1] [(.int c1), (.int 1), (.ref x2_b)])) rfl (by rw [hml]; rfl) (argsL := [(.ref x2_b), (.int 1), (.int c1)]) (rest := []) (lenOf pd_2 rfl) rfl (Nat.le_of_eq rfl) (hb hby d120) (fun _ _ => ⟨rfl, rfl, (by decide : 1 + 0 ≤ _), (by decide : 6 + 0 ≤ _)⟩)
  dsimp only [Pt.U, Pt.locs, Pt.cells, Pt.slots] at X11 l11 y11 z11 st11 hQ11
  rw [l11, y11, z11] at X11
  obtain ⟨rfl, Nq11, Kq11, r11_0, r11_1⟩ := hQ11
  have N11 := Fr.app N6 Nq11
  have z11' := Kq11.1
  have K11 := K6.trans Kq11 (allS (Or.inr (by omega)) all0)
  have lt12 := own_l r11_0.lt
  have f14 := f10.keep Kq11 (ninS (own_ne (by omega)) nin0)
  obtain ⟨cl13, Ar13, q13, S13, M13, H13, G13⟩ := id f14
  have hin13 : ¬ ((2 : Int32) < 0 ∨ cl13.slots.size ≤ ((2 : Int32)).toNatClampNeg) := inb_of S13 ⟨by decide, by decide⟩
  have hat13 : cl13.slots[((2 : Int32)).toNatClampNeg]? = some (.int c2) := Has.at H13 hin13 rfl
  obtain ⟨_, _, ⟨T15, L15, k15, n15⟩, -, X15, ⟨Lc15, hQ15, l15, y15, z15⟩, st15⟩ := Jvm.LawKit.callS X11 hx (y := m_6) hown (mvT hZ (w_96 hw)) (mvT hZ (w_97 hw)) (mvT hZ (w_72 hw)) (mvT hZ (w_98 hw)) (by decide) (backOf (W := 0) (rm_put3_2 l Z a0 hw [] c0 c1 c2 x2_b x2_k T11.heap n0 (by omega) r11_1 r11_0 (by omega) P2 P3 P4) hZ (w_98 hw) (w_72 hw) (by decide) (by decide)) (g := (mkF m 20 #[vA ch, vI 2, vI 3, vA x2_b, vI 2] [(.int c2), (.int 2), (.ref x2_b)])) rfl (by rw [hml]; rfl) (argsL := [(.ref x2_b), (.int 2), (.int c2)]) (rest := []) (lenOf pd_2 rfl) rfl (Nat.le_of_eq rfl) (hb hby d120) (fun _ _ => ⟨rfl, rfl, (by decide : 1 + 0 ≤ _), (by decide : 6 + 0 ≤ _)⟩)
  dsimp only [Pt.U, Pt.locs, Pt.cells, Pt.slots] at X15 l15 y15 z15 st15 hQ15
  rw [l15, y15, z15] at X15
  obtain ⟨rfl, Nq15, Kq15, r15_0, r15_1⟩ := hQ15
  have N15 := Fr.app N11 Nq15
  have z15' := Kq15.1
  have K15 := K11.trans Kq15 (allS (Or.inr (by omega)) all0)
  have lt16 := own_l r15_0.lt
  refine ⟨_, _, _, _, some (.ref x2_b), X15, by decide, by decide, nofun, ?_, fun fs hr => castTop (ef_5 m ch (0 : Int32) (3 : Int32)) ?_⟩
  · show Q_tob3 Z c0 c1 c2 ch kc h0 n0 _ T15.heap _
    exact ⟨x2_b, x2_k, rfl, N15, K15, (by omega), r15_0, r15_1⟩
  · show Steps _ _ _ (s₁.setTop (mkF m 0 #[vA ch, vI 0, vI 3, .unset, .unset] [])) _
    refine XS.iloadN X0.here hx rfl (hb hby d107) rfl ?_
    refine st2 _ ?_
    show Steps _ _ _ (T2.setTop (mkF m 4 #[vA ch, vI 0, vI 3, .unset, .unset] [(.ref x2_b)])) _
    refine XS.astoreN X2.here hx rfl (hb hby d109) rfl rfl (l' := #[vA ch, vI 0, vI 3, vA x2_b, .unset]) rfl ?_
    refine XS.iconst X2.here hx rfl (hb hby d110) ?_
    refine XS.istore X2.here hx rfl (hb hby d111) rfl (l' := #[vA ch, vI 0, vI 3, vA x2_b, vI 0]) rfl ?_
    refine XS.iload X2.here hx rfl (hb hby d112) rfl ?_
    refine XS.iloadN X2.here hx rfl (hb hby d113) rfl ?_
    refine XS.icmpNo X2.here hx rfl (hb hby d114) rfl (tlt ((by decide) : (0 : Int32) < (3 : Int32))).2.1 ?_
    refine XS.aloadN X2.here hx rfl (hb hby d115) rfl rfl ?_
    refine XS.iload X2.here hx rfl (hb hby d116) rfl ?_
    refine XS.aloadN X2.here hx rfl (hb hby d117) rfl rfl ?_
    refine XS.iloadN X2.here hx rfl (hb hby d118) rfl ?_
    refine X2.caload hx (j := (0 : Int32)) (v := (.int c0)) Ar4.1 (State.isArrayOf_alike hZ.alike Ar4.2.1) Ar4.2.2 hin4 hat4 (g := (mkF m 19 #[vA ch, vI 0, vI 3, vA x2_b, vI 0] [(.int 0), (.ref ch), (.int 0), (.ref x2_b)])) rfl rfl (hb hby d119) _ ?_
    show Steps _ _ _ (T2.setTop (mkF m 20 #[vA ch, vI 0, vI 3, vA x2_b, vI 0] [(.int c0), (.int 0), (.ref x2_b)])) _
    refine st6 _ ?_
    show Steps _ _ _ (T6.setTop (mkF m 23 #[vA ch, vI 0, vI 3, vA x2_b, vI 0] [])) _
    refine XS.iinc X6.here hx rfl (hb hby d121) rfl (l' := #[vA ch, vI 1, vI 3, vA x2_b, vI 0]) rfl ?_
    refine XS.iinc X6.here hx rfl (hb hby d122) rfl (l' := #[vA ch, vI 1, vI 3, vA x2_b, vI 1]) rfl ?_
    refine XS.goto X6.here hx rfl (pc0 := 29) (pc' := 8) rfl (hb hby d123) (by decide) (by decide) ?_
    refine XS.iload X6.here hx rfl (hb hby d112) rfl ?_
    refine XS.iloadN X6.here hx rfl (hb hby d113) rfl ?_
    refine XS.icmpNo X6.here hx rfl (hb hby d114) rfl (tlt ((by decide) : (1 : Int32) < (3 : Int32))).2.1 ?_
    refine XS.aloadN X6.here hx rfl (hb hby d115) rfl rfl ?_
    refine XS.iload X6.here hx rfl (hb hby d116) rfl ?_
    refine XS.aloadN X6.here hx rfl (hb hby d117) rfl rfl ?_
    refine XS.iloadN X6.here hx rfl (hb hby d118) rfl ?_
    refine X6.caload hx (j := (1 : Int32)) (v := (.int c1)) Ar9.1 (State.isArrayOf_alike hZ.alike Ar9.2.1) Ar9.2.2 hin9 hat9 (g := (mkF m 19 #[vA ch, vI 1, vI 3, vA x2_b, vI 1] [(.int 1), (.ref ch), (.int 1), (.ref x2_b)])) rfl rfl (hb hby d119) _ ?_
    show Steps _ _ _ (T6.setTop (mkF m 20 #[vA ch, vI 1, vI 3, vA x2_b, vI 1] [(.int c1), (.int 1), (.ref x2_b)])) _
    refine st11 _ ?_
    show Steps _ _ _ (T11.setTop (mkF m 23 #[vA ch, vI 1, vI 3, vA x2_b, vI 1] [])) _
    refine XS.iinc X11.here hx rfl (hb hby d121) rfl (l' := #[vA ch, vI 2, vI 3, vA x2_b, vI 1]) rfl ?_
    refine XS.iinc X11.here hx rfl (hb hby d122) rfl (l' := #[vA ch, vI 2, vI 3, vA x2_b, vI 2]) rfl ?_
    refine XS.goto X11.here hx rfl (pc0 := 29) (pc' := 8) rfl (hb hby d123) (by decide) (by decide) ?_
    refine XS.iload X11.here hx rfl (hb hby d112) rfl ?_
    refine XS.iloadN X11.here hx rfl (hb hby d113) rfl ?_
    refine XS.icmpNo X11.here hx rfl (hb hby d114) rfl (tlt ((by decide) : (2 : Int32) < (3 : Int32))).2.1 ?_
    refine XS.aloadN X11.here hx rfl (hb hby d115) rfl rfl ?_
    refine XS.iload X11.here hx rfl (hb hby d116) rfl ?_
    refine XS.aloadN X11.here hx rfl (hb hby d117) rfl rfl ?_
    refine XS.iloadN X11.here hx rfl (hb hby d118) rfl ?_
    refine X11.caload hx (j := (2 : Int32)) (v := (.int c2)) Ar13.1 (State.isArrayOf_alike hZ.alike Ar13.2.1) Ar13.2.2 hin13 hat13 (g := (mkF m 19 #[vA ch, vI 2, vI 3, vA x2_b, vI 2] [(.int 2), (.ref ch), (.int 2), (.ref x2_b)])) rfl rfl (hb hby d119) _ ?_
    show Steps _ _ _ (T11.setTop (mkF m 20 #[vA ch, vI 2, vI 3, vA x2_b, vI 2] [(.int c2), (.int 2), (.ref x2_b)])) _
    refine st15 _ ?_
    show Steps _ _ _ (T15.setTop (mkF m 23 #[vA ch, vI 2, vI 3, vA x2_b, vI 2] [])) _
    refine XS.iinc X15.here hx rfl (hb hby d121) rfl (l' := #[vA ch, vI 3, vI 3, vA x2_b, vI 2]) rfl ?_
    refine XS.iinc X15.here hx rfl (hb hby d122) rfl (l' := #[vA ch, vI 3, vI 3, vA x2_b, vI 3]) rfl ?_
    refine XS.goto X15.here hx rfl (pc0 := 29) (pc' := 8) rfl (hb hby d123) (by decide) (by decide) ?_
    refine XS.iload X15.here hx rfl (hb hby d112) rfl ?_
    refine XS.iloadN X15.here hx rfl (hb hby d113) rfl ?_
    refine XS.icmpYes X15.here hx rfl (pc0 := 11) (pc' := 32) rfl (hb hby d114) rfl (flt ((by decide) : ¬ ((3 : Int32) < (3 : Int32)))).2.1 (by decide) (by decide) ?_
    refine XS.aloadN X15.here hx rfl (hb hby d124) rfl rfl ?_
    exact retOut X15 hx hret (own_narrow_ref rfl) (Or.inr (Or.inr (Or.inr (Or.inr ⟨rfl, rfl, rfl⟩)))) (hb hby d125) hr
theorem d126 : decode jdk_52_method_21_code 0 = .ok (.iconst 0, 1) := by decide +kernel
theorem d127 : decode jdk_52_method_21_code 1 = .ok (.istore 5, 2) := by decide +kernel
theorem d128 : decode jdk_52_method_21_code 3 = .ok (.iload 5, 2) := by decide +kernel
theorem d129 : decode jdk_52_method_21_code 5 = .ok (.iload 4, 2) := by decide +kernel
theorem d130 : decode jdk_52_method_21_code 7 = .ok (.if_icmp .ge 37, 3) := by decide +kernel
theorem d131 : decode jdk_52_method_21_code 10 = .ok (.aload_n 0, 1) := by decide +kernel
theorem d132 : decode jdk_52_method_21_code 11 = .ok (.iload_n 1, 1) := by decide +kernel
theorem d133 : decode jdk_52_method_21_code 12 = .ok (.caload, 1) := by decide +kernel
theorem d134 : decode jdk_52_method_21_code 13 = .ok (.istore 6, 2) := by decide +kernel
theorem d135 : decode jdk_52_method_21_code 15 = .ok (.iload 6, 2) := by decide +kernel
theorem d136 : decode jdk_52_method_21_code 17 = .ok (.sipush 255, 3) := by decide +kernel
theorem d137 : decode jdk_52_method_21_code 20 = .ok (.if_icmp .le 6, 3) := by decide +kernel
theorem d138 : decode jdk_52_method_21_code 23 = .ok (.iload 5, 2) := by decide +kernel
theorem d139 : decode jdk_52_method_21_code 25 = .ok (.ireturn, 1) := by decide +kernel
theorem ef_6 (m : MethodId) (x0 : Addr) (x1 : Int32) (x2 : Addr) (x3 : Int32) (x4 : Int32) : entryFrame m #[(.ref x0), (.int x1), (.ref x2), (.int x3), (.int x4)] 7 = mkF m 0 #[vA x0, vI x1, vA x2, vI x3, vI x4, .unset, .unset] [] := by first | (simp [entryFrame, mkF, argsToLocals, Value.category, maxLocals]; done) | rfl
abbrev m_10 : MethodName := (⟨"java/lang/StringUTF16", "compress", "([CI[BII)I"⟩ : MethodName)
def Q_cm5_1_0 (Z : State) (c0 : Int32) (ch : Addr) (kc : ClassId) (b : Addr) (k : ClassId) (h0 : Heap) (n0 : Nat) (v : Option Value) (h : Heap) (L : List Loc) : Prop := (v = some (.int 0)) ∧ (Fr n0 L) ∧ (Keep h0 h [b]) ∧ (Arv Z h b k .byte (1 : Int32) [(.int 0)] (.int 0))
theorem rm_cm5_1_0 (l : Launch) (Z : State) (a0 : Array Value) (hw : HW Z a0) (ws : List Jvm.Cond) (c0 : Int32) (ch : Addr) (kc : ClassId) (b : Addr) (k : ClassId) (h0 : Heap) (n0 : Nat) (Z0 : n0 ≤ h0.size) (P0 : Arv Z h0 ch kc .char (1 : Int32) [(.int c0)] (.int 0)) (P1 : Arv Z h0 b k .byte (1 : Int32) [(.int 0)] (.int 0)) (P2 : n0 ≤ b) (P3 : ch ≠ b) (hgt : (255 : Int32) < c0) :
    MF l Z m_10 jdk_52_method_21_code 7 (some .int) ws (oR 0 0 0 0) #[(.ref ch), (.int 0), (.ref b), (.int 0), (.int 1)] h0 (Q_cm5_1_0 Z c0 ch kc b k h0 n0) := by
  refine own_body (cls := "java/lang/StringUTF16") (plainFor_of_name pn_4) rfl (fun p e s m below meth c s₁ hx hby hml hown hnm hret hZ X0 e0 => ?_)
  have N0 := Fr.nil n0
  have K0 := Keep.refl h0 [b]
  have lt1 := own_l P0.lt
  have lt2 := own_l P1.lt
  obtain ⟨cl3, Ar3, q3, S3, M3, H3, G3⟩ := id P0
  have hin3 : ¬ ((0 : Int32) < 0 ∨ cl3.slots.size ≤ ((0 : Int32)).toNatClampNeg) := inb_of S3 ⟨by decide, by decide⟩
  have hat3 : cl3.slots[((0 : Int32)).toNatClampNeg]? = some (.int c0) := Has.at H3 hin3 rfl
  refine ⟨_, _, _, _, some (.int 0), X0, by decide, by decide, nofun, ?_, fun fs hr => castTop (ef_6 m ch (0 : Int32) b (0 : Int32) (1 : Int32)) ?_⟩
  · show Q_cm5_1_0 Z c0 ch kc b k h0 n0 _ s₁.heap _
    rw [(e0 : s₁.heap = h0)]
    exact ⟨rfl, N0, K0, P1⟩
  · show Steps _ _ _ (s₁.setTop (mkF m 0 #[vA ch, vI 0, vA b, vI 0, vI 1, .unset, .unset] [])) _
    refine XS.iconst X0.here hx rfl (hb hby d126) ?_
    refine XS.istore X0.here hx rfl (hb hby d127) rfl (l' := #[vA ch, vI 0, vA b, vI 0, vI 1, vI 0, .unset]) rfl ?_
    refine XS.iload X0.here hx rfl (hb hby d128) rfl ?_
    refine XS.iload X0.here hx rfl (hb hby d129) rfl ?_
    refine XS.icmpNo X0.here hx rfl (hb hby d130) rfl (tlt ((by decide) : (0 : Int32) < (1 : Int32))).2.1 ?_
    refine XS.aloadN X0.here hx rfl (hb hby d131) rfl rfl ?_
    refine XS.iloadN X0.here hx rfl (hb hby d132) rfl ?_
    refine X0.caload hx (j := (0 : Int32)) (v := (.int c0)) (by rw [e0]; exact Ar3.1) (State.isArrayOf_alike hZ.alike Ar3.2.1) Ar3.2.2 hin3 hat3 (g := (mkF m 12 #[vA ch, vI 0, vA b, vI 0, vI 1, vI 0, .unset] [(.int 0), (.ref ch)])) rfl rfl (hb hby d133) _ ?_
    show Steps _ _ _ (s₁.setTop (mkF m 13 #[vA ch, vI 0, vA b, vI 0, vI 1, vI 0, .unset] [(.int c0)])) _
    refine XS.istore X0.here hx rfl (hb hby d134) rfl (l' := #[vA ch, vI 0, vA b, vI 0, vI 1, vI 0, vI c0]) rfl ?_
    refine XS.iload X0.here hx rfl (hb hby d135) rfl ?_
    refine XS.sipush X0.here hx rfl (hb hby d136) ?_
    refine XS.icmpNo X0.here hx rfl (hb hby d137) rfl (tlt (hgt : (255 : Int32) < c0)).2.2.2 ?_
    refine XS.iload X0.here hx rfl (hb hby d138) rfl ?_
    exact retI X0 hx hret (hb hby d139) hr
theorem d140 : decode jdk_52_method_16_code 0 = .ok (.iload_n 2, 1) := by decide +kernel
theorem d141 : decode jdk_52_method_16_code 1 = .ok (.newarray .byte, 2) := by decide +kernel
theorem d142 : decode jdk_52_method_16_code 3 = .ok (.astore_n 3, 1) := by decide +kernel
theorem d143 : decode jdk_52_method_16_code 4 = .ok (.aload_n 0, 1) := by decide +kernel
theorem d144 : decode jdk_52_method_16_code 5 = .ok (.iload_n 1, 1) := by decide +kernel
theorem d145 : decode jdk_52_method_16_code 6 = .ok (.aload_n 3, 1) := by decide +kernel
theorem d146 : decode jdk_52_method_16_code 7 = .ok (.iconst 0, 1) := by decide +kernel
theorem d147 : decode jdk_52_method_16_code 8 = .ok (.iload_n 2, 1) := by decide +kernel
theorem w_74 {Z : State} {a0 : Array Value} (hw : HW Z a0) : (Jvm.Cond.methodLink "java/lang/StringUTF16" (115 : Nat) m_10).before a0 Z = true := hw _ (List.mem_of_getElem? (i := 74) rfl)
theorem w_76 {Z : State} {a0 : Array Value} (hw : HW Z a0) : (Jvm.Cond.code m_10 jdk_52_method_21_code (7 : Nat) (Option.some FieldType.int)).before a0 Z = true := hw _ (List.mem_of_getElem? (i := 76) rfl)
theorem pd_3 : parseMethodDescriptor "([CI[BII)I" = some ⟨[(.array .char), .int, (.array .byte), .int, .int], some .int⟩ := by decide +kernel
theorem d148 : decode jdk_52_method_16_code 9 = .ok (.invokestatic 115, 3) := by decide +kernel
theorem w_75 {Z : State} {a0 : Array Value} (hw : HW Z a0) : (Jvm.Cond.static m_10).before a0 Z = true := hw _ (List.mem_of_getElem? (i := 75) rfl)
theorem d149 : decode jdk_52_method_16_code 12 = .ok (.istore 4, 2) := by decide +kernel
theorem d150 : decode jdk_52_method_16_code 14 = .ok (.iload 4, 2) := by decide +kernel
theorem d151 : decode jdk_52_method_16_code 16 = .ok (.iload_n 2, 1) := by decide +kernel
theorem d152 : decode jdk_52_method_16_code 17 = .ok (.if_icmp .eq 40, 3) := by decide +kernel
theorem d153 : decode jdk_52_method_16_code 20 = .ok (.aload_n 0, 1) := by decide +kernel
theorem d154 : decode jdk_52_method_16_code 21 = .ok (.iload_n 1, 1) := by decide +kernel
theorem d155 : decode jdk_52_method_16_code 22 = .ok (.iload_n 2, 1) := by decide +kernel
theorem w_86 {Z : State} {a0 : Array Value} (hw : HW Z a0) : (Jvm.Cond.methodLink "java/lang/StringUTF16" (119 : Nat) m_9).before a0 Z = true := hw _ (List.mem_of_getElem? (i := 86) rfl)
theorem w_88 {Z : State} {a0 : Array Value} (hw : HW Z a0) : (Jvm.Cond.code m_9 jdk_52_method_14_code (5 : Nat) (Option.some (FieldType.array FieldType.byte))).before a0 Z = true := hw _ (List.mem_of_getElem? (i := 88) rfl)
theorem pd_4 : parseMethodDescriptor "([CII)[B" = some ⟨[(.array .char), .int, .int], some (.array .byte)⟩ := by decide +kernel
theorem d156 : decode jdk_52_method_16_code 23 = .ok (.invokestatic 119, 3) := by decide +kernel
theorem w_87 {Z : State} {a0 : Array Value} (hw : HW Z a0) : (Jvm.Cond.static m_9).before a0 Z = true := hw _ (List.mem_of_getElem? (i := 87) rfl)
theorem d157 : decode jdk_52_method_16_code 26 = .ok (.astore 5, 2) := by decide +kernel
theorem d158 : decode jdk_52_method_16_code 28 = .ok (.aload 5, 2) := by decide +kernel
theorem d159 : decode jdk_52_method_16_code 30 = .ok (.iload 4, 2) := by decide +kernel
theorem w_102 {Z : State} {a0 : Array Value} (hw : HW Z a0) : (Jvm.Cond.methodLink "java/lang/StringUTF16" (71 : Nat) m_5).before a0 Z = true := hw _ (List.mem_of_getElem? (i := 102) rfl)
theorem w_104 {Z : State} {a0 : Array Value} (hw : HW Z a0) : (Jvm.Cond.code m_5 jdk_52_method_5_code (2 : Nat) (Option.some FieldType.char)).before a0 Z = true := hw _ (List.mem_of_getElem? (i := 104) rfl)
theorem pd_5 : parseMethodDescriptor "([BI)C" = some ⟨[(.array .byte), .int], some .char⟩ := by decide +kernel
theorem d160 : decode jdk_52_method_16_code 32 = .ok (.invokestatic 71, 3) := by decide +kernel
theorem w_103 {Z : State} {a0 : Array Value} (hw : HW Z a0) : (Jvm.Cond.static m_5).before a0 Z = true := hw _ (List.mem_of_getElem? (i := 103) rfl)
theorem d161 : decode jdk_52_method_16_code 35 = .ok (.sipush 255, 3) := by decide +kernel
theorem d162 : decode jdk_52_method_16_code 38 = .ok (.if_icmp .gt 16, 3) := by decide +kernel
theorem d163 : decode jdk_52_method_16_code 54 = .ok (.aload 5, 2) := by decide +kernel
theorem d164 : decode jdk_52_method_16_code 56 = .ok (.areturn, 1) := by decide +kernel
theorem ef_7 (m : MethodId) (x0 : Addr) (x1 : Int32) (x2 : Int32) : entryFrame m #[(.ref x0), (.int x1), (.int x2)] 6 = mkF m 0 #[vA x0, vI x1, vI x2, .unset, .unset, .unset] [] := by first | (simp [entryFrame, mkF, argsToLocals, Value.category, maxLocals]; done) | rfl
abbrev m_11 : MethodName := (⟨"java/lang/StringUTF16", "compress", "([CII)[B"⟩ : MethodName)
def Q_cm3_1_0 (Z : State) (c0 : Int32) (ch : Addr) (kc : ClassId) (h0 : Heap) (n0 : Nat) (v : Option Value) (h : Heap) (L : List Loc) : Prop := ∃ (b : Addr) (k : ClassId), (v = some (.ref b)) ∧ (Fr n0 L) ∧ (Keep h0 h []) ∧ (h0.size ≤ b) ∧ (Arv Z h b k .byte (2 : Int32) [(.int (oL c0)), (.int (oH c0))] (.int 0)) ∧ (Old Z n0 h)
theorem rm_cm3_1_0 (l : Launch) (Z : State) (a0 : Array Value) (hw : HW Z a0) (ws : List Jvm.Cond) (c0 : Int32) (ch : Addr) (kc : ClassId) (h0 : Heap) (n0 : Nat) (Z0 : n0 ≤ h0.size) (P0 : Old Z n0 h0) (P1 : Arv Z h0 ch kc .char (1 : Int32) [(.int c0)] (.int 0)) (P2 : sta1 Z (.int 1)) (P3 : sta2 Z (.int 0)) (P4 : sta3 Z (.int 8)) (hgt : (255 : Int32) < c0) (r0 : ¬ c0 < 0 ∧ ¬ (65535 : Int32) < c0) :
    MF l Z m_11 jdk_52_method_16_code 6 (some (.array .byte)) ws (oR 3 2 3 40) #[(.ref ch), (.int 0), (.int 1)] h0 (Q_cm3_1_0 Z c0 ch kc h0 n0) := by
  refine own_body (cls := "java/lang/StringUTF16") (plainFor_of_name pn_4) rfl (fun p e s m below meth c s₁ hx hby hml hown hnm hret hZ X0 e0 => ?_)
  have N0 := Fr.nil n0
  have K0 := Keep.refl h0 []
  have lt1 := own_l P1.lt
  obtain ⟨T2, h2, k2, X2, e2, E2, A2, st2⟩ := newP X0 hx hZ (aty := .byte) (w_19 hw) e0 (g := (mkF m 1 #[vA ch, vI 0, vI 1, .unset, .unset, .unset] [(.int 1)])) rfl (hb hby d141) rfl (by decide) (cap := 1) (by decide) (by decide) (by decide) (by decide)
  obtain ⟨b2, g2⟩ : ∃ z, z = h0.size := ⟨_, rfl⟩
  rw [← g2] at A2 st2
  have z2 := E2.1
  have K2 := K0.ext E2
  have V2 : Arv Z h2 b2 k2 .byte (1 : Int32) [(.int 0)] (.int 0) := (Arv.new A2 (by decide)).pad (pad_rep [] (.int 0) 1)
  have lt3 := own_l V2.lt
  have f5 := P1.ext E2
  obtain ⟨_, _, ⟨T4, L4, k4, n4⟩, -, X4, ⟨Lc4, hQ4, l4, y4, z4⟩, st4⟩ := Jvm.LawKit.callS X2 hx (y := m_10) hown (mvT hZ (w_74 hw)) (mvT hZ (w_75 hw)) (mvT hZ (w_72 hw)) (mvT hZ (w_76 hw)) (by decide) (backOf (W := 0) (rm_cm5_1_0 l Z a0 hw [] c0 ch kc b2 k2 h2 n0 (by omega) f5 V2 (by omega) (own_ne (by omega)) hgt) hZ (w_76 hw) (w_72 hw) (by decide) (by decide)) (g := (mkF m 9 #[vA ch, vI 0, vI 1, vA b2, .unset, .unset] [(.int 1), (.int 0), (.ref b2), (.int 0), (.ref ch)])) rfl (by rw [hml]; rfl) (argsL := [(.ref ch), (.int 0), (.ref b2), (.int 0), (.int 1)]) (rest := []) (lenOf pd_3 rfl) rfl (Nat.le_of_eq rfl) (hb hby d148) (fun _ _ => ⟨rfl, e2, (by decide : 1 + 0 ≤ _), (by decide : 1 + 0 ≤ _)⟩)
  dsimp only [Pt.U, Pt.locs, Pt.cells, Pt.slots] at X4 l4 y4 z4 st4 hQ4
  rw [l4, y4, z4] at X4
  obtain ⟨rfl, Nq4, Kq4, r4_0⟩ := hQ4
  have N4 := Fr.app N0 Nq4
  have z4' := Kq4.1
  have K4 := K2.trans Kq4 (allS (Or.inr (by omega)) all0)
  have lt6 := own_l r4_0.lt
  have f8 := P0.ext E2
  have f9 := f8.keep Kq4 (allS (by omega) all0)
  have f10 := f5.keep Kq4 (ninS (own_ne (by omega)) nin0)
  obtain ⟨_, _, ⟨T7, L7, k7, n7⟩, -, X7, ⟨Lc7, hQ7, l7, y7, z7⟩, st7⟩ := Jvm.LawKit.callS X4 hx (y := m_9) hown (mvT hZ (w_86 hw)) (mvT hZ (w_87 hw)) (mvT hZ (w_72 hw)) (mvT hZ (w_88 hw)) (by decide) (backOf (W := 0) (rm_tob1 l Z a0 hw [] c0 ch kc T4.heap n0 (by omega) f9 f10 P2 P3 P4) hZ (w_88 hw) (w_72 hw) (by decide) (by decide)) (g := (mkF m 23 #[vA ch, vI 0, vI 1, vA b2, vI 0, .unset] [(.int 1), (.int 0), (.ref ch)])) rfl (by rw [hml]; rfl) (argsL := [(.ref ch), (.int 0), (.int 1)]) (rest := []) (lenOf pd_4 rfl) rfl (Nat.le_of_eq rfl) (hb hby d156) (fun _ _ => ⟨rfl, rfl, (by decide : 1 + 1 ≤ _), (by decide : 1 + 2 ≤ _)⟩)
  dsimp only [Pt.U, Pt.locs, Pt.cells, Pt.slots] at X7 l7 y7 z7 st7 hQ7
  rw [l7, y7, z7] at X7
  obtain ⟨x7_b, x7_k, rfl, Nq7, Kq7, r7_0, r7_1, r7_2⟩ := hQ7
  have N7 := Fr.app N4 Nq7
  have z7' := Kq7.1
  have K7 := K4.trans Kq7 all0
  have lt11 := own_l r7_1.lt
  obtain ⟨_, _, ⟨T12, L12, k12, n12⟩, -, X12, ⟨Lc12, hQ12, l12, y12, z12⟩, st12⟩ := Jvm.LawKit.callS X7 hx (y := m_5) hown (mvT hZ (w_102 hw)) (mvT hZ (w_103 hw)) (mvT hZ (w_72 hw)) (mvT hZ (w_104 hw)) (by decide) (backOf (W := 0) (rm_get1_0 l Z a0 hw [] c0 x7_b x7_k T7.heap n0 (by omega) r7_2 r7_1 P2 P3 P4 r0) hZ (w_104 hw) (w_72 hw) (by decide) (by decide)) (g := (mkF m 32 #[vA ch, vI 0, vI 1, vA b2, vI 0, vA x7_b] [(.int 0), (.ref x7_b)])) rfl (by rw [hml]; rfl) (argsL := [(.ref x7_b), (.int 0)]) (rest := []) (lenOf pd_5 rfl) rfl (Nat.le_of_eq rfl) (hb hby d160) (fun _ _ => ⟨rfl, rfl, (by decide : 2 + 0 ≤ _), (by decide : 3 + 0 ≤ _)⟩)
  dsimp only [Pt.U, Pt.locs, Pt.cells, Pt.slots] at X12 l12 y12 z12 st12 hQ12
  rw [l12, y12, z12] at X12
  obtain ⟨rfl, Nq12, Kq12⟩ := hQ12
  have N12 := Fr.app N7 Nq12
  refine ⟨_, _, _, _, some (.ref x7_b), X12, by decide, by decide, nofun, ?_, fun fs hr => castTop (ef_7 m ch (0 : Int32) (1 : Int32)) ?_⟩
  · show Q_cm3_1_0 Z c0 ch kc h0 n0 _ T12.heap _
    rw [(Kq12 : T12.heap = T7.heap)]
    exact ⟨x7_b, x7_k, rfl, N12, K7, (by omega), r7_1, r7_2⟩
  · show Steps _ _ _ (s₁.setTop (mkF m 0 #[vA ch, vI 0, vI 1, .unset, .unset, .unset] [])) _
    refine XS.iloadN X0.here hx rfl (hb hby d140) rfl ?_
    refine st2 _ ?_
    show Steps _ _ _ (T2.setTop (mkF m 3 #[vA ch, vI 0, vI 1, .unset, .unset, .unset] [(.ref b2)])) _
    refine XS.astoreN X2.here hx rfl (hb hby d142) rfl rfl (l' := #[vA ch, vI 0, vI 1, vA b2, .unset, .unset]) rfl ?_
    refine XS.aloadN X2.here hx rfl (hb hby d143) rfl rfl ?_
    refine XS.iloadN X2.here hx rfl (hb hby d144) rfl ?_
    refine XS.aloadN X2.here hx rfl (hb hby d145) rfl rfl ?_
    refine XS.iconst X2.here hx rfl (hb hby d146) ?_
    refine XS.iloadN X2.here hx rfl (hb hby d147) rfl ?_
    refine st4 _ ?_
    show Steps _ _ _ (T4.setTop (mkF m 12 #[vA ch, vI 0, vI 1, vA b2, .unset, .unset] [(.int 0)])) _
    refine XS.istore X4.here hx rfl (hb hby d149) rfl (l' := #[vA ch, vI 0, vI 1, vA b2, vI 0, .unset]) rfl ?_
    refine XS.iload X4.here hx rfl (hb hby d150) rfl ?_
    refine XS.iloadN X4.here hx rfl (hb hby d151) rfl ?_
    refine XS.icmpNo X4.here hx rfl (hb hby d152) rfl (feq ((by decide) : ¬ ((0 : Int32) = (1 : Int32)))).1 ?_
    refine XS.aloadN X4.here hx rfl (hb hby d153) rfl rfl ?_
    refine XS.iloadN X4.here hx rfl (hb hby d154) rfl ?_
    refine XS.iloadN X4.here hx rfl (hb hby d155) rfl ?_
    refine st7 _ ?_
    show Steps _ _ _ (T7.setTop (mkF m 26 #[vA ch, vI 0, vI 1, vA b2, vI 0, .unset] [(.ref x7_b)])) _
    refine XS.astore X7.here hx rfl (hb hby d157) rfl rfl (l' := #[vA ch, vI 0, vI 1, vA b2, vI 0, vA x7_b]) rfl ?_
    refine XS.aload X7.here hx rfl (hb hby d158) rfl rfl ?_
    refine XS.iload X7.here hx rfl (hb hby d159) rfl ?_
    refine st12 _ ?_
    show Steps _ _ _ (T12.setTop (mkF m 35 #[vA ch, vI 0, vI 1, vA b2, vI 0, vA x7_b] [(.int c0)])) _
    refine XS.sipush X12.here hx rfl (hb hby d161) ?_
    refine XS.icmpYes X12.here hx rfl (pc0 := 38) (pc' := 54) rfl (hb hby d162) rfl (tlt (hgt : (255 : Int32) < c0)).2.2.1 (by decide) (by decide) ?_
    refine XS.aload X12.here hx rfl (hb hby d163) rfl rfl ?_
    exact retOut X12 hx hret (own_narrow_ref rfl) (Or.inr (Or.inr (Or.inr (Or.inr ⟨rfl, rfl, rfl⟩)))) (hb hby d164) hr
theorem d165 : decode jdk_52_method_21_code 26 = .ok (.aload_n 2, 1) := by decide +kernel
theorem d166 : decode jdk_52_method_21_code 27 = .ok (.iload_n 3, 1) := by decide +kernel
theorem d167 : decode jdk_52_method_21_code 28 = .ok (.iload 6, 2) := by decide +kernel
theorem d168 : decode jdk_52_method_21_code 30 = .ok (.i2b, 1) := by decide +kernel
theorem d169 : decode jdk_52_method_21_code 31 = .ok (.bastore, 1) := by decide +kernel
theorem d170 : decode jdk_52_method_21_code 32 = .ok (.iinc 1 1, 3) := by decide +kernel
theorem d171 : decode jdk_52_method_21_code 35 = .ok (.iinc 3 1, 3) := by decide +kernel
theorem d172 : decode jdk_52_method_21_code 38 = .ok (.iinc 5 1, 3) := by decide +kernel
theorem d173 : decode jdk_52_method_21_code 41 = .ok (.goto (-38), 3) := by decide +kernel
theorem d174 : decode jdk_52_method_21_code 44 = .ok (.iload 4, 2) := by decide +kernel
theorem d175 : decode jdk_52_method_21_code 46 = .ok (.ireturn, 1) := by decide +kernel
def Q_cm5_1_1 (Z : State) (c0 : Int32) (ch : Addr) (kc : ClassId) (b : Addr) (k : ClassId) (h0 : Heap) (n0 : Nat) (v : Option Value) (h : Heap) (L : List Loc) : Prop := (v = some (.int 1)) ∧ (Fr n0 L) ∧ (Keep h0 h [b]) ∧ (Arv Z h b k .byte (1 : Int32) [(.int (oB c0))] (.int 0))
theorem rm_cm5_1_1 (l : Launch) (Z : State) (a0 : Array Value) (hw : HW Z a0) (ws : List Jvm.Cond) (c0 : Int32) (ch : Addr) (kc : ClassId) (b : Addr) (k : ClassId) (h0 : Heap) (n0 : Nat) (Z0 : n0 ≤ h0.size) (P0 : Arv Z h0 ch kc .char (1 : Int32) [(.int c0)] (.int 0)) (P1 : Arv Z h0 b k .byte (1 : Int32) [(.int 0)] (.int 0)) (P2 : n0 ≤ b) (P3 : ch ≠ b) (hl0 : ¬ ((255 : Int32) < c0)) :
    MF l Z m_10 jdk_52_method_21_code 7 (some .int) ws (oR 0 0 0 0) #[(.ref ch), (.int 0), (.ref b), (.int 0), (.int 1)] h0 (Q_cm5_1_1 Z c0 ch kc b k h0 n0) := by
  refine own_body (cls := "java/lang/StringUTF16") (plainFor_of_name pn_4) rfl (fun p e s m below meth c s₁ hx hby hml hown hnm hret hZ X0 e0 => ?_)
  have N0 := Fr.nil n0
  have K0 := Keep.refl h0 [b]
  have lt1 := own_l P0.lt
  have lt2 := own_l P1.lt
  obtain ⟨cl3, Ar3, q3, S3, M3, H3, G3⟩ := id P0
  have hin3 : ¬ ((0 : Int32) < 0 ∨ cl3.slots.size ≤ ((0 : Int32)).toNatClampNeg) := inb_of S3 ⟨by decide, by decide⟩
  have hat3 : cl3.slots[((0 : Int32)).toNatClampNeg]? = some (.int c0) := Has.at H3 hin3 rfl
  obtain ⟨cl4, Ar4, q4, S4, M4, H4, G4⟩ := id P1
  have hin4 : ¬ ((0 : Int32) < 0 ∨ cl4.slots.size ≤ ((0 : Int32)).toNatClampNeg) := inb_of S4 ⟨by decide, by decide⟩
  obtain ⟨T4, h4, X4, e4, W4, st4⟩ := stB X0 hx hZ e0 Ar4 (j := (0 : Int32)) hin4 (g := (mkF m 31 #[vA ch, vI 0, vA b, vI 0, vI 1, vI 0, vI c0] [(.int (c0.toInt8.toInt32)), (.int 0), (.ref b)])) rfl rfl (hb hby d169)
  have V4 : Arv Z h4 b k .byte (1 : Int32) [(.int (nar .byte (c0.toInt8.toInt32)))] (.int 0) := Arv.set Ar4 q4 S4 M4 H4 G4 (fits_nar_byte (c0.toInt8.toInt32)) W4 0 rfl (Nat.le_of_ble_eq_true rfl)
  have z4 := W4.size
  have K4 := K0.wr W4 (Or.inl (List.mem_of_getElem? (i := 0) rfl))
  have N4 := Fr.snoc X4 N0 (by omega)
  refine ⟨_, _, _, _, some (.int 1), X4, by decide, by decide, nofun, ?_, fun fs hr => castTop (ef_6 m ch (0 : Int32) b (0 : Int32) (1 : Int32)) ?_⟩
  · show Q_cm5_1_1 Z c0 ch kc b k h0 n0 _ T4.heap _
    rw [(e4 : T4.heap = h4)]
    exact ⟨rfl, N4, K4, V4⟩
  · show Steps _ _ _ (s₁.setTop (mkF m 0 #[vA ch, vI 0, vA b, vI 0, vI 1, .unset, .unset] [])) _
    refine XS.iconst X0.here hx rfl (hb hby d126) ?_
    refine XS.istore X0.here hx rfl (hb hby d127) rfl (l' := #[vA ch, vI 0, vA b, vI 0, vI 1, vI 0, .unset]) rfl ?_
    refine XS.iload X0.here hx rfl (hb hby d128) rfl ?_
    refine XS.iload X0.here hx rfl (hb hby d129) rfl ?_
    refine XS.icmpNo X0.here hx rfl (hb hby d130) rfl (tlt ((by decide) : (0 : Int32) < (1 : Int32))).2.1 ?_
    refine XS.aloadN X0.here hx rfl (hb hby d131) rfl rfl ?_
    refine XS.iloadN X0.here hx rfl (hb hby d132) rfl ?_
    refine X0.caload hx (j := (0 : Int32)) (v := (.int c0)) (by rw [e0]; exact Ar3.1) (State.isArrayOf_alike hZ.alike Ar3.2.1) Ar3.2.2 hin3 hat3 (g := (mkF m 12 #[vA ch, vI 0, vA b, vI 0, vI 1, vI 0, .unset] [(.int 0), (.ref ch)])) rfl rfl (hb hby d133) _ ?_
    show Steps _ _ _ (s₁.setTop (mkF m 13 #[vA ch, vI 0, vA b, vI 0, vI 1, vI 0, .unset] [(.int c0)])) _
    refine XS.istore X0.here hx rfl (hb hby d134) rfl (l' := #[vA ch, vI 0, vA b, vI 0, vI 1, vI 0, vI c0]) rfl ?_
    refine XS.iload X0.here hx rfl (hb hby d135) rfl ?_
    refine XS.sipush X0.here hx rfl (hb hby d136) ?_
    refine XS.icmpYes X0.here hx rfl (pc0 := 20) (pc' := 26) rfl (hb hby d137) rfl (flt (hl0 : ¬ ((255 : Int32) < c0))).2.2.2 (by decide) (by decide) ?_
    refine XS.aloadN X0.here hx rfl (hb hby d165) rfl rfl ?_
    refine XS.iloadN X0.here hx rfl (hb hby d166) rfl ?_
    refine XS.iload X0.here hx rfl (hb hby d167) rfl ?_
    refine XS.i2b X0.here hx rfl (hb hby d168) rfl ?_
    refine st4 _ ?_
    show Steps _ _ _ (T4.setTop (mkF m 32 #[vA ch, vI 0, vA b, vI 0, vI 1, vI 0, vI c0] [])) _
    refine XS.iinc X4.here hx rfl (hb hby d170) rfl (l' := #[vA ch, vI 1, vA b, vI 0, vI 1, vI 0, vI c0]) rfl ?_
    refine XS.iinc X4.here hx rfl (hb hby d171) rfl (l' := #[vA ch, vI 1, vA b, vI 1, vI 1, vI 0, vI c0]) rfl ?_
    refine XS.iinc X4.here hx rfl (hb hby d172) rfl (l' := #[vA ch, vI 1, vA b, vI 1, vI 1, vI 1, vI c0]) rfl ?_
    refine XS.goto X4.here hx rfl (pc0 := 41) (pc' := 3) rfl (hb hby d173) (by decide) (by decide) ?_
    refine XS.iload X4.here hx rfl (hb hby d128) rfl ?_
    refine XS.iload X4.here hx rfl (hb hby d129) rfl ?_
    refine XS.icmpYes X4.here hx rfl (pc0 := 7) (pc' := 44) rfl (hb hby d130) rfl (flt ((by decide) : ¬ ((1 : Int32) < (1 : Int32)))).2.1 (by decide) (by decide) ?_
    refine XS.iload X4.here hx rfl (hb hby d174) rfl ?_
    exact retI X4 hx hret (hb hby d175) hr
theorem d176 : decode jdk_52_method_16_code 57 = .ok (.aload_n 3, 1) := by decide +kernel
theorem d177 : decode jdk_52_method_16_code 58 = .ok (.areturn, 1) := by decide +kernel
def Q_cm3_1_1 (Z : State) (c0 : Int32) (ch : Addr) (kc : ClassId) (h0 : Heap) (n0 : Nat) (v : Option Value) (h : Heap) (L : List Loc) : Prop := ∃ (b : Addr) (k : ClassId), (v = some (.ref b)) ∧ (Fr n0 L) ∧ (Keep h0 h []) ∧ (h0.size ≤ b) ∧ (Arv Z h b k .byte (1 : Int32) [(.int (oB c0))] (.int 0)) ∧ (Old Z n0 h)
theorem rm_cm3_1_1 (l : Launch) (Z : State) (a0 : Array Value) (hw : HW Z a0) (ws : List Jvm.Cond) (c0 : Int32) (ch : Addr) (kc : ClassId) (h0 : Heap) (n0 : Nat) (Z0 : n0 ≤ h0.size) (P0 : Old Z n0 h0) (P1 : Arv Z h0 ch kc .char (1 : Int32) [(.int c0)] (.int 0)) (P2 : sta1 Z (.int 1)) (P3 : sta2 Z (.int 0)) (P4 : sta3 Z (.int 8)) (hl0 : ¬ ((255 : Int32) < c0)) :
    MF l Z m_11 jdk_52_method_16_code 6 (some (.array .byte)) ws (oR 1 1 1 18) #[(.ref ch), (.int 0), (.int 1)] h0 (Q_cm3_1_1 Z c0 ch kc h0 n0) := by
  refine own_body (cls := "java/lang/StringUTF16") (plainFor_of_name pn_4) rfl (fun p e s m below meth c s₁ hx hby hml hown hnm hret hZ X0 e0 => ?_)
  have N0 := Fr.nil n0
  have K0 := Keep.refl h0 []
  have lt1 := own_l P1.lt
  obtain ⟨T2, h2, k2, X2, e2, E2, A2, st2⟩ := newP X0 hx hZ (aty := .byte) (w_19 hw) e0 (g := (mkF m 1 #[vA ch, vI 0, vI 1, .unset, .unset, .unset] [(.int 1)])) rfl (hb hby d141) rfl (by decide) (cap := 1) (by decide) (by decide) (by decide) (by decide)
  obtain ⟨b2, g2⟩ : ∃ z, z = h0.size := ⟨_, rfl⟩
  rw [← g2] at A2 st2
  have z2 := E2.1
  have K2 := K0.ext E2
  have V2 : Arv Z h2 b2 k2 .byte (1 : Int32) [(.int 0)] (.int 0) := (Arv.new A2 (by decide)).pad (pad_rep [] (.int 0) 1)
  have lt3 := own_l V2.lt
  have f5 := P1.ext E2
  obtain ⟨_, _, ⟨T4, L4, k4, n4⟩, -, X4, ⟨Lc4, hQ4, l4, y4, z4⟩, st4⟩ := Jvm.LawKit.callS X2 hx (y := m_10) hown (mvT hZ (w_74 hw)) (mvT hZ (w_75 hw)) (mvT hZ (w_72 hw)) (mvT hZ (w_76 hw)) (by decide) (backOf (W := 0) (rm_cm5_1_1 l Z a0 hw [] c0 ch kc b2 k2 h2 n0 (by omega) f5 V2 (by omega) (own_ne (by omega)) hl0) hZ (w_76 hw) (w_72 hw) (by decide) (by decide)) (g := (mkF m 9 #[vA ch, vI 0, vI 1, vA b2, .unset, .unset] [(.int 1), (.int 0), (.ref b2), (.int 0), (.ref ch)])) rfl (by rw [hml]; rfl) (argsL := [(.ref ch), (.int 0), (.ref b2), (.int 0), (.int 1)]) (rest := []) (lenOf pd_3 rfl) rfl (Nat.le_of_eq rfl) (hb hby d148) (fun _ _ => ⟨rfl, e2, (by decide : 1 + 0 ≤ _), (by decide : 1 + 0 ≤ _)⟩)
  dsimp only [Pt.U, Pt.locs, Pt.cells, Pt.slots] at X4 l4 y4 z4 st4 hQ4
  rw [l4, y4, z4] at X4
  obtain ⟨rfl, Nq4, Kq4, r4_0⟩ := hQ4
  have N4 := Fr.app N0 Nq4
  have z4' := Kq4.1
  have K4 := K2.trans Kq4 (allS (Or.inr (by omega)) all0)
  have lt6 := own_l r4_0.lt
  have f7 := P0.ext E2
  have f8 := f7.keep Kq4 (allS (by omega) all0)
  refine ⟨_, _, _, _, some (.ref b2), X4, by decide, by decide, nofun, ?_, fun fs hr => castTop (ef_7 m ch (0 : Int32) (1 : Int32)) ?_⟩
  · show Q_cm3_1_1 Z c0 ch kc h0 n0 _ T4.heap _
    exact ⟨b2, k2, rfl, N4, K4, (by omega), r4_0, f8⟩
  · show Steps _ _ _ (s₁.setTop (mkF m 0 #[vA ch, vI 0, vI 1, .unset, .unset, .unset] [])) _
    refine XS.iloadN X0.here hx rfl (hb hby d140) rfl ?_
    refine st2 _ ?_
    show Steps _ _ _ (T2.setTop (mkF m 3 #[vA ch, vI 0, vI 1, .unset, .unset, .unset] [(.ref b2)])) _
    refine XS.astoreN X2.here hx rfl (hb hby d142) rfl rfl (l' := #[vA ch, vI 0, vI 1, vA b2, .unset, .unset]) rfl ?_
    refine XS.aloadN X2.here hx rfl (hb hby d143) rfl rfl ?_
    refine XS.iloadN X2.here hx rfl (hb hby d144) rfl ?_
    refine XS.aloadN X2.here hx rfl (hb hby d145) rfl rfl ?_
    refine XS.iconst X2.here hx rfl (hb hby d146) ?_
    refine XS.iloadN X2.here hx rfl (hb hby d147) rfl ?_
    refine st4 _ ?_
    show Steps _ _ _ (T4.setTop (mkF m 12 #[vA ch, vI 0, vI 1, vA b2, .unset, .unset] [(.int 1)])) _
    refine XS.istore X4.here hx rfl (hb hby d149) rfl (l' := #[vA ch, vI 0, vI 1, vA b2, vI 1, .unset]) rfl ?_
    refine XS.iload X4.here hx rfl (hb hby d150) rfl ?_
    refine XS.iloadN X4.here hx rfl (hb hby d151) rfl ?_
    refine XS.icmpYes X4.here hx rfl (pc0 := 17) (pc' := 57) rfl (hb hby d152) rfl (teq ((by decide) : (1 : Int32) = (1 : Int32))).1 (by decide) (by decide) ?_
    refine XS.aloadN X4.here hx rfl (hb hby d176) rfl rfl ?_
    exact retOut X4 hx hret (own_narrow_ref rfl) (Or.inr (Or.inr (Or.inr (Or.inr ⟨rfl, rfl, rfl⟩)))) (hb hby d177) hr
theorem d178 : decode jdk_52_method_15_code 0 = .ok (.iload_n 1, 1) := by decide +kernel
theorem d179 : decode jdk_52_method_15_code 1 = .ok (.aload_n 0, 1) := by decide +kernel
theorem d180 : decode jdk_52_method_15_code 2 = .ok (.arraylength, 1) := by decide +kernel
theorem d181 : decode jdk_52_method_15_code 3 = .ok (.isub, 1) := by decide +kernel
theorem d182 : decode jdk_52_method_15_code 4 = .ok (.bipush 31, 2) := by decide +kernel
theorem d183 : decode jdk_52_method_15_code 6 = .ok (.iushr, 1) := by decide +kernel
theorem d184 : decode jdk_52_method_15_code 7 = .ok (.i2b, 1) := by decide +kernel
theorem d185 : decode jdk_52_method_15_code 8 = .ok (.ireturn, 1) := by decide +kernel
abbrev m_12 : MethodName := (⟨"java/lang/StringUTF16", "coderFromArrayLen", "([BI)B"⟩ : MethodName)
def Q_cfl1_0 (Z : State) (b : Addr) (k : ClassId) (vs : List Value) (h0 : Heap) (n0 : Nat) (v : Option Value) (h : Heap) (L : List Loc) : Prop := (v = some (.int 0)) ∧ (Fr n0 L) ∧ (h = h0)
theorem rm_cfl1_0 (l : Launch) (Z : State) (a0 : Array Value) (hw : HW Z a0) (ws : List Jvm.Cond) (b : Addr) (k : ClassId) (vs : List Value) (h0 : Heap) (n0 : Nat) (Z0 : n0 ≤ h0.size) (P0 : Arv Z h0 b k .byte (1 : Int32) vs (.int 0)) :
    MF l Z m_12 jdk_52_method_15_code 2 (some .byte) ws (oR 0 0 0 0) #[(.ref b), (.int 1)] h0 (Q_cfl1_0 Z b k vs h0 n0) := by
  refine own_body (cls := "java/lang/StringUTF16") (plainFor_of_name pn_4) rfl (fun p e s m below meth c s₁ hx hby hml hown hnm hret hZ X0 e0 => ?_)
  have N0 := Fr.nil n0
  have lt1 := own_l P0.lt
  obtain ⟨cl2, Ar2, q2, S2, M2, H2, G2⟩ := id P0
  refine ⟨_, _, _, _, some (.int 0), X0, by decide, by decide, nofun, ?_, fun fs hr => castTop (ef_3 m b (1 : Int32)) ?_⟩
  · show Q_cfl1_0 Z b k vs h0 n0 _ s₁.heap _
    rw [(e0 : s₁.heap = h0)]
    exact ⟨rfl, N0, rfl⟩
  · show Steps _ _ _ (s₁.setTop (mkF m 0 #[vA b, vI 1] [])) _
    refine XS.iloadN X0.here hx rfl (hb hby d178) rfl ?_
    refine XS.aloadN X0.here hx rfl (hb hby d179) rfl rfl ?_
    refine X0.arraylength hx (by rw [e0]; exact Ar2.1) (State.isArrayOf_alike hZ.alike Ar2.2.1) (g := (mkF m 2 #[vA b, vI 1] [(.ref b), (.int 1)])) rfl rfl (hb hby d180) _ ?_
    rw [len_of S2 M2]
    show Steps _ _ _ (s₁.setTop (mkF m 3 #[vA b, vI 1] [(.int 1), (.int 1)])) _
    refine XS.isub X0.here hx rfl (hb hby d181) rfl ?_
    refine XS.bipush X0.here hx rfl (hb hby d182) ?_
    refine XS.iushr X0.here hx rfl (hb hby d183) rfl ?_
    refine XS.i2b X0.here hx rfl (hb hby d184) rfl ?_
    exact retN X0 hx (t := .byte) hret (by simp) (hb hby d185) hr
def Q_cfl1_1 (Z : State) (b : Addr) (k : ClassId) (vs : List Value) (h0 : Heap) (n0 : Nat) (v : Option Value) (h : Heap) (L : List Loc) : Prop := (v = some (.int 1)) ∧ (Fr n0 L) ∧ (h = h0)
theorem rm_cfl1_1 (l : Launch) (Z : State) (a0 : Array Value) (hw : HW Z a0) (ws : List Jvm.Cond) (b : Addr) (k : ClassId) (vs : List Value) (h0 : Heap) (n0 : Nat) (Z0 : n0 ≤ h0.size) (P0 : Arv Z h0 b k .byte (2 : Int32) vs (.int 0)) :
    MF l Z m_12 jdk_52_method_15_code 2 (some .byte) ws (oR 0 0 0 0) #[(.ref b), (.int 1)] h0 (Q_cfl1_1 Z b k vs h0 n0) := by
  refine own_body (cls := "java/lang/StringUTF16") (plainFor_of_name pn_4) rfl (fun p e s m below meth c s₁ hx hby hml hown hnm hret hZ X0 e0 => ?_)
  have N0 := Fr.nil n0
  have lt1 := own_l P0.lt
  obtain ⟨cl2, Ar2, q2, S2, M2, H2, G2⟩ := id P0
  refine ⟨_, _, _, _, some (.int 1), X0, by decide, by decide, nofun, ?_, fun fs hr => castTop (ef_3 m b (1 : Int32)) ?_⟩
  · show Q_cfl1_1 Z b k vs h0 n0 _ s₁.heap _
    rw [(e0 : s₁.heap = h0)]
    exact ⟨rfl, N0, rfl⟩
  · show Steps _ _ _ (s₁.setTop (mkF m 0 #[vA b, vI 1] [])) _
    refine XS.iloadN X0.here hx rfl (hb hby d178) rfl ?_
    refine XS.aloadN X0.here hx rfl (hb hby d179) rfl rfl ?_
    refine X0.arraylength hx (by rw [e0]; exact Ar2.1) (State.isArrayOf_alike hZ.alike Ar2.2.1) (g := (mkF m 2 #[vA b, vI 1] [(.ref b), (.int 1)])) rfl rfl (hb hby d180) _ ?_
    rw [len_of S2 M2]
    show Steps _ _ _ (s₁.setTop (mkF m 3 #[vA b, vI 1] [(.int 2), (.int 1)])) _
    refine XS.isub X0.here hx rfl (hb hby d181) rfl ?_
    refine XS.bipush X0.here hx rfl (hb hby d182) ?_
    refine XS.iushr X0.here hx rfl (hb hby d183) rfl ?_
    refine XS.i2b X0.here hx rfl (hb hby d184) rfl ?_
    exact retN X0 hx (t := .byte) hret (by simp) (hb hby d185) hr
def Q_cm5_2_0 (Z : State) (c0 : Int32) (c1 : Int32) (ch : Addr) (kc : ClassId) (b : Addr) (k : ClassId) (h0 : Heap) (n0 : Nat) (v : Option Value) (h : Heap) (L : List Loc) : Prop := (v = some (.int 0)) ∧ (Fr n0 L) ∧ (Keep h0 h [b]) ∧ (Arv Z h b k .byte (2 : Int32) [(.int 0), (.int 0)] (.int 0))
theorem rm_cm5_2_0 (l : Launch) (Z : State) (a0 : Array Value) (hw : HW Z a0) (ws : List Jvm.Cond) (c0 : Int32) (c1 : Int32) (ch : Addr) (kc : ClassId) (b : Addr) (k : ClassId) (h0 : Heap) (n0 : Nat) (Z0 : n0 ≤ h0.size) (P0 : Arv Z h0 ch kc .char (2 : Int32) [(.int c0), (.int c1)] (.int 0)) (P1 : Arv Z h0 b k .byte (2 : Int32) [(.int 0), (.int 0)] (.int 0)) (P2 : n0 ≤ b) (P3 : ch ≠ b) (hgt : (255 : Int32) < c0) :
    MF l Z m_10 jdk_52_method_21_code 7 (some .int) ws (oR 0 0 0 0) #[(.ref ch), (.int 0), (.ref b), (.int 0), (.int 2)] h0 (Q_cm5_2_0 Z c0 c1 ch kc b k h0 n0) := by
  refine own_body (cls := "java/lang/StringUTF16") (plainFor_of_name pn_4) rfl (fun p e s m below meth c s₁ hx hby hml hown hnm hret hZ X0 e0 => ?_)
  have N0 := Fr.nil n0
  have K0 := Keep.refl h0 [b]
  have lt1 := own_l P0.lt
  have lt2 := own_l P1.lt
  obtain ⟨cl3, Ar3, q3, S3, M3, H3, G3⟩ := id P0
  have hin3 : ¬ ((0 : Int32) < 0 ∨ cl3.slots.size ≤ ((0 : Int32)).toNatClampNeg) := inb_of S3 ⟨by decide, by decide⟩
  have hat3 : cl3.slots[((0 : Int32)).toNatClampNeg]? = some (.int c0) := Has.at H3 hin3 rfl
  refine ⟨_, _, _, _, some (.int 0), X0, by decide, by decide, nofun, ?_, fun fs hr => castTop (ef_6 m ch (0 : Int32) b (0 : Int32) (2 : Int32)) ?_⟩
  · show Q_cm5_2_0 Z c0 c1 ch kc b k h0 n0 _ s₁.heap _
    rw [(e0 : s₁.heap = h0)]
    exact ⟨rfl, N0, K0, P1⟩
  · show Steps _ _ _ (s₁.setTop (mkF m 0 #[vA ch, vI 0, vA b, vI 0, vI 2, .unset, .unset] [])) _
    refine XS.iconst X0.here hx rfl (hb hby d126) ?_
    refine XS.istore X0.here hx rfl (hb hby d127) rfl (l' := #[vA ch, vI 0, vA b, vI 0, vI 2, vI 0, .unset]) rfl ?_
    refine XS.iload X0.here hx rfl (hb hby d128) rfl ?_
    refine XS.iload X0.here hx rfl (hb hby d129) rfl ?_
    refine XS.icmpNo X0.here hx rfl (hb hby d130) rfl (tlt ((by decide) : (0 : Int32) < (2 : Int32))).2.1 ?_
    refine XS.aloadN X0.here hx rfl (hb hby d131) rfl rfl ?_
    refine XS.iloadN X0.here hx rfl (hb hby d132) rfl ?_
    refine X0.caload hx (j := (0 : Int32)) (v := (.int c0)) (by rw [e0]; exact Ar3.1) (State.isArrayOf_alike hZ.alike Ar3.2.1) Ar3.2.2 hin3 hat3 (g := (mkF m 12 #[vA ch, vI 0, vA b, vI 0, vI 2, vI 0, .unset] [(.int 0), (.ref ch)])) rfl rfl (hb hby d133) _ ?_
    show Steps _ _ _ (s₁.setTop (mkF m 13 #[vA ch, vI 0, vA b, vI 0, vI 2, vI 0, .unset] [(.int c0)])) _
    refine XS.istore X0.here hx rfl (hb hby d134) rfl (l' := #[vA ch, vI 0, vA b, vI 0, vI 2, vI 0, vI c0]) rfl ?_
    refine XS.iload X0.here hx rfl (hb hby d135) rfl ?_
    refine XS.sipush X0.here hx rfl (hb hby d136) ?_
    refine XS.icmpNo X0.here hx rfl (hb hby d137) rfl (tlt (hgt : (255 : Int32) < c0)).2.2.2 ?_
    refine XS.iload X0.here hx rfl (hb hby d138) rfl ?_
    exact retI X0 hx hret (hb hby d139) hr
def Q_cm3_2_0 (Z : State) (c0 : Int32) (c1 : Int32) (ch : Addr) (kc : ClassId) (h0 : Heap) (n0 : Nat) (v : Option Value) (h : Heap) (L : List Loc) : Prop := ∃ (b : Addr) (k : ClassId), (v = some (.ref b)) ∧ (Fr n0 L) ∧ (Keep h0 h []) ∧ (h0.size ≤ b) ∧ (Arv Z h b k .byte (4 : Int32) [(.int (oL c0)), (.int (oH c0)), (.int (oL c1)), (.int (oH c1))] (.int 0)) ∧ (Old Z n0 h)
theorem rm_cm3_2_0 (l : Launch) (Z : State) (a0 : Array Value) (hw : HW Z a0) (ws : List Jvm.Cond) (c0 : Int32) (c1 : Int32) (ch : Addr) (kc : ClassId) (h0 : Heap) (n0 : Nat) (Z0 : n0 ≤ h0.size) (P0 : Old Z n0 h0) (P1 : Arv Z h0 ch kc .char (2 : Int32) [(.int c0), (.int c1)] (.int 0)) (P2 : sta1 Z (.int 1)) (P3 : sta2 Z (.int 0)) (P4 : sta3 Z (.int 8)) (hgt : (255 : Int32) < c0) (r0 : ¬ c0 < 0 ∧ ¬ (65535 : Int32) < c0) :
    MF l Z m_11 jdk_52_method_16_code 6 (some (.array .byte)) ws (oR 3 2 6 40) #[(.ref ch), (.int 0), (.int 2)] h0 (Q_cm3_2_0 Z c0 c1 ch kc h0 n0) := by
  refine own_body (cls := "java/lang/StringUTF16") (plainFor_of_name pn_4) rfl (fun p e s m below meth c s₁ hx hby hml hown hnm hret hZ X0 e0 => ?_)
  have N0 := Fr.nil n0
  have K0 := Keep.refl h0 []
  have lt1 := own_l P1.lt
  obtain ⟨T2, h2, k2, X2, e2, E2, A2, st2⟩ := newP X0 hx hZ (aty := .byte) (w_19 hw) e0 (g := (mkF m 1 #[vA ch, vI 0, vI 2, .unset, .unset, .unset] [(.int 2)])) rfl (hb hby d141) rfl (by decide) (cap := 2) (by decide) (by decide) (by decide) (by decide)
  obtain ⟨b2, g2⟩ : ∃ z, z = h0.size := ⟨_, rfl⟩
  rw [← g2] at A2 st2
  have z2 := E2.1
  have K2 := K0.ext E2
  have V2 : Arv Z h2 b2 k2 .byte (2 : Int32) [(.int 0), (.int 0)] (.int 0) := (Arv.new A2 (by decide)).pad (pad_rep [] (.int 0) 2)
  have lt3 := own_l V2.lt
  have f5 := P1.ext E2
  obtain ⟨_, _, ⟨T4, L4, k4, n4⟩, -, X4, ⟨Lc4, hQ4, l4, y4, z4⟩, st4⟩ := Jvm.LawKit.callS X2 hx (y := m_10) hown (mvT hZ (w_74 hw)) (mvT hZ (w_75 hw)) (mvT hZ (w_72 hw)) (mvT hZ (w_76 hw)) (by decide) (backOf (W := 0) (rm_cm5_2_0 l Z a0 hw [] c0 c1 ch kc b2 k2 h2 n0 (by omega) f5 V2 (by omega) (own_ne (by omega)) hgt) hZ (w_76 hw) (w_72 hw) (by decide) (by decide)) (g := (mkF m 9 #[vA ch, vI 0, vI 2, vA b2, .unset, .unset] [(.int 2), (.int 0), (.ref b2), (.int 0), (.ref ch)])) rfl (by rw [hml]; rfl) (argsL := [(.ref ch), (.int 0), (.ref b2), (.int 0), (.int 2)]) (rest := []) (lenOf pd_3 rfl) rfl (Nat.le_of_eq rfl) (hb hby d148) (fun _ _ => ⟨rfl, e2, (by decide : 1 + 0 ≤ _), (by decide : 2 + 0 ≤ _)⟩)
  dsimp only [Pt.U, Pt.locs, Pt.cells, Pt.slots] at X4 l4 y4 z4 st4 hQ4
  rw [l4, y4, z4] at X4
  obtain ⟨rfl, Nq4, Kq4, r4_0⟩ := hQ4
  have N4 := Fr.app N0 Nq4
  have z4' := Kq4.1
  have K4 := K2.trans Kq4 (allS (Or.inr (by omega)) all0)
  have lt6 := own_l r4_0.lt
  have f8 := P0.ext E2
  have f9 := f8.keep Kq4 (allS (by omega) all0)
  have f10 := f5.keep Kq4 (ninS (own_ne (by omega)) nin0)
  obtain ⟨_, _, ⟨T7, L7, k7, n7⟩, -, X7, ⟨Lc7, hQ7, l7, y7, z7⟩, st7⟩ := Jvm.LawKit.callS X4 hx (y := m_9) hown (mvT hZ (w_86 hw)) (mvT hZ (w_87 hw)) (mvT hZ (w_72 hw)) (mvT hZ (w_88 hw)) (by decide) (backOf (W := 0) (rm_tob2 l Z a0 hw [] c0 c1 ch kc T4.heap n0 (by omega) f9 f10 P2 P3 P4) hZ (w_88 hw) (w_72 hw) (by decide) (by decide)) (g := (mkF m 23 #[vA ch, vI 0, vI 2, vA b2, vI 0, .unset] [(.int 2), (.int 0), (.ref ch)])) rfl (by rw [hml]; rfl) (argsL := [(.ref ch), (.int 0), (.int 2)]) (rest := []) (lenOf pd_4 rfl) rfl (Nat.le_of_eq rfl) (hb hby d156) (fun _ _ => ⟨rfl, rfl, (by decide : 1 + 1 ≤ _), (by decide : 2 + 4 ≤ _)⟩)
  dsimp only [Pt.U, Pt.locs, Pt.cells, Pt.slots] at X7 l7 y7 z7 st7 hQ7
  rw [l7, y7, z7] at X7
  obtain ⟨x7_b, x7_k, rfl, Nq7, Kq7, r7_0, r7_1, r7_2⟩ := hQ7
  have N7 := Fr.app N4 Nq7
  have z7' := Kq7.1
  have K7 := K4.trans Kq7 all0
  have lt11 := own_l r7_1.lt
  obtain ⟨_, _, ⟨T12, L12, k12, n12⟩, -, X12, ⟨Lc12, hQ12, l12, y12, z12⟩, st12⟩ := Jvm.LawKit.callS X7 hx (y := m_5) hown (mvT hZ (w_102 hw)) (mvT hZ (w_103 hw)) (mvT hZ (w_72 hw)) (mvT hZ (w_104 hw)) (by decide) (backOf (W := 0) (rm_get2_0 l Z a0 hw [] c0 c1 x7_b x7_k T7.heap n0 (by omega) r7_2 r7_1 P2 P3 P4 r0) hZ (w_104 hw) (w_72 hw) (by decide) (by decide)) (g := (mkF m 32 #[vA ch, vI 0, vI 2, vA b2, vI 0, vA x7_b] [(.int 0), (.ref x7_b)])) rfl (by rw [hml]; rfl) (argsL := [(.ref x7_b), (.int 0)]) (rest := []) (lenOf pd_5 rfl) rfl (Nat.le_of_eq rfl) (hb hby d160) (fun _ _ => ⟨rfl, rfl, (by decide : 2 + 0 ≤ _), (by decide : 6 + 0 ≤ _)⟩)
  dsimp only [Pt.U, Pt.locs, Pt.cells, Pt.slots] at X12 l12 y12 z12 st12 hQ12
  rw [l12, y12, z12] at X12
  obtain ⟨rfl, Nq12, Kq12⟩ := hQ12
  have N12 := Fr.app N7 Nq12
  refine ⟨_, _, _, _, some (.ref x7_b), X12, by decide, by decide, nofun, ?_, fun fs hr => castTop (ef_7 m ch (0 : Int32) (2 : Int32)) ?_⟩
  · show Q_cm3_2_0 Z c0 c1 ch kc h0 n0 _ T12.heap _
    rw [(Kq12 : T12.heap = T7.heap)]
    exact ⟨x7_b, x7_k, rfl, N12, K7, (by omega), r7_1, r7_2⟩
  · show Steps _ _ _ (s₁.setTop (mkF m 0 #[vA ch, vI 0, vI 2, .unset, .unset, .unset] [])) _
    refine XS.iloadN X0.here hx rfl (hb hby d140) rfl ?_
    refine st2 _ ?_
    show Steps _ _ _ (T2.setTop (mkF m 3 #[vA ch, vI 0, vI 2, .unset, .unset, .unset] [(.ref b2)])) _
    refine XS.astoreN X2.here hx rfl (hb hby d142) rfl rfl (l' := #[vA ch, vI 0, vI 2, vA b2, .unset, .unset]) rfl ?_
    refine XS.aloadN X2.here hx rfl (hb hby d143) rfl rfl ?_
    refine XS.iloadN X2.here hx rfl (hb hby d144) rfl ?_
    refine XS.aloadN X2.here hx rfl (hb hby d145) rfl rfl ?_
    refine XS.iconst X2.here hx rfl (hb hby d146) ?_
    refine XS.iloadN X2.here hx rfl (hb hby d147) rfl ?_
    refine st4 _ ?_
    show Steps _ _ _ (T4.setTop (mkF m 12 #[vA ch, vI 0, vI 2, vA b2, .unset, .unset] [(.int 0)])) _
    refine XS.istore X4.here hx rfl (hb hby d149) rfl (l' := #[vA ch, vI 0, vI 2, vA b2, vI 0, .unset]) rfl ?_
    refine XS.iload X4.here hx rfl (hb hby d150) rfl ?_
    refine XS.iloadN X4.here hx rfl (hb hby d151) rfl ?_
    refine XS.icmpNo X4.here hx rfl (hb hby d152) rfl (feq ((by decide) : ¬ ((0 : Int32) = (2 : Int32)))).1 ?_
    refine XS.aloadN X4.here hx rfl (hb hby d153) rfl rfl ?_
    refine XS.iloadN X4.here hx rfl (hb hby d154) rfl ?_
    refine XS.iloadN X4.here hx rfl (hb hby d155) rfl ?_
    refine st7 _ ?_
    show Steps _ _ _ (T7.setTop (mkF m 26 #[vA ch, vI 0, vI 2, vA b2, vI 0, .unset] [(.ref x7_b)])) _
    refine XS.astore X7.here hx rfl (hb hby d157) rfl rfl (l' := #[vA ch, vI 0, vI 2, vA b2, vI 0, vA x7_b]) rfl ?_
    refine XS.aload X7.here hx rfl (hb hby d158) rfl rfl ?_
    refine XS.iload X7.here hx rfl (hb hby d159) rfl ?_
    refine st12 _ ?_
    show Steps _ _ _ (T12.setTop (mkF m 35 #[vA ch, vI 0, vI 2, vA b2, vI 0, vA x7_b] [(.int c0)])) _
    refine XS.sipush X12.here hx rfl (hb hby d161) ?_
    refine XS.icmpYes X12.here hx rfl (pc0 := 38) (pc' := 54) rfl (hb hby d162) rfl (tlt (hgt : (255 : Int32) < c0)).2.2.1 (by decide) (by decide) ?_
    refine XS.aload X12.here hx rfl (hb hby d163) rfl rfl ?_
    exact retOut X12 hx hret (own_narrow_ref rfl) (Or.inr (Or.inr (Or.inr (Or.inr ⟨rfl, rfl, rfl⟩)))) (hb hby d164) hr
def Q_cm5_2_1 (Z : State) (c0 : Int32) (c1 : Int32) (ch : Addr) (kc : ClassId) (b : Addr) (k : ClassId) (h0 : Heap) (n0 : Nat) (v : Option Value) (h : Heap) (L : List Loc) : Prop := (v = some (.int 1)) ∧ (Fr n0 L) ∧ (Keep h0 h [b]) ∧ (Arv Z h b k .byte (2 : Int32) [(.int (oB c0)), (.int 0)] (.int 0))
theorem rm_cm5_2_1 (l : Launch) (Z : State) (a0 : Array Value) (hw : HW Z a0) (ws : List Jvm.Cond) (c0 : Int32) (c1 : Int32) (ch : Addr) (kc : ClassId) (b : Addr) (k : ClassId) (h0 : Heap) (n0 : Nat) (Z0 : n0 ≤ h0.size) (P0 : Arv Z h0 ch kc .char (2 : Int32) [(.int c0), (.int c1)] (.int 0)) (P1 : Arv Z h0 b k .byte (2 : Int32) [(.int 0), (.int 0)] (.int 0)) (P2 : n0 ≤ b) (P3 : ch ≠ b) (hl0 : ¬ ((255 : Int32) < c0)) (hgt : (255 : Int32) < c1) :
    MF l Z m_10 jdk_52_method_21_code 7 (some .int) ws (oR 0 0 0 0) #[(.ref ch), (.int 0), (.ref b), (.int 0), (.int 2)] h0 (Q_cm5_2_1 Z c0 c1 ch kc b k h0 n0) := by
  refine own_body (cls := "java/lang/StringUTF16") (plainFor_of_name pn_4) rfl (fun p e s m below meth c s₁ hx hby hml hown hnm hret hZ X0 e0 => ?_)
  have N0 := Fr.nil n0
  have K0 := Keep.refl h0 [b]
  have lt1 := own_l P0.lt
  have lt2 := own_l P1.lt
  obtain ⟨cl3, Ar3, q3, S3, M3, H3, G3⟩ := id P0
  have hin3 : ¬ ((0 : Int32) < 0 ∨ cl3.slots.size ≤ ((0 : Int32)).toNatClampNeg) := inb_of S3 ⟨by decide, by decide⟩
  have hat3 : cl3.slots[((0 : Int32)).toNatClampNeg]? = some (.int c0) := Has.at H3 hin3 rfl
  obtain ⟨cl4, Ar4, q4, S4, M4, H4, G4⟩ := id P1
  have hin4 : ¬ ((0 : Int32) < 0 ∨ cl4.slots.size ≤ ((0 : Int32)).toNatClampNeg) := inb_of S4 ⟨by decide, by decide⟩
  obtain ⟨T4, h4, X4, e4, W4, st4⟩ := stB X0 hx hZ e0 Ar4 (j := (0 : Int32)) hin4 (g := (mkF m 31 #[vA ch, vI 0, vA b, vI 0, vI 2, vI 0, vI c0] [(.int (c0.toInt8.toInt32)), (.int 0), (.ref b)])) rfl rfl (hb hby d169)
  have V4 : Arv Z h4 b k .byte (2 : Int32) [(.int (nar .byte (c0.toInt8.toInt32))), (.int 0)] (.int 0) := Arv.set Ar4 q4 S4 M4 H4 G4 (fits_nar_byte (c0.toInt8.toInt32)) W4 0 rfl (Nat.le_of_ble_eq_true rfl)
  have z4 := W4.size
  have K4 := K0.wr W4 (Or.inl (List.mem_of_getElem? (i := 0) rfl))
  have N4 := Fr.snoc X4 N0 (by omega)
  have f6 := P0.other W4 (fun q => P3 q)
  obtain ⟨cl5, Ar5, q5, S5, M5, H5, G5⟩ := id f6
  have hin5 : ¬ ((1 : Int32) < 0 ∨ cl5.slots.size ≤ ((1 : Int32)).toNatClampNeg) := inb_of S5 ⟨by decide, by decide⟩
  have hat5 : cl5.slots[((1 : Int32)).toNatClampNeg]? = some (.int c1) := Has.at H5 hin5 rfl
  refine ⟨_, _, _, _, some (.int 1), X4, by decide, by decide, nofun, ?_, fun fs hr => castTop (ef_6 m ch (0 : Int32) b (0 : Int32) (2 : Int32)) ?_⟩
  · show Q_cm5_2_1 Z c0 c1 ch kc b k h0 n0 _ T4.heap _
    rw [(e4 : T4.heap = h4)]
    exact ⟨rfl, N4, K4, V4⟩
  · show Steps _ _ _ (s₁.setTop (mkF m 0 #[vA ch, vI 0, vA b, vI 0, vI 2, .unset, .unset] [])) _
    refine XS.iconst X0.here hx rfl (hb hby d126) ?_
    refine XS.istore X0.here hx rfl (hb hby d127) rfl (l' := #[vA ch, vI 0, vA b, vI 0, vI 2, vI 0, .unset]) rfl ?_
    refine XS.iload X0.here hx rfl (hb hby d128) rfl ?_
    refine XS.iload X0.here hx rfl (hb hby d129) rfl ?_
    refine XS.icmpNo X0.here hx rfl (hb hby d130) rfl (tlt ((by decide) : (0 : Int32) < (2 : Int32))).2.1 ?_
    refine XS.aloadN X0.here hx rfl (hb hby d131) rfl rfl ?_
    refine XS.iloadN X0.here hx rfl (hb hby d132) rfl ?_
    refine X0.caload hx (j := (0 : Int32)) (v := (.int c0)) (by rw [e0]; exact Ar3.1) (State.isArrayOf_alike hZ.alike Ar3.2.1) Ar3.2.2 hin3 hat3 (g := (mkF m 12 #[vA ch, vI 0, vA b, vI 0, vI 2, vI 0, .unset] [(.int 0), (.ref ch)])) rfl rfl (hb hby d133) _ ?_
    show Steps _ _ _ (s₁.setTop (mkF m 13 #[vA ch, vI 0, vA b, vI 0, vI 2, vI 0, .unset] [(.int c0)])) _
    refine XS.istore X0.here hx rfl (hb hby d134) rfl (l' := #[vA ch, vI 0, vA b, vI 0, vI 2, vI 0, vI c0]) rfl ?_
    refine XS.iload X0.here hx rfl (hb hby d135) rfl ?_
    refine XS.sipush X0.here hx rfl (hb hby d136) ?_
    refine XS.icmpYes X0.here hx rfl (pc0 := 20) (pc' := 26) rfl (hb hby d137) rfl (flt (hl0 : ¬ ((255 : Int32) < c0))).2.2.2 (by decide) (by decide) ?_
    refine XS.aloadN X0.here hx rfl (hb hby d165) rfl rfl ?_
    refine XS.iloadN X0.here hx rfl (hb hby d166) rfl ?_
    refine XS.iload X0.here hx rfl (hb hby d167) rfl ?_
    refine XS.i2b X0.here hx rfl (hb hby d168) rfl ?_
    refine st4 _ ?_
    show Steps _ _ _ (T4.setTop (mkF m 32 #[vA ch, vI 0, vA b, vI 0, vI 2, vI 0, vI c0] [])) _
    refine XS.iinc X4.here hx rfl (hb hby d170) rfl (l' := #[vA ch, vI 1, vA b, vI 0, vI 2, vI 0, vI c0]) rfl ?_
    refine XS.iinc X4.here hx rfl (hb hby d171) rfl (l' := #[vA ch, vI 1, vA b, vI 1, vI 2, vI 0, vI c0]) rfl ?_
    refine XS.iinc X4.here hx rfl (hb hby d172) rfl (l' := #[vA ch, vI 1, vA b, vI 1, vI 2, vI 1, vI c0]) rfl ?_
    refine XS.goto X4.here hx rfl (pc0 := 41) (pc' := 3) rfl (hb hby d173) (by decide) (by decide) ?_
    refine XS.iload X4.here hx rfl (hb hby d128) rfl ?_
    refine XS.iload X4.here hx rfl (hb hby d129) rfl ?_
    refine XS.icmpNo X4.here hx rfl (hb hby d130) rfl (tlt ((by decide) : (1 : Int32) < (2 : Int32))).2.1 ?_
    refine XS.aloadN X4.here hx rfl (hb hby d131) rfl rfl ?_
    refine XS.iloadN X4.here hx rfl (hb hby d132) rfl ?_
    refine X4.caload hx (j := (1 : Int32)) (v := (.int c1)) (by rw [e4]; exact Ar5.1) (State.isArrayOf_alike hZ.alike Ar5.2.1) Ar5.2.2 hin5 hat5 (g := (mkF m 12 #[vA ch, vI 1, vA b, vI 1, vI 2, vI 1, vI c0] [(.int 1), (.ref ch)])) rfl rfl (hb hby d133) _ ?_
    show Steps _ _ _ (T4.setTop (mkF m 13 #[vA ch, vI 1, vA b, vI 1, vI 2, vI 1, vI c0] [(.int c1)])) _
    refine XS.istore X4.here hx rfl (hb hby d134) rfl (l' := #[vA ch, vI 1, vA b, vI 1, vI 2, vI 1, vI c1]) rfl ?_
    refine XS.iload X4.here hx rfl (hb hby d135) rfl ?_
    refine XS.sipush X4.here hx rfl (hb hby d136) ?_
    refine XS.icmpNo X4.here hx rfl (hb hby d137) rfl (tlt (hgt : (255 : Int32) < c1)).2.2.2 ?_
    refine XS.iload X4.here hx rfl (hb hby d138) rfl ?_
    exact retI X4 hx hret (hb hby d139) hr
def Q_cm3_2_1 (Z : State) (c0 : Int32) (c1 : Int32) (ch : Addr) (kc : ClassId) (h0 : Heap) (n0 : Nat) (v : Option Value) (h : Heap) (L : List Loc) : Prop := ∃ (b : Addr) (k : ClassId), (v = some (.ref b)) ∧ (Fr n0 L) ∧ (Keep h0 h []) ∧ (h0.size ≤ b) ∧ (Arv Z h b k .byte (4 : Int32) [(.int (oL c0)), (.int (oH c0)), (.int (oL c1)), (.int (oH c1))] (.int 0)) ∧ (Old Z n0 h)
theorem rm_cm3_2_1 (l : Launch) (Z : State) (a0 : Array Value) (hw : HW Z a0) (ws : List Jvm.Cond) (c0 : Int32) (c1 : Int32) (ch : Addr) (kc : ClassId) (h0 : Heap) (n0 : Nat) (Z0 : n0 ≤ h0.size) (P0 : Old Z n0 h0) (P1 : Arv Z h0 ch kc .char (2 : Int32) [(.int c0), (.int c1)] (.int 0)) (P2 : sta1 Z (.int 1)) (P3 : sta2 Z (.int 0)) (P4 : sta3 Z (.int 8)) (hl0 : ¬ ((255 : Int32) < c0)) (hgt : (255 : Int32) < c1) (r1 : ¬ c1 < 0 ∧ ¬ (65535 : Int32) < c1) :
    MF l Z m_11 jdk_52_method_16_code 6 (some (.array .byte)) ws (oR 3 2 6 40) #[(.ref ch), (.int 0), (.int 2)] h0 (Q_cm3_2_1 Z c0 c1 ch kc h0 n0) := by
  refine own_body (cls := "java/lang/StringUTF16") (plainFor_of_name pn_4) rfl (fun p e s m below meth c s₁ hx hby hml hown hnm hret hZ X0 e0 => ?_)
  have N0 := Fr.nil n0
  have K0 := Keep.refl h0 []
  have lt1 := own_l P1.lt
  obtain ⟨T2, h2, k2, X2, e2, E2, A2, st2⟩ := newP X0 hx hZ (aty := .byte) (w_19 hw) e0 (g := (mkF m 1 #[vA ch, vI 0, vI 2, .unset, .unset, .unset] [(.int 2)])) rfl (hb hby d141) rfl (by decide) (cap := 2) (by decide) (by decide) (by decide) (by decide)
  obtain ⟨b2, g2⟩ : ∃ z, z = h0.size := ⟨_, rfl⟩
  rw [← g2] at A2 st2
  have z2 := E2.1
  have K2 := K0.ext E2
  have V2 : Arv Z h2 b2 k2 .byte (2 : Int32) [(.int 0), (.int 0)] (.int 0) := (Arv.new A2 (by decide)).pad (pad_rep [] (.int 0) 2)
  have lt3 := own_l V2.lt
  have f5 := P1.ext E2
  obtain ⟨_, _, ⟨T4, L4, k4, n4⟩, -, X4, ⟨Lc4, hQ4, l4, y4, z4⟩, st4⟩ := Jvm.LawKit.callS X2 hx (y := m_10) hown (mvT hZ (w_74 hw)) (mvT hZ (w_75 hw)) (mvT hZ (w_72 hw)) (mvT hZ (w_76 hw)) (by decide) (backOf (W := 0) (rm_cm5_2_1 l Z a0 hw [] c0 c1 ch kc b2 k2 h2 n0 (by omega) f5 V2 (by omega) (own_ne (by omega)) hl0 hgt) hZ (w_76 hw) (w_72 hw) (by decide) (by decide)) (g := (mkF m 9 #[vA ch, vI 0, vI 2, vA b2, .unset, .unset] [(.int 2), (.int 0), (.ref b2), (.int 0), (.ref ch)])) rfl (by rw [hml]; rfl) (argsL := [(.ref ch), (.int 0), (.ref b2), (.int 0), (.int 2)]) (rest := []) (lenOf pd_3 rfl) rfl (Nat.le_of_eq rfl) (hb hby d148) (fun _ _ => ⟨rfl, e2, (by decide : 1 + 0 ≤ _), (by decide : 2 + 0 ≤ _)⟩)
  dsimp only [Pt.U, Pt.locs, Pt.cells, Pt.slots] at X4 l4 y4 z4 st4 hQ4
  rw [l4, y4, z4] at X4
  obtain ⟨rfl, Nq4, Kq4, r4_0⟩ := hQ4
  have N4 := Fr.app N0 Nq4
  have z4' := Kq4.1
  have K4 := K2.trans Kq4 (allS (Or.inr (by omega)) all0)
  have lt6 := own_l r4_0.lt
  have f8 := P0.ext E2
  have f9 := f8.keep Kq4 (allS (by omega) all0)
  have f10 := f5.keep Kq4 (ninS (own_ne (by omega)) nin0)
  obtain ⟨_, _, ⟨T7, L7, k7, n7⟩, -, X7, ⟨Lc7, hQ7, l7, y7, z7⟩, st7⟩ := Jvm.LawKit.callS X4 hx (y := m_9) hown (mvT hZ (w_86 hw)) (mvT hZ (w_87 hw)) (mvT hZ (w_72 hw)) (mvT hZ (w_88 hw)) (by decide) (backOf (W := 0) (rm_tob2 l Z a0 hw [] c0 c1 ch kc T4.heap n0 (by omega) f9 f10 P2 P3 P4) hZ (w_88 hw) (w_72 hw) (by decide) (by decide)) (g := (mkF m 23 #[vA ch, vI 0, vI 2, vA b2, vI 1, .unset] [(.int 2), (.int 0), (.ref ch)])) rfl (by rw [hml]; rfl) (argsL := [(.ref ch), (.int 0), (.int 2)]) (rest := []) (lenOf pd_4 rfl) rfl (Nat.le_of_eq rfl) (hb hby d156) (fun _ _ => ⟨rfl, rfl, (by decide : 1 + 1 ≤ _), (by decide : 2 + 4 ≤ _)⟩)
  dsimp only [Pt.U, Pt.locs, Pt.cells, Pt.slots] at X7 l7 y7 z7 st7 hQ7
  rw [l7, y7, z7] at X7
  obtain ⟨x7_b, x7_k, rfl, Nq7, Kq7, r7_0, r7_1, r7_2⟩ := hQ7
  have N7 := Fr.app N4 Nq7
  have z7' := Kq7.1
  have K7 := K4.trans Kq7 all0
  have lt11 := own_l r7_1.lt
  obtain ⟨_, _, ⟨T12, L12, k12, n12⟩, -, X12, ⟨Lc12, hQ12, l12, y12, z12⟩, st12⟩ := Jvm.LawKit.callS X7 hx (y := m_5) hown (mvT hZ (w_102 hw)) (mvT hZ (w_103 hw)) (mvT hZ (w_72 hw)) (mvT hZ (w_104 hw)) (by decide) (backOf (W := 0) (rm_get2_1 l Z a0 hw [] c0 c1 x7_b x7_k T7.heap n0 (by omega) r7_2 r7_1 P2 P3 P4 r1) hZ (w_104 hw) (w_72 hw) (by decide) (by decide)) (g := (mkF m 32 #[vA ch, vI 0, vI 2, vA b2, vI 1, vA x7_b] [(.int 1), (.ref x7_b)])) rfl (by rw [hml]; rfl) (argsL := [(.ref x7_b), (.int 1)]) (rest := []) (lenOf pd_5 rfl) rfl (Nat.le_of_eq rfl) (hb hby d160) (fun _ _ => ⟨rfl, rfl, (by decide : 2 + 0 ≤ _), (by decide : 6 + 0 ≤ _)⟩)
  dsimp only [Pt.U, Pt.locs, Pt.cells, Pt.slots] at X12 l12 y12 z12 st12 hQ12
  rw [l12, y12, z12] at X12
  obtain ⟨rfl, Nq12, Kq12⟩ := hQ12
  have N12 := Fr.app N7 Nq12
  refine ⟨_, _, _, _, some (.ref x7_b), X12, by decide, by decide, nofun, ?_, fun fs hr => castTop (ef_7 m ch (0 : Int32) (2 : Int32)) ?_⟩
  · show Q_cm3_2_1 Z c0 c1 ch kc h0 n0 _ T12.heap _
    rw [(Kq12 : T12.heap = T7.heap)]
    exact ⟨x7_b, x7_k, rfl, N12, K7, (by omega), r7_1, r7_2⟩
  · show Steps _ _ _ (s₁.setTop (mkF m 0 #[vA ch, vI 0, vI 2, .unset, .unset, .unset] [])) _
    refine XS.iloadN X0.here hx rfl (hb hby d140) rfl ?_
    refine st2 _ ?_
    show Steps _ _ _ (T2.setTop (mkF m 3 #[vA ch, vI 0, vI 2, .unset, .unset, .unset] [(.ref b2)])) _
    refine XS.astoreN X2.here hx rfl (hb hby d142) rfl rfl (l' := #[vA ch, vI 0, vI 2, vA b2, .unset, .unset]) rfl ?_
    refine XS.aloadN X2.here hx rfl (hb hby d143) rfl rfl ?_
    refine XS.iloadN X2.here hx rfl (hb hby d144) rfl ?_
    refine XS.aloadN X2.here hx rfl (hb hby d145) rfl rfl ?_
    refine XS.iconst X2.here hx rfl (hb hby d146) ?_
    refine XS.iloadN X2.here hx rfl (hb hby d147) rfl ?_
    refine st4 _ ?_
    show Steps _ _ _ (T4.setTop (mkF m 12 #[vA ch, vI 0, vI 2, vA b2, .unset, .unset] [(.int 1)])) _
    refine XS.istore X4.here hx rfl (hb hby d149) rfl (l' := #[vA ch, vI 0, vI 2, vA b2, vI 1, .unset]) rfl ?_
    refine XS.iload X4.here hx rfl (hb hby d150) rfl ?_
    refine XS.iloadN X4.here hx rfl (hb hby d151) rfl ?_
    refine XS.icmpNo X4.here hx rfl (hb hby d152) rfl (feq ((by decide) : ¬ ((1 : Int32) = (2 : Int32)))).1 ?_
    refine XS.aloadN X4.here hx rfl (hb hby d153) rfl rfl ?_
    refine XS.iloadN X4.here hx rfl (hb hby d154) rfl ?_
    refine XS.iloadN X4.here hx rfl (hb hby d155) rfl ?_
    refine st7 _ ?_
    show Steps _ _ _ (T7.setTop (mkF m 26 #[vA ch, vI 0, vI 2, vA b2, vI 1, .unset] [(.ref x7_b)])) _
    refine XS.astore X7.here hx rfl (hb hby d157) rfl rfl (l' := #[vA ch, vI 0, vI 2, vA b2, vI 1, vA x7_b]) rfl ?_
    refine XS.aload X7.here hx rfl (hb hby d158) rfl rfl ?_
    refine XS.iload X7.here hx rfl (hb hby d159) rfl ?_
    refine st12 _ ?_
    show Steps _ _ _ (T12.setTop (mkF m 35 #[vA ch, vI 0, vI 2, vA b2, vI 1, vA x7_b] [(.int c1)])) _
    refine XS.sipush X12.here hx rfl (hb hby d161) ?_
    refine XS.icmpYes X12.here hx rfl (pc0 := 38) (pc' := 54) rfl (hb hby d162) rfl (tlt (hgt : (255 : Int32) < c1)).2.2.1 (by decide) (by decide) ?_
    refine XS.aload X12.here hx rfl (hb hby d163) rfl rfl ?_
    exact retOut X12 hx hret (own_narrow_ref rfl) (Or.inr (Or.inr (Or.inr (Or.inr ⟨rfl, rfl, rfl⟩)))) (hb hby d164) hr
def Q_cm5_2_2 (Z : State) (c0 : Int32) (c1 : Int32) (ch : Addr) (kc : ClassId) (b : Addr) (k : ClassId) (h0 : Heap) (n0 : Nat) (v : Option Value) (h : Heap) (L : List Loc) : Prop := (v = some (.int 2)) ∧ (Fr n0 L) ∧ (Keep h0 h [b]) ∧ (Arv Z h b k .byte (2 : Int32) [(.int (oB c0)), (.int (oB c1))] (.int 0))
theorem rm_cm5_2_2 (l : Launch) (Z : State) (a0 : Array Value) (hw : HW Z a0) (ws : List Jvm.Cond) (c0 : Int32) (c1 : Int32) (ch : Addr) (kc : ClassId) (b : Addr) (k : ClassId) (h0 : Heap) (n0 : Nat) (Z0 : n0 ≤ h0.size) (P0 : Arv Z h0 ch kc .char (2 : Int32) [(.int c0), (.int c1)] (.int 0)) (P1 : Arv Z h0 b k .byte (2 : Int32) [(.int 0), (.int 0)] (.int 0)) (P2 : n0 ≤ b) (P3 : ch ≠ b) (hl0 : ¬ ((255 : Int32) < c0)) (hl1 : ¬ ((255 : Int32) < c1)) :
    MF l Z m_10 jdk_52_method_21_code 7 (some .int) ws (oR 0 0 0 0) #[(.ref ch), (.int 0), (.ref b), (.int 0), (.int 2)] h0 (Q_cm5_2_2 Z c0 c1 ch kc b k h0 n0) := by
  refine own_body (cls := "java/lang/StringUTF16") (plainFor_of_name pn_4) rfl (fun p e s m below meth c s₁ hx hby hml hown hnm hret hZ X0 e0 => ?_)
  have N0 := Fr.nil n0
  have K0 := Keep.refl h0 [b]
  have lt1 := own_l P0.lt
  have lt2 := own_l P1.lt
  obtain ⟨cl3, Ar3, q3, S3, M3, H3, G3⟩ := id P0
  have hin3 : ¬ ((0 : Int32) < 0 ∨ cl3.slots.size ≤ ((0 : Int32)).toNatClampNeg) := inb_of S3 ⟨by decide, by decide⟩
  have hat3 : cl3.slots[((0 : Int32)).toNatClampNeg]? = some (.int c0) := Has.at H3 hin3 rfl
  obtain ⟨cl4, Ar4, q4, S4, M4, H4, G4⟩ := id P1
  have hin4 : ¬ ((0 : Int32) < 0 ∨ cl4.slots.size ≤ ((0 : Int32)).toNatClampNeg) := inb_of S4 ⟨by decide, by decide⟩
  obtain ⟨T4, h4, X4, e4, W4, st4⟩ := stB X0 hx hZ e0 Ar4 (j := (0 : Int32)) hin4 (g := (mkF m 31 #[vA ch, vI 0, vA b, vI 0, vI 2, vI 0, vI c0] [(.int (c0.toInt8.toInt32)), (.int 0), (.ref b)])) rfl rfl (hb hby d169)
  have V4 : Arv Z h4 b k .byte (2 : Int32) [(.int (nar .byte (c0.toInt8.toInt32))), (.int 0)] (.int 0) := Arv.set Ar4 q4 S4 M4 H4 G4 (fits_nar_byte (c0.toInt8.toInt32)) W4 0 rfl (Nat.le_of_ble_eq_true rfl)
  have z4 := W4.size
  have K4 := K0.wr W4 (Or.inl (List.mem_of_getElem? (i := 0) rfl))
  have N4 := Fr.snoc X4 N0 (by omega)
  have f6 := P0.other W4 (fun q => P3 q)
  obtain ⟨cl5, Ar5, q5, S5, M5, H5, G5⟩ := id f6
  have hin5 : ¬ ((1 : Int32) < 0 ∨ cl5.slots.size ≤ ((1 : Int32)).toNatClampNeg) := inb_of S5 ⟨by decide, by decide⟩
  have hat5 : cl5.slots[((1 : Int32)).toNatClampNeg]? = some (.int c1) := Has.at H5 hin5 rfl
  obtain ⟨cl7, Ar7, q7, S7, M7, H7, G7⟩ := id V4
  have hin7 : ¬ ((1 : Int32) < 0 ∨ cl7.slots.size ≤ ((1 : Int32)).toNatClampNeg) := inb_of S7 ⟨by decide, by decide⟩
  obtain ⟨T7, h7, X7, e7, W7, st7⟩ := stB X4 hx hZ e4 Ar7 (j := (1 : Int32)) hin7 (g := (mkF m 31 #[vA ch, vI 1, vA b, vI 1, vI 2, vI 1, vI c1] [(.int (c1.toInt8.toInt32)), (.int 1), (.ref b)])) rfl rfl (hb hby d169)
  have V7 : Arv Z h7 b k .byte (2 : Int32) [(.int (nar .byte (c0.toInt8.toInt32))), (.int (nar .byte (c1.toInt8.toInt32)))] (.int 0) := Arv.set Ar7 q7 S7 M7 H7 G7 (fits_nar_byte (c1.toInt8.toInt32)) W7 1 rfl (Nat.le_of_ble_eq_true rfl)
  have z7 := W7.size
  have K7 := K4.wr W7 (Or.inl (List.mem_of_getElem? (i := 0) rfl))
  have N7 := Fr.snoc X7 N4 (by omega)
  refine ⟨_, _, _, _, some (.int 2), X7, by decide, by decide, nofun, ?_, fun fs hr => castTop (ef_6 m ch (0 : Int32) b (0 : Int32) (2 : Int32)) ?_⟩
  · show Q_cm5_2_2 Z c0 c1 ch kc b k h0 n0 _ T7.heap _
    rw [(e7 : T7.heap = h7)]
    exact ⟨rfl, N7, K7, V7⟩
  · show Steps _ _ _ (s₁.setTop (mkF m 0 #[vA ch, vI 0, vA b, vI 0, vI 2, .unset, .unset] [])) _
    refine XS.iconst X0.here hx rfl (hb hby d126) ?_
    refine XS.istore X0.here hx rfl (hb hby d127) rfl (l' := #[vA ch, vI 0, vA b, vI 0, vI 2, vI 0, .unset]) rfl ?_
    refine XS.iload X0.here hx rfl (hb hby d128) rfl ?_
    refine XS.iload X0.here hx rfl (hb hby d129) rfl ?_
    refine XS.icmpNo X0.here hx rfl (hb hby d130) rfl (tlt ((by decide) : (0 : Int32) < (2 : Int32))).2.1 ?_
    refine XS.aloadN X0.here hx rfl (hb hby d131) rfl rfl ?_
    refine XS.iloadN X0.here hx rfl (hb hby d132) rfl ?_
    refine X0.caload hx (j := (0 : Int32)) (v := (.int c0)) (by rw [e0]; exact Ar3.1) (State.isArrayOf_alike hZ.alike Ar3.2.1) Ar3.2.2 hin3 hat3 (g := (mkF m 12 #[vA ch, vI 0, vA b, vI 0, vI 2, vI 0, .unset] [(.int 0), (.ref ch)])) rfl rfl (hb hby d133) _ ?_
    show Steps _ _ _ (s₁.setTop (mkF m 13 #[vA ch, vI 0, vA b, vI 0, vI 2, vI 0, .unset] [(.int c0)])) _
    refine XS.istore X0.here hx rfl (hb hby d134) rfl (l' := #[vA ch, vI 0, vA b, vI 0, vI 2, vI 0, vI c0]) rfl ?_
    refine XS.iload X0.here hx rfl (hb hby d135) rfl ?_
    refine XS.sipush X0.here hx rfl (hb hby d136) ?_
    refine XS.icmpYes X0.here hx rfl (pc0 := 20) (pc' := 26) rfl (hb hby d137) rfl (flt (hl0 : ¬ ((255 : Int32) < c0))).2.2.2 (by decide) (by decide) ?_
    refine XS.aloadN X0.here hx rfl (hb hby d165) rfl rfl ?_
    refine XS.iloadN X0.here hx rfl (hb hby d166) rfl ?_
    refine XS.iload X0.here hx rfl (hb hby d167) rfl ?_
    refine XS.i2b X0.here hx rfl (hb hby d168) rfl ?_
    refine st4 _ ?_
    show Steps _ _ _ (T4.setTop (mkF m 32 #[vA ch, vI 0, vA b, vI 0, vI 2, vI 0, vI c0] [])) _
    refine XS.iinc X4.here hx rfl (hb hby d170) rfl (l' := #[vA ch, vI 1, vA b, vI 0, vI 2, vI 0, vI c0]) rfl ?_
    refine XS.iinc X4.here hx rfl (hb hby d171) rfl (l' := #[vA ch, vI 1, vA b, vI 1, vI 2, vI 0, vI c0]) rfl ?_
    refine XS.iinc X4.here hx rfl (hb hby d172) rfl (l' := #[vA ch, vI 1, vA b, vI 1, vI 2, vI 1, vI c0]) rfl ?_
    refine XS.goto X4.here hx rfl (pc0 := 41) (pc' := 3) rfl (hb hby d173) (by decide) (by decide) ?_
    refine XS.iload X4.here hx rfl (hb hby d128) rfl ?_
    refine XS.iload X4.here hx rfl (hb hby d129) rfl ?_
    refine XS.icmpNo X4.here hx rfl (hb hby d130) rfl (tlt ((by decide) : (1 : Int32) < (2 : Int32))).2.1 ?_
    refine XS.aloadN X4.here hx rfl (hb hby d131) rfl rfl ?_
    refine XS.iloadN X4.here hx rfl (hb hby d132) rfl ?_
    refine X4.caload hx (j := (1 : Int32)) (v := (.int c1)) (by rw [e4]; exact Ar5.1) (State.isArrayOf_alike hZ.alike Ar5.2.1) Ar5.2.2 hin5 hat5 (g := (mkF m 12 #[vA ch, vI 1, vA b, vI 1, vI 2, vI 1, vI c0] [(.int 1), (.ref ch)])) rfl rfl (hb hby d133) _ ?_
    show Steps _ _ _ (T4.setTop (mkF m 13 #[vA ch, vI 1, vA b, vI 1, vI 2, vI 1, vI c0] [(.int c1)])) _
    refine XS.istore X4.here hx rfl (hb hby d134) rfl (l' := #[vA ch, vI 1, vA b, vI 1, vI 2, vI 1, vI c1]) rfl ?_
    refine XS.iload X4.here hx rfl (hb hby d135) rfl ?_
    refine XS.sipush X4.here hx rfl (hb hby d136) ?_
    refine XS.icmpYes X4.here hx rfl (pc0 := 20) (pc' := 26) rfl (hb hby d137) rfl (flt (hl1 : ¬ ((255 : Int32) < c1))).2.2.2 (by decide) (by decide) ?_
    refine XS.aloadN X4.here hx rfl (hb hby d165) rfl rfl ?_
    refine XS.iloadN X4.here hx rfl (hb hby d166) rfl ?_
    refine XS.iload X4.here hx rfl (hb hby d167) rfl ?_
    refine XS.i2b X4.here hx rfl (hb hby d168) rfl ?_
    refine st7 _ ?_
    show Steps _ _ _ (T7.setTop (mkF m 32 #[vA ch, vI 1, vA b, vI 1, vI 2, vI 1, vI c1] [])) _
    refine XS.iinc X7.here hx rfl (hb hby d170) rfl (l' := #[vA ch, vI 2, vA b, vI 1, vI 2, vI 1, vI c1]) rfl ?_
    refine XS.iinc X7.here hx rfl (hb hby d171) rfl (l' := #[vA ch, vI 2, vA b, vI 2, vI 2, vI 1, vI c1]) rfl ?_
    refine XS.iinc X7.here hx rfl (hb hby d172) rfl (l' := #[vA ch, vI 2, vA b, vI 2, vI 2, vI 2, vI c1]) rfl ?_
    refine XS.goto X7.here hx rfl (pc0 := 41) (pc' := 3) rfl (hb hby d173) (by decide) (by decide) ?_
    refine XS.iload X7.here hx rfl (hb hby d128) rfl ?_
    refine XS.iload X7.here hx rfl (hb hby d129) rfl ?_
    refine XS.icmpYes X7.here hx rfl (pc0 := 7) (pc' := 44) rfl (hb hby d130) rfl (flt ((by decide) : ¬ ((2 : Int32) < (2 : Int32)))).2.1 (by decide) (by decide) ?_
    refine XS.iload X7.here hx rfl (hb hby d174) rfl ?_
    exact retI X7 hx hret (hb hby d175) hr
def Q_cm3_2_2 (Z : State) (c0 : Int32) (c1 : Int32) (ch : Addr) (kc : ClassId) (h0 : Heap) (n0 : Nat) (v : Option Value) (h : Heap) (L : List Loc) : Prop := ∃ (b : Addr) (k : ClassId), (v = some (.ref b)) ∧ (Fr n0 L) ∧ (Keep h0 h []) ∧ (h0.size ≤ b) ∧ (Arv Z h b k .byte (2 : Int32) [(.int (oB c0)), (.int (oB c1))] (.int 0)) ∧ (Old Z n0 h)
theorem rm_cm3_2_2 (l : Launch) (Z : State) (a0 : Array Value) (hw : HW Z a0) (ws : List Jvm.Cond) (c0 : Int32) (c1 : Int32) (ch : Addr) (kc : ClassId) (h0 : Heap) (n0 : Nat) (Z0 : n0 ≤ h0.size) (P0 : Old Z n0 h0) (P1 : Arv Z h0 ch kc .char (2 : Int32) [(.int c0), (.int c1)] (.int 0)) (P2 : sta1 Z (.int 1)) (P3 : sta2 Z (.int 0)) (P4 : sta3 Z (.int 8)) (hl0 : ¬ ((255 : Int32) < c0)) (hl1 : ¬ ((255 : Int32) < c1)) :
    MF l Z m_11 jdk_52_method_16_code 6 (some (.array .byte)) ws (oR 1 1 2 18) #[(.ref ch), (.int 0), (.int 2)] h0 (Q_cm3_2_2 Z c0 c1 ch kc h0 n0) := by
  refine own_body (cls := "java/lang/StringUTF16") (plainFor_of_name pn_4) rfl (fun p e s m below meth c s₁ hx hby hml hown hnm hret hZ X0 e0 => ?_)
  have N0 := Fr.nil n0
  have K0 := Keep.refl h0 []
  have lt1 := own_l P1.lt
  obtain ⟨T2, h2, k2, X2, e2, E2, A2, st2⟩ := newP X0 hx hZ (aty := .byte) (w_19 hw) e0 (g := (mkF m 1 #[vA ch, vI 0, vI 2, .unset, .unset, .unset] [(.int 2)])) rfl (hb hby d141) rfl (by decide) (cap := 2) (by decide) (by decide) (by decide) (by decide)
  obtain ⟨b2, g2⟩ : ∃ z, z = h0.size := ⟨_, rfl⟩
  rw [← g2] at A2 st2
  have z2 := E2.1
  have K2 := K0.ext E2
  have V2 : Arv Z h2 b2 k2 .byte (2 : Int32) [(.int 0), (.int 0)] (.int 0) := (Arv.new A2 (by decide)).pad (pad_rep [] (.int 0) 2)
  have lt3 := own_l V2.lt
  have f5 := P1.ext E2
  obtain ⟨_, _, ⟨T4, L4, k4, n4⟩, -, X4, ⟨Lc4, hQ4, l4, y4, z4⟩, st4⟩ := Jvm.LawKit.callS X2 hx (y := m_10) hown (mvT hZ (w_74 hw)) (mvT hZ (w_75 hw)) (mvT hZ (w_72 hw)) (mvT hZ (w_76 hw)) (by decide) (backOf (W := 0) (rm_cm5_2_2 l Z a0 hw [] c0 c1 ch kc b2 k2 h2 n0 (by omega) f5 V2 (by omega) (own_ne (by omega)) hl0 hl1) hZ (w_76 hw) (w_72 hw) (by decide) (by decide)) (g := (mkF m 9 #[vA ch, vI 0, vI 2, vA b2, .unset, .unset] [(.int 2), (.int 0), (.ref b2), (.int 0), (.ref ch)])) rfl (by rw [hml]; rfl) (argsL := [(.ref ch), (.int 0), (.ref b2), (.int 0), (.int 2)]) (rest := []) (lenOf pd_3 rfl) rfl (Nat.le_of_eq rfl) (hb hby d148) (fun _ _ => ⟨rfl, e2, (by decide : 1 + 0 ≤ _), (by decide : 2 + 0 ≤ _)⟩)
  dsimp only [Pt.U, Pt.locs, Pt.cells, Pt.slots] at X4 l4 y4 z4 st4 hQ4
  rw [l4, y4, z4] at X4
  obtain ⟨rfl, Nq4, Kq4, r4_0⟩ := hQ4
  have N4 := Fr.app N0 Nq4
  have z4' := Kq4.1
  have K4 := K2.trans Kq4 (allS (Or.inr (by omega)) all0)
  have lt6 := own_l r4_0.lt
  have f7 := P0.ext E2
  have f8 := f7.keep Kq4 (allS (by omega) all0)
  refine ⟨_, _, _, _, some (.ref b2), X4, by decide, by decide, nofun, ?_, fun fs hr => castTop (ef_7 m ch (0 : Int32) (2 : Int32)) ?_⟩
  · show Q_cm3_2_2 Z c0 c1 ch kc h0 n0 _ T4.heap _
    exact ⟨b2, k2, rfl, N4, K4, (by omega), r4_0, f8⟩
  · show Steps _ _ _ (s₁.setTop (mkF m 0 #[vA ch, vI 0, vI 2, .unset, .unset, .unset] [])) _
    refine XS.iloadN X0.here hx rfl (hb hby d140) rfl ?_
    refine st2 _ ?_
    show Steps _ _ _ (T2.setTop (mkF m 3 #[vA ch, vI 0, vI 2, .unset, .unset, .unset] [(.ref b2)])) _
    refine XS.astoreN X2.here hx rfl (hb hby d142) rfl rfl (l' := #[vA ch, vI 0, vI 2, vA b2, .unset, .unset]) rfl ?_
    refine XS.aloadN X2.here hx rfl (hb hby d143) rfl rfl ?_
    refine XS.iloadN X2.here hx rfl (hb hby d144) rfl ?_
    refine XS.aloadN X2.here hx rfl (hb hby d145) rfl rfl ?_
    refine XS.iconst X2.here hx rfl (hb hby d146) ?_
    refine XS.iloadN X2.here hx rfl (hb hby d147) rfl ?_
    refine st4 _ ?_
    show Steps _ _ _ (T4.setTop (mkF m 12 #[vA ch, vI 0, vI 2, vA b2, .unset, .unset] [(.int 2)])) _
    refine XS.istore X4.here hx rfl (hb hby d149) rfl (l' := #[vA ch, vI 0, vI 2, vA b2, vI 2, .unset]) rfl ?_
    refine XS.iload X4.here hx rfl (hb hby d150) rfl ?_
    refine XS.iloadN X4.here hx rfl (hb hby d151) rfl ?_
    refine XS.icmpYes X4.here hx rfl (pc0 := 17) (pc' := 57) rfl (hb hby d152) rfl (teq ((by decide) : (2 : Int32) = (2 : Int32))).1 (by decide) (by decide) ?_
    refine XS.aloadN X4.here hx rfl (hb hby d176) rfl rfl ?_
    exact retOut X4 hx hret (own_narrow_ref rfl) (Or.inr (Or.inr (Or.inr (Or.inr ⟨rfl, rfl, rfl⟩)))) (hb hby d177) hr
def Q_cfl2_0 (Z : State) (b : Addr) (k : ClassId) (vs : List Value) (h0 : Heap) (n0 : Nat) (v : Option Value) (h : Heap) (L : List Loc) : Prop := (v = some (.int 0)) ∧ (Fr n0 L) ∧ (h = h0)
theorem rm_cfl2_0 (l : Launch) (Z : State) (a0 : Array Value) (hw : HW Z a0) (ws : List Jvm.Cond) (b : Addr) (k : ClassId) (vs : List Value) (h0 : Heap) (n0 : Nat) (Z0 : n0 ≤ h0.size) (P0 : Arv Z h0 b k .byte (2 : Int32) vs (.int 0)) :
    MF l Z m_12 jdk_52_method_15_code 2 (some .byte) ws (oR 0 0 0 0) #[(.ref b), (.int 2)] h0 (Q_cfl2_0 Z b k vs h0 n0) := by
  refine own_body (cls := "java/lang/StringUTF16") (plainFor_of_name pn_4) rfl (fun p e s m below meth c s₁ hx hby hml hown hnm hret hZ X0 e0 => ?_)
  have N0 := Fr.nil n0
  have lt1 := own_l P0.lt
  obtain ⟨cl2, Ar2, q2, S2, M2, H2, G2⟩ := id P0
  refine ⟨_, _, _, _, some (.int 0), X0, by decide, by decide, nofun, ?_, fun fs hr => castTop (ef_3 m b (2 : Int32)) ?_⟩
  · show Q_cfl2_0 Z b k vs h0 n0 _ s₁.heap _
    rw [(e0 : s₁.heap = h0)]
    exact ⟨rfl, N0, rfl⟩
  · show Steps _ _ _ (s₁.setTop (mkF m 0 #[vA b, vI 2] [])) _
    refine XS.iloadN X0.here hx rfl (hb hby d178) rfl ?_
    refine XS.aloadN X0.here hx rfl (hb hby d179) rfl rfl ?_
    refine X0.arraylength hx (by rw [e0]; exact Ar2.1) (State.isArrayOf_alike hZ.alike Ar2.2.1) (g := (mkF m 2 #[vA b, vI 2] [(.ref b), (.int 2)])) rfl rfl (hb hby d180) _ ?_
    rw [len_of S2 M2]
    show Steps _ _ _ (s₁.setTop (mkF m 3 #[vA b, vI 2] [(.int 2), (.int 2)])) _
    refine XS.isub X0.here hx rfl (hb hby d181) rfl ?_
    refine XS.bipush X0.here hx rfl (hb hby d182) ?_
    refine XS.iushr X0.here hx rfl (hb hby d183) rfl ?_
    refine XS.i2b X0.here hx rfl (hb hby d184) rfl ?_
    exact retN X0 hx (t := .byte) hret (by simp) (hb hby d185) hr
def Q_cfl2_1 (Z : State) (b : Addr) (k : ClassId) (vs : List Value) (h0 : Heap) (n0 : Nat) (v : Option Value) (h : Heap) (L : List Loc) : Prop := (v = some (.int 1)) ∧ (Fr n0 L) ∧ (h = h0)
theorem rm_cfl2_1 (l : Launch) (Z : State) (a0 : Array Value) (hw : HW Z a0) (ws : List Jvm.Cond) (b : Addr) (k : ClassId) (vs : List Value) (h0 : Heap) (n0 : Nat) (Z0 : n0 ≤ h0.size) (P0 : Arv Z h0 b k .byte (4 : Int32) vs (.int 0)) :
    MF l Z m_12 jdk_52_method_15_code 2 (some .byte) ws (oR 0 0 0 0) #[(.ref b), (.int 2)] h0 (Q_cfl2_1 Z b k vs h0 n0) := by
  refine own_body (cls := "java/lang/StringUTF16") (plainFor_of_name pn_4) rfl (fun p e s m below meth c s₁ hx hby hml hown hnm hret hZ X0 e0 => ?_)
  have N0 := Fr.nil n0
  have lt1 := own_l P0.lt
  obtain ⟨cl2, Ar2, q2, S2, M2, H2, G2⟩ := id P0
  refine ⟨_, _, _, _, some (.int 1), X0, by decide, by decide, nofun, ?_, fun fs hr => castTop (ef_3 m b (2 : Int32)) ?_⟩
  · show Q_cfl2_1 Z b k vs h0 n0 _ s₁.heap _
    rw [(e0 : s₁.heap = h0)]
    exact ⟨rfl, N0, rfl⟩
  · show Steps _ _ _ (s₁.setTop (mkF m 0 #[vA b, vI 2] [])) _
    refine XS.iloadN X0.here hx rfl (hb hby d178) rfl ?_
    refine XS.aloadN X0.here hx rfl (hb hby d179) rfl rfl ?_
    refine X0.arraylength hx (by rw [e0]; exact Ar2.1) (State.isArrayOf_alike hZ.alike Ar2.2.1) (g := (mkF m 2 #[vA b, vI 2] [(.ref b), (.int 2)])) rfl rfl (hb hby d180) _ ?_
    rw [len_of S2 M2]
    show Steps _ _ _ (s₁.setTop (mkF m 3 #[vA b, vI 2] [(.int 4), (.int 2)])) _
    refine XS.isub X0.here hx rfl (hb hby d181) rfl ?_
    refine XS.bipush X0.here hx rfl (hb hby d182) ?_
    refine XS.iushr X0.here hx rfl (hb hby d183) rfl ?_
    refine XS.i2b X0.here hx rfl (hb hby d184) rfl ?_
    exact retN X0 hx (t := .byte) hret (by simp) (hb hby d185) hr
def Q_cm5_3_0 (Z : State) (c0 : Int32) (c1 : Int32) (c2 : Int32) (ch : Addr) (kc : ClassId) (b : Addr) (k : ClassId) (h0 : Heap) (n0 : Nat) (v : Option Value) (h : Heap) (L : List Loc) : Prop := (v = some (.int 0)) ∧ (Fr n0 L) ∧ (Keep h0 h [b]) ∧ (Arv Z h b k .byte (3 : Int32) [(.int 0), (.int 0), (.int 0)] (.int 0))
theorem rm_cm5_3_0 (l : Launch) (Z : State) (a0 : Array Value) (hw : HW Z a0) (ws : List Jvm.Cond) (c0 : Int32) (c1 : Int32) (c2 : Int32) (ch : Addr) (kc : ClassId) (b : Addr) (k : ClassId) (h0 : Heap) (n0 : Nat) (Z0 : n0 ≤ h0.size) (P0 : Arv Z h0 ch kc .char (3 : Int32) [(.int c0), (.int c1), (.int c2)] (.int 0)) (P1 : Arv Z h0 b k .byte (3 : Int32) [(.int 0), (.int 0), (.int 0)] (.int 0)) (P2 : n0 ≤ b) (P3 : ch ≠ b) (hgt : (255 : Int32) < c0) :
    MF l Z m_10 jdk_52_method_21_code 7 (some .int) ws (oR 0 0 0 0) #[(.ref ch), (.int 0), (.ref b), (.int 0), (.int 3)] h0 (Q_cm5_3_0 Z c0 c1 c2 ch kc b k h0 n0) := by
  refine own_body (cls := "java/lang/StringUTF16") (plainFor_of_name pn_4) rfl (fun p e s m below meth c s₁ hx hby hml hown hnm hret hZ X0 e0 => ?_)
  have N0 := Fr.nil n0
  have K0 := Keep.refl h0 [b]
  have lt1 := own_l P0.lt
  have lt2 := own_l P1.lt
  obtain ⟨cl3, Ar3, q3, S3, M3, H3, G3⟩ := id P0
  have hin3 : ¬ ((0 : Int32) < 0 ∨ cl3.slots.size ≤ ((0 : Int32)).toNatClampNeg) := inb_of S3 ⟨by decide, by decide⟩
  have hat3 : cl3.slots[((0 : Int32)).toNatClampNeg]? = some (.int c0) := Has.at H3 hin3 rfl
  refine ⟨_, _, _, _, some (.int 0), X0, by decide, by decide, nofun, ?_, fun fs hr => castTop (ef_6 m ch (0 : Int32) b (0 : Int32) (3 : Int32)) ?_⟩
  · show Q_cm5_3_0 Z c0 c1 c2 ch kc b k h0 n0 _ s₁.heap _
    rw [(e0 : s₁.heap = h0)]
    exact ⟨rfl, N0, K0, P1⟩
  · show Steps _ _ _ (s₁.setTop (mkF m 0 #[vA ch, vI 0, vA b, vI 0, vI 3, .unset, .unset] [])) _
    refine XS.iconst X0.here hx rfl (hb hby d126) ?_
    refine XS.istore X0.here hx rfl (hb hby d127) rfl (l' := #[vA ch, vI 0, vA b, vI 0, vI 3, vI 0, .unset]) rfl ?_
    refine XS.iload X0.here hx rfl (hb hby d128) rfl ?_
    refine XS.iload X0.here hx rfl (hb hby d129) rfl ?_
    refine XS.icmpNo X0.here hx rfl (hb hby d130) rfl (tlt ((by decide) : (0 : Int32) < (3 : Int32))).2.1 ?_
    refine XS.aloadN X0.here hx rfl (hb hby d131) rfl rfl ?_
    refine XS.iloadN X0.here hx rfl (hb hby d132) rfl ?_
    refine X0.caload hx (j := (0 : Int32)) (v := (.int c0)) (by rw [e0]; exact Ar3.1) (State.isArrayOf_alike hZ.alike Ar3.2.1) Ar3.2.2 hin3 hat3 (g := (mkF m 12 #[vA ch, vI 0, vA b, vI 0, vI 3, vI 0, .unset] [(.int 0), (.ref ch)])) rfl rfl (hb hby d133) _ ?_
    show Steps _ _ _ (s₁.setTop (mkF m 13 #[vA ch, vI 0, vA b, vI 0, vI 3, vI 0, .unset] [(.int c0)])) _
    refine XS.istore X0.here hx rfl (hb hby d134) rfl (l' := #[vA ch, vI 0, vA b, vI 0, vI 3, vI 0, vI c0]) rfl ?_
    refine XS.iload X0.here hx rfl (hb hby d135) rfl ?_
    refine XS.sipush X0.here hx rfl (hb hby d136) ?_
    refine XS.icmpNo X0.here hx rfl (hb hby d137) rfl (tlt (hgt : (255 : Int32) < c0)).2.2.2 ?_
    refine XS.iload X0.here hx rfl (hb hby d138) rfl ?_
    exact retI X0 hx hret (hb hby d139) hr
def Q_cm3_3_0 (Z : State) (c0 : Int32) (c1 : Int32) (c2 : Int32) (ch : Addr) (kc : ClassId) (h0 : Heap) (n0 : Nat) (v : Option Value) (h : Heap) (L : List Loc) : Prop := ∃ (b : Addr) (k : ClassId), (v = some (.ref b)) ∧ (Fr n0 L) ∧ (Keep h0 h []) ∧ (h0.size ≤ b) ∧ (Arv Z h b k .byte (6 : Int32) [(.int (oL c0)), (.int (oH c0)), (.int (oL c1)), (.int (oH c1)), (.int (oL c2)), (.int (oH c2))] (.int 0)) ∧ (Old Z n0 h)
theorem rm_cm3_3_0 (l : Launch) (Z : State) (a0 : Array Value) (hw : HW Z a0) (ws : List Jvm.Cond) (c0 : Int32) (c1 : Int32) (c2 : Int32) (ch : Addr) (kc : ClassId) (h0 : Heap) (n0 : Nat) (Z0 : n0 ≤ h0.size) (P0 : Old Z n0 h0) (P1 : Arv Z h0 ch kc .char (3 : Int32) [(.int c0), (.int c1), (.int c2)] (.int 0)) (P2 : sta1 Z (.int 1)) (P3 : sta2 Z (.int 0)) (P4 : sta3 Z (.int 8)) (hgt : (255 : Int32) < c0) (r0 : ¬ c0 < 0 ∧ ¬ (65535 : Int32) < c0) :
    MF l Z m_11 jdk_52_method_16_code 6 (some (.array .byte)) ws (oR 3 2 9 40) #[(.ref ch), (.int 0), (.int 3)] h0 (Q_cm3_3_0 Z c0 c1 c2 ch kc h0 n0) := by
  refine own_body (cls := "java/lang/StringUTF16") (plainFor_of_name pn_4) rfl (fun p e s m below meth c s₁ hx hby hml hown hnm hret hZ X0 e0 => ?_)
  have N0 := Fr.nil n0
  have K0 := Keep.refl h0 []
  have lt1 := own_l P1.lt
  obtain ⟨T2, h2, k2, X2, e2, E2, A2, st2⟩ := newP X0 hx hZ (aty := .byte) (w_19 hw) e0 (g := (mkF m 1 #[vA ch, vI 0, vI 3, .unset, .unset, .unset] [(.int 3)])) rfl (hb hby d141) rfl (by decide) (cap := 3) (by decide) (by decide) (by decide) (by decide)
  obtain ⟨b2, g2⟩ : ∃ z, z = h0.size := ⟨_, rfl⟩
  rw [← g2] at A2 st2
  have z2 := E2.1
  have K2 := K0.ext E2
  have V2 : Arv Z h2 b2 k2 .byte (3 : Int32) [(.int 0), (.int 0), (.int 0)] (.int 0) := (Arv.new A2 (by decide)).pad (pad_rep [] (.int 0) 3)
  have lt3 := own_l V2.lt
  have f5 := P1.ext E2
  obtain ⟨_, _, ⟨T4, L4, k4, n4⟩, -, X4, ⟨Lc4, hQ4, l4, y4, z4⟩, st4⟩ := Jvm.LawKit.callS X2 hx (y := m_10) hown (mvT hZ (w_74 hw)) (mvT hZ (w_75 hw)) (mvT hZ (w_72 hw)) (mvT hZ (w_76 hw)) (by decide) (backOf (W := 0) (rm_cm5_3_0 l Z a0 hw [] c0 c1 c2 ch kc b2 k2 h2 n0 (by omega) f5 V2 (by omega) (own_ne (by omega)) hgt) hZ (w_76 hw) (w_72 hw) (by decide) (by decide)) (g := (mkF m 9 #[vA ch, vI 0, vI 3, vA b2, .unset, .unset] [(.int 3), (.int 0), (.ref b2), (.int 0), (.ref ch)])) rfl (by rw [hml]; rfl) (argsL := [(.ref ch), (.int 0), (.ref b2), (.int 0), (.int 3)]) (rest := []) (lenOf pd_3 rfl) rfl (Nat.le_of_eq rfl) (hb hby d148) (fun _ _ => ⟨rfl, e2, (by decide : 1 + 0 ≤ _), (by decide : 3 + 0 ≤ _)⟩)
  dsimp only [Pt.U, Pt.locs, Pt.cells, Pt.slots] at X4 l4 y4 z4 st4 hQ4
  rw [l4, y4, z4] at X4
  obtain ⟨rfl, Nq4, Kq4, r4_0⟩ := hQ4
  have N4 := Fr.app N0 Nq4
  have z4' := Kq4.1
  have K4 := K2.trans Kq4 (allS (Or.inr (by omega)) all0)
  have lt6 := own_l r4_0.lt
  have f8 := P0.ext E2
  have f9 := f8.keep Kq4 (allS (by omega) all0)
  have f10 := f5.keep Kq4 (ninS (own_ne (by omega)) nin0)
  obtain ⟨_, _, ⟨T7, L7, k7, n7⟩, -, X7, ⟨Lc7, hQ7, l7, y7, z7⟩, st7⟩ := Jvm.LawKit.callS X4 hx (y := m_9) hown (mvT hZ (w_86 hw)) (mvT hZ (w_87 hw)) (mvT hZ (w_72 hw)) (mvT hZ (w_88 hw)) (by decide) (backOf (W := 0) (rm_tob3 l Z a0 hw [] c0 c1 c2 ch kc T4.heap n0 (by omega) f9 f10 P2 P3 P4) hZ (w_88 hw) (w_72 hw) (by decide) (by decide)) (g := (mkF m 23 #[vA ch, vI 0, vI 3, vA b2, vI 0, .unset] [(.int 3), (.int 0), (.ref ch)])) rfl (by rw [hml]; rfl) (argsL := [(.ref ch), (.int 0), (.int 3)]) (rest := []) (lenOf pd_4 rfl) rfl (Nat.le_of_eq rfl) (hb hby d156) (fun _ _ => ⟨rfl, rfl, (by decide : 1 + 1 ≤ _), (by decide : 3 + 6 ≤ _)⟩)
  dsimp only [Pt.U, Pt.locs, Pt.cells, Pt.slots] at X7 l7 y7 z7 st7 hQ7
  rw [l7, y7, z7] at X7
  obtain ⟨x7_b, x7_k, rfl, Nq7, Kq7, r7_0, r7_1, r7_2⟩ := hQ7
  have N7 := Fr.app N4 Nq7
  have z7' := Kq7.1
  have K7 := K4.trans Kq7 all0
  have lt11 := own_l r7_1.lt
  obtain ⟨_, _, ⟨T12, L12, k12, n12⟩, -, X12, ⟨Lc12, hQ12, l12, y12, z12⟩, st12⟩ := Jvm.LawKit.callS X7 hx (y := m_5) hown (mvT hZ (w_102 hw)) (mvT hZ (w_103 hw)) (mvT hZ (w_72 hw)) (mvT hZ (w_104 hw)) (by decide) (backOf (W := 0) (rm_get3_0 l Z a0 hw [] c0 c1 c2 x7_b x7_k T7.heap n0 (by omega) r7_2 r7_1 P2 P3 P4 r0) hZ (w_104 hw) (w_72 hw) (by decide) (by decide)) (g := (mkF m 32 #[vA ch, vI 0, vI 3, vA b2, vI 0, vA x7_b] [(.int 0), (.ref x7_b)])) rfl (by rw [hml]; rfl) (argsL := [(.ref x7_b), (.int 0)]) (rest := []) (lenOf pd_5 rfl) rfl (Nat.le_of_eq rfl) (hb hby d160) (fun _ _ => ⟨rfl, rfl, (by decide : 2 + 0 ≤ _), (by decide : 9 + 0 ≤ _)⟩)
  dsimp only [Pt.U, Pt.locs, Pt.cells, Pt.slots] at X12 l12 y12 z12 st12 hQ12
  rw [l12, y12, z12] at X12
  obtain ⟨rfl, Nq12, Kq12⟩ := hQ12
  have N12 := Fr.app N7 Nq12
  refine ⟨_, _, _, _, some (.ref x7_b), X12, by decide, by decide, nofun, ?_, fun fs hr => castTop (ef_7 m ch (0 : Int32) (3 : Int32)) ?_⟩
  · show Q_cm3_3_0 Z c0 c1 c2 ch kc h0 n0 _ T12.heap _
    rw [(Kq12 : T12.heap = T7.heap)]
    exact ⟨x7_b, x7_k, rfl, N12, K7, (by omega), r7_1, r7_2⟩
  · show Steps _ _ _ (s₁.setTop (mkF m 0 #[vA ch, vI 0, vI 3, .unset, .unset, .unset] [])) _
    refine XS.iloadN X0.here hx rfl (hb hby d140) rfl ?_
    refine st2 _ ?_
    show Steps _ _ _ (T2.setTop (mkF m 3 #[vA ch, vI 0, vI 3, .unset, .unset, .unset] [(.ref b2)])) _
    refine XS.astoreN X2.here hx rfl (hb hby d142) rfl rfl (l' := #[vA ch, vI 0, vI 3, vA b2, .unset, .unset]) rfl ?_
    refine XS.aloadN X2.here hx rfl (hb hby d143) rfl rfl ?_
    refine XS.iloadN X2.here hx rfl (hb hby d144) rfl ?_
    refine XS.aloadN X2.here hx rfl (hb hby d145) rfl rfl ?_
    refine XS.iconst X2.here hx rfl (hb hby d146) ?_
    refine XS.iloadN X2.here hx rfl (hb hby d147) rfl ?_
    refine st4 _ ?_
    show Steps _ _ _ (T4.setTop (mkF m 12 #[vA ch, vI 0, vI 3, vA b2, .unset, .unset] [(.int 0)])) _
    refine XS.istore X4.here hx rfl (hb hby d149) rfl (l' := #[vA ch, vI 0, vI 3, vA b2, vI 0, .unset]) rfl ?_
    refine XS.iload X4.here hx rfl (hb hby d150) rfl ?_
    refine XS.iloadN X4.here hx rfl (hb hby d151) rfl ?_
    refine XS.icmpNo X4.here hx rfl (hb hby d152) rfl (feq ((by decide) : ¬ ((0 : Int32) = (3 : Int32)))).1 ?_
    refine XS.aloadN X4.here hx rfl (hb hby d153) rfl rfl ?_
    refine XS.iloadN X4.here hx rfl (hb hby d154) rfl ?_
    refine XS.iloadN X4.here hx rfl (hb hby d155) rfl ?_
    refine st7 _ ?_
    show Steps _ _ _ (T7.setTop (mkF m 26 #[vA ch, vI 0, vI 3, vA b2, vI 0, .unset] [(.ref x7_b)])) _
    refine XS.astore X7.here hx rfl (hb hby d157) rfl rfl (l' := #[vA ch, vI 0, vI 3, vA b2, vI 0, vA x7_b]) rfl ?_
    refine XS.aload X7.here hx rfl (hb hby d158) rfl rfl ?_
    refine XS.iload X7.here hx rfl (hb hby d159) rfl ?_
    refine st12 _ ?_
    show Steps _ _ _ (T12.setTop (mkF m 35 #[vA ch, vI 0, vI 3, vA b2, vI 0, vA x7_b] [(.int c0)])) _
    refine XS.sipush X12.here hx rfl (hb hby d161) ?_
    refine XS.icmpYes X12.here hx rfl (pc0 := 38) (pc' := 54) rfl (hb hby d162) rfl (tlt (hgt : (255 : Int32) < c0)).2.2.1 (by decide) (by decide) ?_
    refine XS.aload X12.here hx rfl (hb hby d163) rfl rfl ?_
    exact retOut X12 hx hret (own_narrow_ref rfl) (Or.inr (Or.inr (Or.inr (Or.inr ⟨rfl, rfl, rfl⟩)))) (hb hby d164) hr
def Q_cm5_3_1 (Z : State) (c0 : Int32) (c1 : Int32) (c2 : Int32) (ch : Addr) (kc : ClassId) (b : Addr) (k : ClassId) (h0 : Heap) (n0 : Nat) (v : Option Value) (h : Heap) (L : List Loc) : Prop := (v = some (.int 1)) ∧ (Fr n0 L) ∧ (Keep h0 h [b]) ∧ (Arv Z h b k .byte (3 : Int32) [(.int (oB c0)), (.int 0), (.int 0)] (.int 0))
theorem rm_cm5_3_1 (l : Launch) (Z : State) (a0 : Array Value) (hw : HW Z a0) (ws : List Jvm.Cond) (c0 : Int32) (c1 : Int32) (c2 : Int32) (ch : Addr) (kc : ClassId) (b : Addr) (k : ClassId) (h0 : Heap) (n0 : Nat) (Z0 : n0 ≤ h0.size) (P0 : Arv Z h0 ch kc .char (3 : Int32) [(.int c0), (.int c1), (.int c2)] (.int 0)) (P1 : Arv Z h0 b k .byte (3 : Int32) [(.int 0), (.int 0), (.int 0)] (.int 0)) (P2 : n0 ≤ b) (P3 : ch ≠ b) (hl0 : ¬ ((255 : Int32) < c0)) (hgt : (255 : Int32) < c1) :
    MF l Z m_10 jdk_52_method_21_code 7 (some .int) ws (oR 0 0 0 0) #[(.ref ch), (.int 0), (.ref b), (.int 0), (.int 3)] h0 (Q_cm5_3_1 Z c0 c1 c2 ch kc b k h0 n0) := by
  refine own_body (cls := "java/lang/StringUTF16") (plainFor_of_name pn_4) rfl (fun p e s m below meth c s₁ hx hby hml hown hnm hret hZ X0 e0 => ?_)
  have N0 := Fr.nil n0
  have K0 := Keep.refl h0 [b]
  have lt1 := own_l P0.lt
  have lt2 := own_l P1.lt
  obtain ⟨cl3, Ar3, q3, S3, M3, H3, G3⟩ := id P0
  have hin3 : ¬ ((0 : Int32) < 0 ∨ cl3.slots.size ≤ ((0 : Int32)).toNatClampNeg) := inb_of S3 ⟨by decide, by decide⟩
  have hat3 : cl3.slots[((0 : Int32)).toNatClampNeg]? = some (.int c0) := Has.at H3 hin3 rfl
  obtain ⟨cl4, Ar4, q4, S4, M4, H4, G4⟩ := id P1
  have hin4 : ¬ ((0 : Int32) < 0 ∨ cl4.slots.size ≤ ((0 : Int32)).toNatClampNeg) := inb_of S4 ⟨by decide, by decide⟩
  obtain ⟨T4, h4, X4, e4, W4, st4⟩ := stB X0 hx hZ e0 Ar4 (j := (0 : Int32)) hin4 (g := (mkF m 31 #[vA ch, vI 0, vA b, vI 0, vI 3, vI 0, vI c0] [(.int (c0.toInt8.toInt32)), (.int 0), (.ref b)])) rfl rfl (hb hby d169)
  have V4 : Arv Z h4 b k .byte (3 : Int32) [(.int (nar .byte (c0.toInt8.toInt32))), (.int 0), (.int 0)] (.int 0) := Arv.set Ar4 q4 S4 M4 H4 G4 (fits_nar_byte (c0.toInt8.toInt32)) W4 0 rfl (Nat.le_of_ble_eq_true rfl)
  have z4 := W4.size
  have K4 := K0.wr W4 (Or.inl (List.mem_of_getElem? (i := 0) rfl))
  have N4 := Fr.snoc X4 N0 (by omega)
  have f6 := P0.other W4 (fun q => P3 q)
  obtain ⟨cl5, Ar5, q5, S5, M5, H5, G5⟩ := id f6
  have hin5 : ¬ ((1 : Int32) < 0 ∨ cl5.slots.size ≤ ((1 : Int32)).toNatClampNeg) := inb_of S5 ⟨by decide, by decide⟩
  have hat5 : cl5.slots[((1 : Int32)).toNatClampNeg]? = some (.int c1) := Has.at H5 hin5 rfl
  refine ⟨_, _, _, _, some (.int 1), X4, by decide, by decide, nofun, ?_, fun fs hr => castTop (ef_6 m ch (0 : Int32) b (0 : Int32) (3 : Int32)) ?_⟩
  · show Q_cm5_3_1 Z c0 c1 c2 ch kc b k h0 n0 _ T4.heap _
    rw [(e4 : T4.heap = h4)]
    exact ⟨rfl, N4, K4, V4⟩
  · show Steps _ _ _ (s₁.setTop (mkF m 0 #[vA ch, vI 0, vA b, vI 0, vI 3, .unset, .unset] [])) _
    refine XS.iconst X0.here hx rfl (hb hby d126) ?_
    refine XS.istore X0.here hx rfl (hb hby d127) rfl (l' := #[vA ch, vI 0, vA b, vI 0, vI 3, vI 0, .unset]) rfl ?_
    refine XS.iload X0.here hx rfl (hb hby d128) rfl ?_
    refine XS.iload X0.here hx rfl (hb hby d129) rfl ?_
    refine XS.icmpNo X0.here hx rfl (hb hby d130) rfl (tlt ((by decide) : (0 : Int32) < (3 : Int32))).2.1 ?_
    refine XS.aloadN X0.here hx rfl (hb hby d131) rfl rfl ?_
    refine XS.iloadN X0.here hx rfl (hb hby d132) rfl ?_
    refine X0.caload hx (j := (0 : Int32)) (v := (.int c0)) (by rw [e0]; exact Ar3.1) (State.isArrayOf_alike hZ.alike Ar3.2.1) Ar3.2.2 hin3 hat3 (g := (mkF m 12 #[vA ch, vI 0, vA b, vI 0, vI 3, vI 0, .unset] [(.int 0), (.ref ch)])) rfl rfl (hb hby d133) _ ?_
    show Steps _ _ _ (s₁.setTop (mkF m 13 #[vA ch, vI 0, vA b, vI 0, vI 3, vI 0, .unset] [(.int c0)])) _
    refine XS.istore X0.here hx rfl (hb hby d134) rfl (l' := #[vA ch, vI 0, vA b, vI 0, vI 3, vI 0, vI c0]) rfl ?_
    refine XS.iload X0.here hx rfl (hb hby d135) rfl ?_
    refine XS.sipush X0.here hx rfl (hb hby d136) ?_
    refine XS.icmpYes X0.here hx rfl (pc0 := 20) (pc' := 26) rfl (hb hby d137) rfl (flt (hl0 : ¬ ((255 : Int32) < c0))).2.2.2 (by decide) (by decide) ?_
    refine XS.aloadN X0.here hx rfl (hb hby d165) rfl rfl ?_
    refine XS.iloadN X0.here hx rfl (hb hby d166) rfl ?_
    refine XS.iload X0.here hx rfl (hb hby d167) rfl ?_
    refine XS.i2b X0.here hx rfl (hb hby d168) rfl ?_
    refine st4 _ ?_
    show Steps _ _ _ (T4.setTop (mkF m 32 #[vA ch, vI 0, vA b, vI 0, vI 3, vI 0, vI c0] [])) _
    refine XS.iinc X4.here hx rfl (hb hby d170) rfl (l' := #[vA ch, vI 1, vA b, vI 0, vI 3, vI 0, vI c0]) rfl ?_
    refine XS.iinc X4.here hx rfl (hb hby d171) rfl (l' := #[vA ch, vI 1, vA b, vI 1, vI 3, vI 0, vI c0]) rfl ?_
    refine XS.iinc X4.here hx rfl (hb hby d172) rfl (l' := #[vA ch, vI 1, vA b, vI 1, vI 3, vI 1, vI c0]) rfl ?_
    refine XS.goto X4.here hx rfl (pc0 := 41) (pc' := 3) rfl (hb hby d173) (by decide) (by decide) ?_
    refine XS.iload X4.here hx rfl (hb hby d128) rfl ?_
    refine XS.iload X4.here hx rfl (hb hby d129) rfl ?_
    refine XS.icmpNo X4.here hx rfl (hb hby d130) rfl (tlt ((by decide) : (1 : Int32) < (3 : Int32))).2.1 ?_
    refine XS.aloadN X4.here hx rfl (hb hby d131) rfl rfl ?_
    refine XS.iloadN X4.here hx rfl (hb hby d132) rfl ?_
    refine X4.caload hx (j := (1 : Int32)) (v := (.int c1)) (by rw [e4]; exact Ar5.1) (State.isArrayOf_alike hZ.alike Ar5.2.1) Ar5.2.2 hin5 hat5 (g := (mkF m 12 #[vA ch, vI 1, vA b, vI 1, vI 3, vI 1, vI c0] [(.int 1), (.ref ch)])) rfl rfl (hb hby d133) _ ?_
    show Steps _ _ _ (T4.setTop (mkF m 13 #[vA ch, vI 1, vA b, vI 1, vI 3, vI 1, vI c0] [(.int c1)])) _
    refine XS.istore X4.here hx rfl (hb hby d134) rfl (l' := #[vA ch, vI 1, vA b, vI 1, vI 3, vI 1, vI c1]) rfl ?_
    refine XS.iload X4.here hx rfl (hb hby d135) rfl ?_
    refine XS.sipush X4.here hx rfl (hb hby d136) ?_
    refine XS.icmpNo X4.here hx rfl (hb hby d137) rfl (tlt (hgt : (255 : Int32) < c1)).2.2.2 ?_
    refine XS.iload X4.here hx rfl (hb hby d138) rfl ?_
    exact retI X4 hx hret (hb hby d139) hr
def Q_cm3_3_1 (Z : State) (c0 : Int32) (c1 : Int32) (c2 : Int32) (ch : Addr) (kc : ClassId) (h0 : Heap) (n0 : Nat) (v : Option Value) (h : Heap) (L : List Loc) : Prop := ∃ (b : Addr) (k : ClassId), (v = some (.ref b)) ∧ (Fr n0 L) ∧ (Keep h0 h []) ∧ (h0.size ≤ b) ∧ (Arv Z h b k .byte (6 : Int32) [(.int (oL c0)), (.int (oH c0)), (.int (oL c1)), (.int (oH c1)), (.int (oL c2)), (.int (oH c2))] (.int 0)) ∧ (Old Z n0 h)
theorem rm_cm3_3_1 (l : Launch) (Z : State) (a0 : Array Value) (hw : HW Z a0) (ws : List Jvm.Cond) (c0 : Int32) (c1 : Int32) (c2 : Int32) (ch : Addr) (kc : ClassId) (h0 : Heap) (n0 : Nat) (Z0 : n0 ≤ h0.size) (P0 : Old Z n0 h0) (P1 : Arv Z h0 ch kc .char (3 : Int32) [(.int c0), (.int c1), (.int c2)] (.int 0)) (P2 : sta1 Z (.int 1)) (P3 : sta2 Z (.int 0)) (P4 : sta3 Z (.int 8)) (hl0 : ¬ ((255 : Int32) < c0)) (hgt : (255 : Int32) < c1) (r1 : ¬ c1 < 0 ∧ ¬ (65535 : Int32) < c1) :
    MF l Z m_11 jdk_52_method_16_code 6 (some (.array .byte)) ws (oR 3 2 9 40) #[(.ref ch), (.int 0), (.int 3)] h0 (Q_cm3_3_1 Z c0 c1 c2 ch kc h0 n0) := by
  refine own_body (cls := "java/lang/StringUTF16") (plainFor_of_name pn_4) rfl (fun p e s m below meth c s₁ hx hby hml hown hnm hret hZ X0 e0 => ?_)
  have N0 := Fr.nil n0
  have K0 := Keep.refl h0 []
  have lt1 := own_l P1.lt
  obtain ⟨T2, h2, k2, X2, e2, E2, A2, st2⟩ := newP X0 hx hZ (aty := .byte) (w_19 hw) e0 (g := (mkF m 1 #[vA ch, vI 0, vI 3, .unset, .unset, .unset] [(.int 3)])) rfl (hb hby d141) rfl (by decide) (cap := 3) (by decide) (by decide) (by decide) (by decide)
  obtain ⟨b2, g2⟩ : ∃ z, z = h0.size := ⟨_, rfl⟩
  rw [← g2] at A2 st2
  have z2 := E2.1
  have K2 := K0.ext E2
  have V2 : Arv Z h2 b2 k2 .byte (3 : Int32) [(.int 0), (.int 0), (.int 0)] (.int 0) := (Arv.new A2 (by decide)).pad (pad_rep [] (.int 0) 3)
  have lt3 := own_l V2.lt
  have f5 := P1.ext E2
  obtain ⟨_, _, ⟨T4, L4, k4, n4⟩, -, X4, ⟨Lc4, hQ4, l4, y4, z4⟩, st4⟩ := Jvm.LawKit.callS X2 hx (y := m_10) hown (mvT hZ (w_74 hw)) (mvT hZ (w_75 hw)) (mvT hZ (w_72 hw)) (mvT hZ (w_76 hw)) (by decide) (backOf (W := 0) (rm_cm5_3_1 l Z a0 hw [] c0 c1 c2 ch kc b2 k2 h2 n0 (by omega) f5 V2 (by omega) (own_ne (by omega)) hl0 hgt) hZ (w_76 hw) (w_72 hw) (by decide) (by decide)) (g := (mkF m 9 #[vA ch, vI 0, vI 3, vA b2, .unset, .unset] [(.int 3), (.int 0), (.ref b2), (.int 0), (.ref ch)])) rfl (by rw [hml]; rfl) (argsL := [(.ref ch), (.int 0), (.ref b2), (.int 0), (.int 3)]) (rest := []) (lenOf pd_3 rfl) rfl (Nat.le_of_eq rfl) (hb hby d148) (fun _ _ => ⟨rfl, e2, (by decide : 1 + 0 ≤ _), (by decide : 3 + 0 ≤ _)⟩)
  dsimp only [Pt.U, Pt.locs, Pt.cells, Pt.slots] at X4 l4 y4 z4 st4 hQ4
  rw [l4, y4, z4] at X4
  obtain ⟨rfl, Nq4, Kq4, r4_0⟩ := hQ4
  have N4 := Fr.app N0 Nq4
  have z4' := Kq4.1
  have K4 := K2.trans Kq4 (allS (Or.inr (by omega)) all0)
  have lt6 := own_l r4_0.lt
  have f8 := P0.ext E2
  have f9 := f8.keep Kq4 (allS (by omega) all0)
  have f10 := f5.keep Kq4 (ninS (own_ne (by omega)) nin0)
  obtain ⟨_, _, ⟨T7, L7, k7, n7⟩, -, X7, ⟨Lc7, hQ7, l7, y7, z7⟩, st7⟩ := Jvm.LawKit.callS X4 hx (y := m_9) hown (mvT hZ (w_86 hw)) (mvT hZ (w_87 hw)) (mvT hZ (w_72 hw)) (mvT hZ (w_88 hw)) (by decide) (backOf (W := 0) (rm_tob3 l Z a0 hw [] c0 c1 c2 ch kc T4.heap n0 (by omega) f9 f10 P2 P3 P4) hZ (w_88 hw) (w_72 hw) (by decide) (by decide)) (g := (mkF m 23 #[vA ch, vI 0, vI 3, vA b2, vI 1, .unset] [(.int 3), (.int 0), (.ref ch)])) rfl (by rw [hml]; rfl) (argsL := [(.ref ch), (.int 0), (.int 3)]) (rest := []) (lenOf pd_4 rfl) rfl (Nat.le_of_eq rfl) (hb hby d156) (fun _ _ => ⟨rfl, rfl, (by decide : 1 + 1 ≤ _), (by decide : 3 + 6 ≤ _)⟩)
  dsimp only [Pt.U, Pt.locs, Pt.cells, Pt.slots] at X7 l7 y7 z7 st7 hQ7
  rw [l7, y7, z7] at X7
  obtain ⟨x7_b, x7_k, rfl, Nq7, Kq7, r7_0, r7_1, r7_2⟩ := hQ7
  have N7 := Fr.app N4 Nq7
  have z7' := Kq7.1
  have K7 := K4.trans Kq7 all0
  have lt11 := own_l r7_1.lt
  obtain ⟨_, _, ⟨T12, L12, k12, n12⟩, -, X12, ⟨Lc12, hQ12, l12, y12, z12⟩, st12⟩ := Jvm.LawKit.callS X7 hx (y := m_5) hown (mvT hZ (w_102 hw)) (mvT hZ (w_103 hw)) (mvT hZ (w_72 hw)) (mvT hZ (w_104 hw)) (by decide) (backOf (W := 0) (rm_get3_1 l Z a0 hw [] c0 c1 c2 x7_b x7_k T7.heap n0 (by omega) r7_2 r7_1 P2 P3 P4 r1) hZ (w_104 hw) (w_72 hw) (by decide) (by decide)) (g := (mkF m 32 #[vA ch, vI 0, vI 3, vA b2, vI 1, vA x7_b] [(.int 1), (.ref x7_b)])) rfl (by rw [hml]; rfl) (argsL := [(.ref x7_b), (.int 1)]) (rest := []) (lenOf pd_5 rfl) rfl (Nat.le_of_eq rfl) (hb hby d160) (fun _ _ => ⟨rfl, rfl, (by decide : 2 + 0 ≤ _), (by decide : 9 + 0 ≤ _)⟩)
  dsimp only [Pt.U, Pt.locs, Pt.cells, Pt.slots] at X12 l12 y12 z12 st12 hQ12
  rw [l12, y12, z12] at X12
  obtain ⟨rfl, Nq12, Kq12⟩ := hQ12
  have N12 := Fr.app N7 Nq12
  refine ⟨_, _, _, _, some (.ref x7_b), X12, by decide, by decide, nofun, ?_, fun fs hr => castTop (ef_7 m ch (0 : Int32) (3 : Int32)) ?_⟩
  · show Q_cm3_3_1 Z c0 c1 c2 ch kc h0 n0 _ T12.heap _
    rw [(Kq12 : T12.heap = T7.heap)]
    exact ⟨x7_b, x7_k, rfl, N12, K7, (by omega), r7_1, r7_2⟩
  · show Steps _ _ _ (s₁.setTop (mkF m 0 #[vA ch, vI 0, vI 3, .unset, .unset, .unset] [])) _
    refine XS.iloadN X0.here hx rfl (hb hby d140) rfl ?_
    refine st2 _ ?_
    show Steps _ _ _ (T2.setTop (mkF m 3 #[vA ch, vI 0, vI 3, .unset, .unset, .unset] [(.ref b2)])) _
    refine XS.astoreN X2.here hx rfl (hb hby d142) rfl rfl (l' := #[vA ch, vI 0, vI 3, vA b2, .unset, .unset]) rfl ?_
    refine XS.aloadN X2.here hx rfl (hb hby d143) rfl rfl ?_
    refine XS.iloadN X2.here hx rfl (hb hby d144) rfl ?_
    refine XS.aloadN X2.here hx rfl (hb hby d145) rfl rfl ?_
    refine XS.iconst X2.here hx rfl (hb hby d146) ?_
    refine XS.iloadN X2.here hx rfl (hb hby d147) rfl ?_
    refine st4 _ ?_
    show Steps _ _ _ (T4.setTop (mkF m 12 #[vA ch, vI 0, vI 3, vA b2, .unset, .unset] [(.int 1)])) _
    refine XS.istore X4.here hx rfl (hb hby d149) rfl (l' := #[vA ch, vI 0, vI 3, vA b2, vI 1, .unset]) rfl ?_
    refine XS.iload X4.here hx rfl (hb hby d150) rfl ?_
    refine XS.iloadN X4.here hx rfl (hb hby d151) rfl ?_
    refine XS.icmpNo X4.here hx rfl (hb hby d152) rfl (feq ((by decide) : ¬ ((1 : Int32) = (3 : Int32)))).1 ?_
    refine XS.aloadN X4.here hx rfl (hb hby d153) rfl rfl ?_
    refine XS.iloadN X4.here hx rfl (hb hby d154) rfl ?_
    refine XS.iloadN X4.here hx rfl (hb hby d155) rfl ?_
    refine st7 _ ?_
    show Steps _ _ _ (T7.setTop (mkF m 26 #[vA ch, vI 0, vI 3, vA b2, vI 1, .unset] [(.ref x7_b)])) _
    refine XS.astore X7.here hx rfl (hb hby d157) rfl rfl (l' := #[vA ch, vI 0, vI 3, vA b2, vI 1, vA x7_b]) rfl ?_
    refine XS.aload X7.here hx rfl (hb hby d158) rfl rfl ?_
    refine XS.iload X7.here hx rfl (hb hby d159) rfl ?_
    refine st12 _ ?_
    show Steps _ _ _ (T12.setTop (mkF m 35 #[vA ch, vI 0, vI 3, vA b2, vI 1, vA x7_b] [(.int c1)])) _
    refine XS.sipush X12.here hx rfl (hb hby d161) ?_
    refine XS.icmpYes X12.here hx rfl (pc0 := 38) (pc' := 54) rfl (hb hby d162) rfl (tlt (hgt : (255 : Int32) < c1)).2.2.1 (by decide) (by decide) ?_
    refine XS.aload X12.here hx rfl (hb hby d163) rfl rfl ?_
    exact retOut X12 hx hret (own_narrow_ref rfl) (Or.inr (Or.inr (Or.inr (Or.inr ⟨rfl, rfl, rfl⟩)))) (hb hby d164) hr
def Q_cm5_3_2 (Z : State) (c0 : Int32) (c1 : Int32) (c2 : Int32) (ch : Addr) (kc : ClassId) (b : Addr) (k : ClassId) (h0 : Heap) (n0 : Nat) (v : Option Value) (h : Heap) (L : List Loc) : Prop := (v = some (.int 2)) ∧ (Fr n0 L) ∧ (Keep h0 h [b]) ∧ (Arv Z h b k .byte (3 : Int32) [(.int (oB c0)), (.int (oB c1)), (.int 0)] (.int 0))
theorem rm_cm5_3_2 (l : Launch) (Z : State) (a0 : Array Value) (hw : HW Z a0) (ws : List Jvm.Cond) (c0 : Int32) (c1 : Int32) (c2 : Int32) (ch : Addr) (kc : ClassId) (b : Addr) (k : ClassId) (h0 : Heap) (n0 : Nat) (Z0 : n0 ≤ h0.size) (P0 : Arv Z h0 ch kc .char (3 : Int32) [(.int c0), (.int c1), (.int c2)] (.int 0)) (P1 : Arv Z h0 b k .byte (3 : Int32) [(.int 0), (.int 0), (.int 0)] (.int 0)) (P2 : n0 ≤ b) (P3 : ch ≠ b) (hl0 : ¬ ((255 : Int32) < c0)) (hl1 : ¬ ((255 : Int32) < c1)) (hgt : (255 : Int32) < c2) :
    MF l Z m_10 jdk_52_method_21_code 7 (some .int) ws (oR 0 0 0 0) #[(.ref ch), (.int 0), (.ref b), (.int 0), (.int 3)] h0 (Q_cm5_3_2 Z c0 c1 c2 ch kc b k h0 n0) := by
  refine own_body (cls := "java/lang/StringUTF16") (plainFor_of_name pn_4) rfl (fun p e s m below meth c s₁ hx hby hml hown hnm hret hZ X0 e0 => ?_)
  have N0 := Fr.nil n0
  have K0 := Keep.refl h0 [b]
  have lt1 := own_l P0.lt
  have lt2 := own_l P1.lt
  obtain ⟨cl3, Ar3, q3, S3, M3, H3, G3⟩ := id P0
  have hin3 : ¬ ((0 : Int32) < 0 ∨ cl3.slots.size ≤ ((0 : Int32)).toNatClampNeg) := inb_of S3 ⟨by decide, by decide⟩
  have hat3 : cl3.slots[((0 : Int32)).toNatClampNeg]? = some (.int c0) := Has.at H3 hin3 rfl
  obtain ⟨cl4, Ar4, q4, S4, M4, H4, G4⟩ := id P1
  have hin4 : ¬ ((0 : Int32) < 0 ∨ cl4.slots.size ≤ ((0 : Int32)).toNatClampNeg) := inb_of S4 ⟨by decide, by decide⟩
  obtain ⟨T4, h4, X4, e4, W4, st4⟩ := stB X0 hx hZ e0 Ar4 (j := (0 : Int32)) hin4 (g := (mkF m 31 #[vA ch, vI 0, vA b, vI 0, vI 3, vI 0, vI c0] [(.int (c0.toInt8.toInt32)), (.int 0), (.ref b)])) rfl rfl (hb hby d169)
  have V4 : Arv Z h4 b k .byte (3 : Int32) [(.int (nar .byte (c0.toInt8.toInt32))), (.int 0), (.int 0)] (.int 0) := Arv.set Ar4 q4 S4 M4 H4 G4 (fits_nar_byte (c0.toInt8.toInt32)) W4 0 rfl (Nat.le_of_ble_eq_true rfl)
  have z4 := W4.size
  have K4 := K0.wr W4 (Or.inl (List.mem_of_getElem? (i := 0) rfl))
  have N4 := Fr.snoc X4 N0 (by omega)
  have f6 := P0.other W4 (fun q => P3 q)
  obtain ⟨cl5, Ar5, q5, S5, M5, H5, G5⟩ := id f6
  have hin5 : ¬ ((1 : Int32) < 0 ∨ cl5.slots.size ≤ ((1 : Int32)).toNatClampNeg) := inb_of S5 ⟨by decide, by decide⟩
  have hat5 : cl5.slots[((1 : Int32)).toNatClampNeg]? = some (.int c1) := Has.at H5 hin5 rfl
  obtain ⟨cl7, Ar7, q7, S7, M7, H7, G7⟩ := id V4
  have hin7 : ¬ ((1 : Int32) < 0 ∨ cl7.slots.size ≤ ((1 : Int32)).toNatClampNeg) := inb_of S7 ⟨by decide, by decide⟩
  obtain ⟨T7, h7, X7, e7, W7, st7⟩ := stB X4 hx hZ e4 Ar7 (j := (1 : Int32)) hin7 (g := (mkF m 31 #[vA ch, vI 1, vA b, vI 1, vI 3, vI 1, vI c1] [(.int (c1.toInt8.toInt32)), (.int 1), (.ref b)])) rfl rfl (hb hby d169)
  have V7 : Arv Z h7 b k .byte (3 : Int32) [(.int (nar .byte (c0.toInt8.toInt32))), (.int (nar .byte (c1.toInt8.toInt32))), (.int 0)] (.int 0) := Arv.set Ar7 q7 S7 M7 H7 G7 (fits_nar_byte (c1.toInt8.toInt32)) W7 1 rfl (Nat.le_of_ble_eq_true rfl)
  have z7 := W7.size
  have K7 := K4.wr W7 (Or.inl (List.mem_of_getElem? (i := 0) rfl))
  have N7 := Fr.snoc X7 N4 (by omega)
  have f9 := f6.other W7 (fun q => P3 q)
  obtain ⟨cl8, Ar8, q8, S8, M8, H8, G8⟩ := id f9
  have hin8 : ¬ ((2 : Int32) < 0 ∨ cl8.slots.size ≤ ((2 : Int32)).toNatClampNeg) := inb_of S8 ⟨by decide, by decide⟩
  have hat8 : cl8.slots[((2 : Int32)).toNatClampNeg]? = some (.int c2) := Has.at H8 hin8 rfl
  refine ⟨_, _, _, _, some (.int 2), X7, by decide, by decide, nofun, ?_, fun fs hr => castTop (ef_6 m ch (0 : Int32) b (0 : Int32) (3 : Int32)) ?_⟩
  · show Q_cm5_3_2 Z c0 c1 c2 ch kc b k h0 n0 _ T7.heap _
    rw [(e7 : T7.heap = h7)]
    exact ⟨rfl, N7, K7, V7⟩
  · show Steps _ _ _ (s₁.setTop (mkF m 0 #[vA ch, vI 0, vA b, vI 0, vI 3, .unset, .unset] [])) _
    refine XS.iconst X0.here hx rfl (hb hby d126) ?_
    refine XS.istore X0.here hx rfl (hb hby d127) rfl (l' := #[vA ch, vI 0, vA b, vI 0, vI 3, vI 0, .unset]) rfl ?_
    refine XS.iload X0.here hx rfl (hb hby d128) rfl ?_
    refine XS.iload X0.here hx rfl (hb hby d129) rfl ?_
    refine XS.icmpNo X0.here hx rfl (hb hby d130) rfl (tlt ((by decide) : (0 : Int32) < (3 : Int32))).2.1 ?_
    refine XS.aloadN X0.here hx rfl (hb hby d131) rfl rfl ?_
    refine XS.iloadN X0.here hx rfl (hb hby d132) rfl ?_
    refine X0.caload hx (j := (0 : Int32)) (v := (.int c0)) (by rw [e0]; exact Ar3.1) (State.isArrayOf_alike hZ.alike Ar3.2.1) Ar3.2.2 hin3 hat3 (g := (mkF m 12 #[vA ch, vI 0, vA b, vI 0, vI 3, vI 0, .unset] [(.int 0), (.ref ch)])) rfl rfl (hb hby d133) _ ?_
    show Steps _ _ _ (s₁.setTop (mkF m 13 #[vA ch, vI 0, vA b, vI 0, vI 3, vI 0, .unset] [(.int c0)])) _
    refine XS.istore X0.here hx rfl (hb hby d134) rfl (l' := #[vA ch, vI 0, vA b, vI 0, vI 3, vI 0, vI c0]) rfl ?_
    refine XS.iload X0.here hx rfl (hb hby d135) rfl ?_
    refine XS.sipush X0.here hx rfl (hb hby d136) ?_
    refine XS.icmpYes X0.here hx rfl (pc0 := 20) (pc' := 26) rfl (hb hby d137) rfl (flt (hl0 : ¬ ((255 : Int32) < c0))).2.2.2 (by decide) (by decide) ?_
    refine XS.aloadN X0.here hx rfl (hb hby d165) rfl rfl ?_
    refine XS.iloadN X0.here hx rfl (hb hby d166) rfl ?_
    refine XS.iload X0.here hx rfl (hb hby d167) rfl ?_
    refine XS.i2b X0.here hx rfl (hb hby d168) rfl ?_
    refine st4 _ ?_
    show Steps _ _ _ (T4.setTop (mkF m 32 #[vA ch, vI 0, vA b, vI 0, vI 3, vI 0, vI c0] [])) _
    refine XS.iinc X4.here hx rfl (hb hby d170) rfl (l' := #[vA ch, vI 1, vA b, vI 0, vI 3, vI 0, vI c0]) rfl ?_
    refine XS.iinc X4.here hx rfl (hb hby d171) rfl (l' := #[vA ch, vI 1, vA b, vI 1, vI 3, vI 0, vI c0]) rfl ?_
    refine XS.iinc X4.here hx rfl (hb hby d172) rfl (l' := #[vA ch, vI 1, vA b, vI 1, vI 3, vI 1, vI c0]) rfl ?_
    refine XS.goto X4.here hx rfl (pc0 := 41) (pc' := 3) rfl (hb hby d173) (by decide) (by decide) ?_
    refine XS.iload X4.here hx rfl (hb hby d128) rfl ?_
    refine XS.iload X4.here hx rfl (hb hby d129) rfl ?_
    refine XS.icmpNo X4.here hx rfl (hb hby d130) rfl (tlt ((by decide) : (1 : Int32) < (3 : Int32))).2.1 ?_
    refine XS.aloadN X4.here hx rfl (hb hby d131) rfl rfl ?_
    refine XS.iloadN X4.here hx rfl (hb hby d132) rfl ?_
    refine X4.caload hx (j := (1 : Int32)) (v := (.int c1)) (by rw [e4]; exact Ar5.1) (State.isArrayOf_alike hZ.alike Ar5.2.1) Ar5.2.2 hin5 hat5 (g := (mkF m 12 #[vA ch, vI 1, vA b, vI 1, vI 3, vI 1, vI c0] [(.int 1), (.ref ch)])) rfl rfl (hb hby d133) _ ?_
    show Steps _ _ _ (T4.setTop (mkF m 13 #[vA ch, vI 1, vA b, vI 1, vI 3, vI 1, vI c0] [(.int c1)])) _
    refine XS.istore X4.here hx rfl (hb hby d134) rfl (l' := #[vA ch, vI 1, vA b, vI 1, vI 3, vI 1, vI c1]) rfl ?_
    refine XS.iload X4.here hx rfl (hb hby d135) rfl ?_
    refine XS.sipush X4.here hx rfl (hb hby d136) ?_
    refine XS.icmpYes X4.here hx rfl (pc0 := 20) (pc' := 26) rfl (hb hby d137) rfl (flt (hl1 : ¬ ((255 : Int32) < c1))).2.2.2 (by decide) (by decide) ?_
    refine XS.aloadN X4.here hx rfl (hb hby d165) rfl rfl ?_
    refine XS.iloadN X4.here hx rfl (hb hby d166) rfl ?_
    refine XS.iload X4.here hx rfl (hb hby d167) rfl ?_
    refine XS.i2b X4.here hx rfl (hb hby d168) rfl ?_
    refine st7 _ ?_
    show Steps _ _ _ (T7.setTop (mkF m 32 #[vA ch, vI 1, vA b, vI 1, vI 3, vI 1, vI c1] [])) _
    refine XS.iinc X7.here hx rfl (hb hby d170) rfl (l' := #[vA ch, vI 2, vA b, vI 1, vI 3, vI 1, vI c1]) rfl ?_
    refine XS.iinc X7.here hx rfl (hb hby d171) rfl (l' := #[vA ch, vI 2, vA b, vI 2, vI 3, vI 1, vI c1]) rfl ?_
    refine XS.iinc X7.here hx rfl (hb hby d172) rfl (l' := #[vA ch, vI 2, vA b, vI 2, vI 3, vI 2, vI c1]) rfl ?_
    refine XS.goto X7.here hx rfl (pc0 := 41) (pc' := 3) rfl (hb hby d173) (by decide) (by decide) ?_
    refine XS.iload X7.here hx rfl (hb hby d128) rfl ?_
    refine XS.iload X7.here hx rfl (hb hby d129) rfl ?_
    refine XS.icmpNo X7.here hx rfl (hb hby d130) rfl (tlt ((by decide) : (2 : Int32) < (3 : Int32))).2.1 ?_
    refine XS.aloadN X7.here hx rfl (hb hby d131) rfl rfl ?_
    refine XS.iloadN X7.here hx rfl (hb hby d132) rfl ?_
    refine X7.caload hx (j := (2 : Int32)) (v := (.int c2)) (by rw [e7]; exact Ar8.1) (State.isArrayOf_alike hZ.alike Ar8.2.1) Ar8.2.2 hin8 hat8 (g := (mkF m 12 #[vA ch, vI 2, vA b, vI 2, vI 3, vI 2, vI c1] [(.int 2), (.ref ch)])) rfl rfl (hb hby d133) _ ?_
    show Steps _ _ _ (T7.setTop (mkF m 13 #[vA ch, vI 2, vA b, vI 2, vI 3, vI 2, vI c1] [(.int c2)])) _
    refine XS.istore X7.here hx rfl (hb hby d134) rfl (l' := #[vA ch, vI 2, vA b, vI 2, vI 3, vI 2, vI c2]) rfl ?_
    refine XS.iload X7.here hx rfl (hb hby d135) rfl ?_
    refine XS.sipush X7.here hx rfl (hb hby d136) ?_
    refine XS.icmpNo X7.here hx rfl (hb hby d137) rfl (tlt (hgt : (255 : Int32) < c2)).2.2.2 ?_
    refine XS.iload X7.here hx rfl (hb hby d138) rfl ?_
    exact retI X7 hx hret (hb hby d139) hr
def Q_cm3_3_2 (Z : State) (c0 : Int32) (c1 : Int32) (c2 : Int32) (ch : Addr) (kc : ClassId) (h0 : Heap) (n0 : Nat) (v : Option Value) (h : Heap) (L : List Loc) : Prop := ∃ (b : Addr) (k : ClassId), (v = some (.ref b)) ∧ (Fr n0 L) ∧ (Keep h0 h []) ∧ (h0.size ≤ b) ∧ (Arv Z h b k .byte (6 : Int32) [(.int (oL c0)), (.int (oH c0)), (.int (oL c1)), (.int (oH c1)), (.int (oL c2)), (.int (oH c2))] (.int 0)) ∧ (Old Z n0 h)
theorem rm_cm3_3_2 (l : Launch) (Z : State) (a0 : Array Value) (hw : HW Z a0) (ws : List Jvm.Cond) (c0 : Int32) (c1 : Int32) (c2 : Int32) (ch : Addr) (kc : ClassId) (h0 : Heap) (n0 : Nat) (Z0 : n0 ≤ h0.size) (P0 : Old Z n0 h0) (P1 : Arv Z h0 ch kc .char (3 : Int32) [(.int c0), (.int c1), (.int c2)] (.int 0)) (P2 : sta1 Z (.int 1)) (P3 : sta2 Z (.int 0)) (P4 : sta3 Z (.int 8)) (hl0 : ¬ ((255 : Int32) < c0)) (hl1 : ¬ ((255 : Int32) < c1)) (hgt : (255 : Int32) < c2) (r2 : ¬ c2 < 0 ∧ ¬ (65535 : Int32) < c2) :
    MF l Z m_11 jdk_52_method_16_code 6 (some (.array .byte)) ws (oR 3 2 9 40) #[(.ref ch), (.int 0), (.int 3)] h0 (Q_cm3_3_2 Z c0 c1 c2 ch kc h0 n0) := by
  refine own_body (cls := "java/lang/StringUTF16") (plainFor_of_name pn_4) rfl (fun p e s m below meth c s₁ hx hby hml hown hnm hret hZ X0 e0 => ?_)
  have N0 := Fr.nil n0
  have K0 := Keep.refl h0 []
  have lt1 := own_l P1.lt
  obtain ⟨T2, h2, k2, X2, e2, E2, A2, st2⟩ := newP X0 hx hZ (aty := .byte) (w_19 hw) e0 (g := (mkF m 1 #[vA ch, vI 0, vI 3, .unset, .unset, .unset] [(.int 3)])) rfl (hb hby d141) rfl (by decide) (cap := 3) (by decide) (by decide) (by decide) (by decide)
  obtain ⟨b2, g2⟩ : ∃ z, z = h0.size := ⟨_, rfl⟩
  rw [← g2] at A2 st2
  have z2 := E2.1
  have K2 := K0.ext E2
  have V2 : Arv Z h2 b2 k2 .byte (3 : Int32) [(.int 0), (.int 0), (.int 0)] (.int 0) := (Arv.new A2 (by decide)).pad (pad_rep [] (.int 0) 3)
  have lt3 := own_l V2.lt
  have f5 := P1.ext E2
  obtain ⟨_, _, ⟨T4, L4, k4, n4⟩, -, X4, ⟨Lc4, hQ4, l4, y4, z4⟩, st4⟩ := Jvm.LawKit.callS X2 hx (y := m_10) hown (mvT hZ (w_74 hw)) (mvT hZ (w_75 hw)) (mvT hZ (w_72 hw)) (mvT hZ (w_76 hw)) (by decide) (backOf (W := 0) (rm_cm5_3_2 l Z a0 hw [] c0 c1 c2 ch kc b2 k2 h2 n0 (by omega) f5 V2 (by omega) (own_ne (by omega)) hl0 hl1 hgt) hZ (w_76 hw) (w_72 hw) (by decide) (by decide)) (g := (mkF m 9 #[vA ch, vI 0, vI 3, vA b2, .unset, .unset] [(.int 3), (.int 0), (.ref b2), (.int 0), (.ref ch)])) rfl (by rw [hml]; rfl) (argsL := [(.ref ch), (.int 0), (.ref b2), (.int 0), (.int 3)]) (rest := []) (lenOf pd_3 rfl) rfl (Nat.le_of_eq rfl) (hb hby d148) (fun _ _ => ⟨rfl, e2, (by decide : 1 + 0 ≤ _), (by decide : 3 + 0 ≤ _)⟩)
  dsimp only [Pt.U, Pt.locs, Pt.cells, Pt.slots] at X4 l4 y4 z4 st4 hQ4
  rw [l4, y4, z4] at X4
  obtain ⟨rfl, Nq4, Kq4, r4_0⟩ := hQ4
  have N4 := Fr.app N0 Nq4
  have z4' := Kq4.1
  have K4 := K2.trans Kq4 (allS (Or.inr (by omega)) all0)
  have lt6 := own_l r4_0.lt
  have f8 := P0.ext E2
  have f9 := f8.keep Kq4 (allS (by omega) all0)
  have f10 := f5.keep Kq4 (ninS (own_ne (by omega)) nin0)
  obtain ⟨_, _, ⟨T7, L7, k7, n7⟩, -, X7, ⟨Lc7, hQ7, l7, y7, z7⟩, st7⟩ := Jvm.LawKit.callS X4 hx (y := m_9) hown (mvT hZ (w_86 hw)) (mvT hZ (w_87 hw)) (mvT hZ (w_72 hw)) (mvT hZ (w_88 hw)) (by decide) (backOf (W := 0) (rm_tob3 l Z a0 hw [] c0 c1 c2 ch kc T4.heap n0 (by omega) f9 f10 P2 P3 P4) hZ (w_88 hw) (w_72 hw) (by decide) (by decide)) (g := (mkF m 23 #[vA ch, vI 0, vI 3, vA b2, vI 2, .unset] [(.int 3), (.int 0), (.ref ch)])) rfl (by rw [hml]; rfl) (argsL := [(.ref ch), (.int 0), (.int 3)]) (rest := []) (lenOf pd_4 rfl) rfl (Nat.le_of_eq rfl) (hb hby d156) (fun _ _ => ⟨rfl, rfl, (by decide : 1 + 1 ≤ _), (by decide : 3 + 6 ≤ _)⟩)
  dsimp only [Pt.U, Pt.locs, Pt.cells, Pt.slots] at X7 l7 y7 z7 st7 hQ7
  rw [l7, y7, z7] at X7
  obtain ⟨x7_b, x7_k, rfl, Nq7, Kq7, r7_0, r7_1, r7_2⟩ := hQ7
  have N7 := Fr.app N4 Nq7
  have z7' := Kq7.1
  have K7 := K4.trans Kq7 all0
  have lt11 := own_l r7_1.lt
  obtain ⟨_, _, ⟨T12, L12, k12, n12⟩, -, X12, ⟨Lc12, hQ12, l12, y12, z12⟩, st12⟩ := Jvm.LawKit.callS X7 hx (y := m_5) hown (mvT hZ (w_102 hw)) (mvT hZ (w_103 hw)) (mvT hZ (w_72 hw)) (mvT hZ (w_104 hw)) (by decide) (backOf (W := 0) (rm_get3_2 l Z a0 hw [] c0 c1 c2 x7_b x7_k T7.heap n0 (by omega) r7_2 r7_1 P2 P3 P4 r2) hZ (w_104 hw) (w_72 hw) (by decide) (by decide)) (g := (mkF m 32 #[vA ch, vI 0, vI 3, vA b2, vI 2, vA x7_b] [(.int 2), (.ref x7_b)])) rfl (by rw [hml]; rfl) (argsL := [(.ref x7_b), (.int 2)]) (rest := []) (lenOf pd_5 rfl) rfl (Nat.le_of_eq rfl) (hb hby d160) (fun _ _ => ⟨rfl, rfl, (by decide : 2 + 0 ≤ _), (by decide : 9 + 0 ≤ _)⟩)
  dsimp only [Pt.U, Pt.locs, Pt.cells, Pt.slots] at X12 l12 y12 z12 st12 hQ12
  rw [l12, y12, z12] at X12
  obtain ⟨rfl, Nq12, Kq12⟩ := hQ12
  have N12 := Fr.app N7 Nq12
  refine ⟨_, _, _, _, some (.ref x7_b), X12, by decide, by decide, nofun, ?_, fun fs hr => castTop (ef_7 m ch (0 : Int32) (3 : Int32)) ?_⟩
  · show Q_cm3_3_2 Z c0 c1 c2 ch kc h0 n0 _ T12.heap _
    rw [(Kq12 : T12.heap = T7.heap)]
    exact ⟨x7_b, x7_k, rfl, N12, K7, (by omega), r7_1, r7_2⟩
  · show Steps _ _ _ (s₁.setTop (mkF m 0 #[vA ch, vI 0, vI 3, .unset, .unset, .unset] [])) _
    refine XS.iloadN X0.here hx rfl (hb hby d140) rfl ?_
    refine st2 _ ?_
    show Steps _ _ _ (T2.setTop (mkF m 3 #[vA ch, vI 0, vI 3, .unset, .unset, .unset] [(.ref b2)])) _
    refine XS.astoreN X2.here hx rfl (hb hby d142) rfl rfl (l' := #[vA ch, vI 0, vI 3, vA b2, .unset, .unset]) rfl ?_
    refine XS.aloadN X2.here hx rfl (hb hby d143) rfl rfl ?_
    refine XS.iloadN X2.here hx rfl (hb hby d144) rfl ?_
    refine XS.aloadN X2.here hx rfl (hb hby d145) rfl rfl ?_
    refine XS.iconst X2.here hx rfl (hb hby d146) ?_
    refine XS.iloadN X2.here hx rfl (hb hby d147) rfl ?_
    refine st4 _ ?_
    show Steps _ _ _ (T4.setTop (mkF m 12 #[vA ch, vI 0, vI 3, vA b2, .unset, .unset] [(.int 2)])) _
    refine XS.istore X4.here hx rfl (hb hby d149) rfl (l' := #[vA ch, vI 0, vI 3, vA b2, vI 2, .unset]) rfl ?_
    refine XS.iload X4.here hx rfl (hb hby d150) rfl ?_
    refine XS.iloadN X4.here hx rfl (hb hby d151) rfl ?_
    refine XS.icmpNo X4.here hx rfl (hb hby d152) rfl (feq ((by decide) : ¬ ((2 : Int32) = (3 : Int32)))).1 ?_
    refine XS.aloadN X4.here hx rfl (hb hby d153) rfl rfl ?_
    refine XS.iloadN X4.here hx rfl (hb hby d154) rfl ?_
    refine XS.iloadN X4.here hx rfl (hb hby d155) rfl ?_
    refine st7 _ ?_
    show Steps _ _ _ (T7.setTop (mkF m 26 #[vA ch, vI 0, vI 3, vA b2, vI 2, .unset] [(.ref x7_b)])) _
    refine XS.astore X7.here hx rfl (hb hby d157) rfl rfl (l' := #[vA ch, vI 0, vI 3, vA b2, vI 2, vA x7_b]) rfl ?_
    refine XS.aload X7.here hx rfl (hb hby d158) rfl rfl ?_
    refine XS.iload X7.here hx rfl (hb hby d159) rfl ?_
    refine st12 _ ?_
    show Steps _ _ _ (T12.setTop (mkF m 35 #[vA ch, vI 0, vI 3, vA b2, vI 2, vA x7_b] [(.int c2)])) _
    refine XS.sipush X12.here hx rfl (hb hby d161) ?_
    refine XS.icmpYes X12.here hx rfl (pc0 := 38) (pc' := 54) rfl (hb hby d162) rfl (tlt (hgt : (255 : Int32) < c2)).2.2.1 (by decide) (by decide) ?_
    refine XS.aload X12.here hx rfl (hb hby d163) rfl rfl ?_
    exact retOut X12 hx hret (own_narrow_ref rfl) (Or.inr (Or.inr (Or.inr (Or.inr ⟨rfl, rfl, rfl⟩)))) (hb hby d164) hr
def Q_cm5_3_3 (Z : State) (c0 : Int32) (c1 : Int32) (c2 : Int32) (ch : Addr) (kc : ClassId) (b : Addr) (k : ClassId) (h0 : Heap) (n0 : Nat) (v : Option Value) (h : Heap) (L : List Loc) : Prop := (v = some (.int 3)) ∧ (Fr n0 L) ∧ (Keep h0 h [b]) ∧ (Arv Z h b k .byte (3 : Int32) [(.int (oB c0)), (.int (oB c1)), (.int (oB c2))] (.int 0))
theorem rm_cm5_3_3 (l : Launch) (Z : State) (a0 : Array Value) (hw : HW Z a0) (ws : List Jvm.Cond) (c0 : Int32) (c1 : Int32) (c2 : Int32) (ch : Addr) (kc : ClassId) (b : Addr) (k : ClassId) (h0 : Heap) (n0 : Nat) (Z0 : n0 ≤ h0.size) (P0 : Arv Z h0 ch kc .char (3 : Int32) [(.int c0), (.int c1), (.int c2)] (.int 0)) (P1 : Arv Z h0 b k .byte (3 : Int32) [(.int 0), (.int 0), (.int 0)] (.int 0)) (P2 : n0 ≤ b) (P3 : ch ≠ b) (hl0 : ¬ ((255 : Int32) < c0)) (hl1 : ¬ ((255 : Int32) < c1)) (hl2 : ¬ ((255 : Int32) < c2)) :
    MF l Z m_10 jdk_52_method_21_code 7 (some .int) ws (oR 0 0 0 0) #[(.ref ch), (.int 0), (.ref b), (.int 0), (.int 3)] h0 (Q_cm5_3_3 Z c0 c1 c2 ch kc b k h0 n0) := by
  refine own_body (cls := "java/lang/StringUTF16") (plainFor_of_name pn_4) rfl (fun p e s m below meth c s₁ hx hby hml hown hnm hret hZ X0 e0 => ?_)
  have N0 := Fr.nil n0
  have K0 := Keep.refl h0 [b]
  have lt1 := own_l P0.lt
  have lt2 := own_l P1.lt
  obtain ⟨cl3, Ar3, q3, S3, M3, H3, G3⟩ := id P0
  have hin3 : ¬ ((0 : Int32) < 0 ∨ cl3.slots.size ≤ ((0 : Int32)).toNatClampNeg) := inb_of S3 ⟨by decide, by decide⟩
  have hat3 : cl3.slots[((0 : Int32)).toNatClampNeg]? = some (.int c0) := Has.at H3 hin3 rfl
  obtain ⟨cl4, Ar4, q4, S4, M4, H4, G4⟩ := id P1
  have hin4 : ¬ ((0 : Int32) < 0 ∨ cl4.slots.size ≤ ((0 : Int32)).toNatClampNeg) := inb_of S4 ⟨by decide, by decide⟩
  obtain ⟨T4, h4, X4, e4, W4, st4⟩ := stB X0 hx hZ e0 Ar4 (j := (0 : Int32)) hin4 (g := (mkF m 31 #[vA ch, vI 0, vA b, vI 0, vI 3, vI 0, vI c0] [(.int (c0.toInt8.toInt32)), (.int 0), (.ref b)])) rfl rfl (hb hby d169)
  have V4 : Arv Z h4 b k .byte (3 : Int32) [(.int (nar .byte (c0.toInt8.toInt32))), (.int 0), (.int 0)] (.int 0) := Arv.set Ar4 q4 S4 M4 H4 G4 (fits_nar_byte (c0.toInt8.toInt32)) W4 0 rfl (Nat.le_of_ble_eq_true rfl)
  have z4 := W4.size
  have K4 := K0.wr W4 (Or.inl (List.mem_of_getElem? (i := 0) rfl))
  have N4 := Fr.snoc X4 N0 (by omega)
  have f6 := P0.other W4 (fun q => P3 q)
  obtain ⟨cl5, Ar5, q5, S5, M5, H5, G5⟩ := id f6
  have hin5 : ¬ ((1 : Int32) < 0 ∨ cl5.slots.size ≤ ((1 : Int32)).toNatClampNeg) := inb_of S5 ⟨by decide, by decide⟩
  have hat5 : cl5.slots[((1 : Int32)).toNatClampNeg]? = some (.int c1) := Has.at H5 hin5 rfl
  obtain ⟨cl7, Ar7, q7, S7, M7, H7, G7⟩ := id V4
  have hin7 : ¬ ((1 : Int32) < 0 ∨ cl7.slots.size ≤ ((1 : Int32)).toNatClampNeg) := inb_of S7 ⟨by decide, by decide⟩
  obtain ⟨T7, h7, X7, e7, W7, st7⟩ := stB X4 hx hZ e4 Ar7 (j := (1 : Int32)) hin7 (g := (mkF m 31 #[vA ch, vI 1, vA b, vI 1, vI 3, vI 1, vI c1] [(.int (c1.toInt8.toInt32)), (.int 1), (.ref b)])) rfl rfl (hb hby d169)
  have V7 : Arv Z h7 b k .byte (3 : Int32) [(.int (nar .byte (c0.toInt8.toInt32))), (.int (nar .byte (c1.toInt8.toInt32))), (.int 0)] (.int 0) := Arv.set Ar7 q7 S7 M7 H7 G7 (fits_nar_byte (c1.toInt8.toInt32)) W7 1 rfl (Nat.le_of_ble_eq_true rfl)
  have z7 := W7.size
  have K7 := K4.wr W7 (Or.inl (List.mem_of_getElem? (i := 0) rfl))
  have N7 := Fr.snoc X7 N4 (by omega)
  have f9 := f6.other W7 (fun q => P3 q)
  obtain ⟨cl8, Ar8, q8, S8, M8, H8, G8⟩ := id f9
  have hin8 : ¬ ((2 : Int32) < 0 ∨ cl8.slots.size ≤ ((2 : Int32)).toNatClampNeg) := inb_of S8 ⟨by decide, by decide⟩
  have hat8 : cl8.slots[((2 : Int32)).toNatClampNeg]? = some (.int c2) := Has.at H8 hin8 rfl
  obtain ⟨cl10, Ar10, q10, S10, M10, H10, G10⟩ := id V7
  have hin10 : ¬ ((2 : Int32) < 0 ∨ cl10.slots.size ≤ ((2 : Int32)).toNatClampNeg) := inb_of S10 ⟨by decide, by decide⟩
  obtain ⟨T10, h10, X10, e10, W10, st10⟩ := stB X7 hx hZ e7 Ar10 (j := (2 : Int32)) hin10 (g := (mkF m 31 #[vA ch, vI 2, vA b, vI 2, vI 3, vI 2, vI c2] [(.int (c2.toInt8.toInt32)), (.int 2), (.ref b)])) rfl rfl (hb hby d169)
  have V10 : Arv Z h10 b k .byte (3 : Int32) [(.int (nar .byte (c0.toInt8.toInt32))), (.int (nar .byte (c1.toInt8.toInt32))), (.int (nar .byte (c2.toInt8.toInt32)))] (.int 0) := Arv.set Ar10 q10 S10 M10 H10 G10 (fits_nar_byte (c2.toInt8.toInt32)) W10 2 rfl (Nat.le_of_ble_eq_true rfl)
  have z10 := W10.size
  have K10 := K7.wr W10 (Or.inl (List.mem_of_getElem? (i := 0) rfl))
  have N10 := Fr.snoc X10 N7 (by omega)
  refine ⟨_, _, _, _, some (.int 3), X10, by decide, by decide, nofun, ?_, fun fs hr => castTop (ef_6 m ch (0 : Int32) b (0 : Int32) (3 : Int32)) ?_⟩
  · show Q_cm5_3_3 Z c0 c1 c2 ch kc b k h0 n0 _ T10.heap _
    rw [(e10 : T10.heap = h10)]
    exact ⟨rfl, N10, K10, V10⟩
  · show Steps _ _ _ (s₁.setTop (mkF m 0 #[vA ch, vI 0, vA b, vI 0, vI 3, .unset, .unset] [])) _
    refine XS.iconst X0.here hx rfl (hb hby d126) ?_
    refine XS.istore X0.here hx rfl (hb hby d127) rfl (l' := #[vA ch, vI 0, vA b, vI 0, vI 3, vI 0, .unset]) rfl ?_
    refine XS.iload X0.here hx rfl (hb hby d128) rfl ?_
    refine XS.iload X0.here hx rfl (hb hby d129) rfl ?_
    refine XS.icmpNo X0.here hx rfl (hb hby d130) rfl (tlt ((by decide) : (0 : Int32) < (3 : Int32))).2.1 ?_
    refine XS.aloadN X0.here hx rfl (hb hby d131) rfl rfl ?_
    refine XS.iloadN X0.here hx rfl (hb hby d132) rfl ?_
    refine X0.caload hx (j := (0 : Int32)) (v := (.int c0)) (by rw [e0]; exact Ar3.1) (State.isArrayOf_alike hZ.alike Ar3.2.1) Ar3.2.2 hin3 hat3 (g := (mkF m 12 #[vA ch, vI 0, vA b, vI 0, vI 3, vI 0, .unset] [(.int 0), (.ref ch)])) rfl rfl (hb hby d133) _ ?_
    show Steps _ _ _ (s₁.setTop (mkF m 13 #[vA ch, vI 0, vA b, vI 0, vI 3, vI 0, .unset] [(.int c0)])) _
    refine XS.istore X0.here hx rfl (hb hby d134) rfl (l' := #[vA ch, vI 0, vA b, vI 0, vI 3, vI 0, vI c0]) rfl ?_
    refine XS.iload X0.here hx rfl (hb hby d135) rfl ?_
    refine XS.sipush X0.here hx rfl (hb hby d136) ?_
    refine XS.icmpYes X0.here hx rfl (pc0 := 20) (pc' := 26) rfl (hb hby d137) rfl (flt (hl0 : ¬ ((255 : Int32) < c0))).2.2.2 (by decide) (by decide) ?_
    refine XS.aloadN X0.here hx rfl (hb hby d165) rfl rfl ?_
    refine XS.iloadN X0.here hx rfl (hb hby d166) rfl ?_
    refine XS.iload X0.here hx rfl (hb hby d167) rfl ?_
    refine XS.i2b X0.here hx rfl (hb hby d168) rfl ?_
    refine st4 _ ?_
    show Steps _ _ _ (T4.setTop (mkF m 32 #[vA ch, vI 0, vA b, vI 0, vI 3, vI 0, vI c0] [])) _
    refine XS.iinc X4.here hx rfl (hb hby d170) rfl (l' := #[vA ch, vI 1, vA b, vI 0, vI 3, vI 0, vI c0]) rfl ?_
    refine XS.iinc X4.here hx rfl (hb hby d171) rfl (l' := #[vA ch, vI 1, vA b, vI 1, vI 3, vI 0, vI c0]) rfl ?_
    refine XS.iinc X4.here hx rfl (hb hby d172) rfl (l' := #[vA ch, vI 1, vA b, vI 1, vI 3, vI 1, vI c0]) rfl ?_
    refine XS.goto X4.here hx rfl (pc0 := 41) (pc' := 3) rfl (hb hby d173) (by decide) (by decide) ?_
    refine XS.iload X4.here hx rfl (hb hby d128) rfl ?_
    refine XS.iload X4.here hx rfl (hb hby d129) rfl ?_
    refine XS.icmpNo X4.here hx rfl (hb hby d130) rfl (tlt ((by decide) : (1 : Int32) < (3 : Int32))).2.1 ?_
    refine XS.aloadN X4.here hx rfl (hb hby d131) rfl rfl ?_
    refine XS.iloadN X4.here hx rfl (hb hby d132) rfl ?_
    refine X4.caload hx (j := (1 : Int32)) (v := (.int c1)) (by rw [e4]; exact Ar5.1) (State.isArrayOf_alike hZ.alike Ar5.2.1) Ar5.2.2 hin5 hat5 (g := (mkF m 12 #[vA ch, vI 1, vA b, vI 1, vI 3, vI 1, vI c0] [(.int 1), (.ref ch)])) rfl rfl (hb hby d133) _ ?_
    show Steps _ _ _ (T4.setTop (mkF m 13 #[vA ch, vI 1, vA b, vI 1, vI 3, vI 1, vI c0] [(.int c1)])) _
    refine XS.istore X4.here hx rfl (hb hby d134) rfl (l' := #[vA ch, vI 1, vA b, vI 1, vI 3, vI 1, vI c1]) rfl ?_
    refine XS.iload X4.here hx rfl (hb hby d135) rfl ?_
    refine XS.sipush X4.here hx rfl (hb hby d136) ?_
    refine XS.icmpYes X4.here hx rfl (pc0 := 20) (pc' := 26) rfl (hb hby d137) rfl (flt (hl1 : ¬ ((255 : Int32) < c1))).2.2.2 (by decide) (by decide) ?_
    refine XS.aloadN X4.here hx rfl (hb hby d165) rfl rfl ?_
    refine XS.iloadN X4.here hx rfl (hb hby d166) rfl ?_
    refine XS.iload X4.here hx rfl (hb hby d167) rfl ?_
    refine XS.i2b X4.here hx rfl (hb hby d168) rfl ?_
    refine st7 _ ?_
    show Steps _ _ _ (T7.setTop (mkF m 32 #[vA ch, vI 1, vA b, vI 1, vI 3, vI 1, vI c1] [])) _
    refine XS.iinc X7.here hx rfl (hb hby d170) rfl (l' := #[vA ch, vI 2, vA b, vI 1, vI 3, vI 1, vI c1]) rfl ?_
    refine XS.iinc X7.here hx rfl (hb hby d171) rfl (l' := #[vA ch, vI 2, vA b, vI 2, vI 3, vI 1, vI c1]) rfl ?_
    refine XS.iinc X7.here hx rfl (hb hby d172) rfl (l' := #[vA ch, vI 2, vA b, vI 2, vI 3, vI 2, vI c1]) rfl ?_
    refine XS.goto X7.here hx rfl (pc0 := 41) (pc' := 3) rfl (hb hby d173) (by decide) (by decide) ?_
    refine XS.iload X7.here hx rfl (hb hby d128) rfl ?_
    refine XS.iload X7.here hx rfl (hb hby d129) rfl ?_
    refine XS.icmpNo X7.here hx rfl (hb hby d130) rfl (tlt ((by decide) : (2 : Int32) < (3 : Int32))).2.1 ?_
    refine XS.aloadN X7.here hx rfl (hb hby d131) rfl rfl ?_
    refine XS.iloadN X7.here hx rfl (hb hby d132) rfl ?_
    refine X7.caload hx (j := (2 : Int32)) (v := (.int c2)) (by rw [e7]; exact Ar8.1) (State.isArrayOf_alike hZ.alike Ar8.2.1) Ar8.2.2 hin8 hat8 (g := (mkF m 12 #[vA ch, vI 2, vA b, vI 2, vI 3, vI 2, vI c1] [(.int 2), (.ref ch)])) rfl rfl (hb hby d133) _ ?_
    show Steps _ _ _ (T7.setTop (mkF m 13 #[vA ch, vI 2, vA b, vI 2, vI 3, vI 2, vI c1] [(.int c2)])) _
    refine XS.istore X7.here hx rfl (hb hby d134) rfl (l' := #[vA ch, vI 2, vA b, vI 2, vI 3, vI 2, vI c2]) rfl ?_
    refine XS.iload X7.here hx rfl (hb hby d135) rfl ?_
    refine XS.sipush X7.here hx rfl (hb hby d136) ?_
    refine XS.icmpYes X7.here hx rfl (pc0 := 20) (pc' := 26) rfl (hb hby d137) rfl (flt (hl2 : ¬ ((255 : Int32) < c2))).2.2.2 (by decide) (by decide) ?_
    refine XS.aloadN X7.here hx rfl (hb hby d165) rfl rfl ?_
    refine XS.iloadN X7.here hx rfl (hb hby d166) rfl ?_
    refine XS.iload X7.here hx rfl (hb hby d167) rfl ?_
    refine XS.i2b X7.here hx rfl (hb hby d168) rfl ?_
    refine st10 _ ?_
    show Steps _ _ _ (T10.setTop (mkF m 32 #[vA ch, vI 2, vA b, vI 2, vI 3, vI 2, vI c2] [])) _
    refine XS.iinc X10.here hx rfl (hb hby d170) rfl (l' := #[vA ch, vI 3, vA b, vI 2, vI 3, vI 2, vI c2]) rfl ?_
    refine XS.iinc X10.here hx rfl (hb hby d171) rfl (l' := #[vA ch, vI 3, vA b, vI 3, vI 3, vI 2, vI c2]) rfl ?_
    refine XS.iinc X10.here hx rfl (hb hby d172) rfl (l' := #[vA ch, vI 3, vA b, vI 3, vI 3, vI 3, vI c2]) rfl ?_
    refine XS.goto X10.here hx rfl (pc0 := 41) (pc' := 3) rfl (hb hby d173) (by decide) (by decide) ?_
    refine XS.iload X10.here hx rfl (hb hby d128) rfl ?_
    refine XS.iload X10.here hx rfl (hb hby d129) rfl ?_
    refine XS.icmpYes X10.here hx rfl (pc0 := 7) (pc' := 44) rfl (hb hby d130) rfl (flt ((by decide) : ¬ ((3 : Int32) < (3 : Int32)))).2.1 (by decide) (by decide) ?_
    refine XS.iload X10.here hx rfl (hb hby d174) rfl ?_
    exact retI X10 hx hret (hb hby d175) hr
def Q_cm3_3_3 (Z : State) (c0 : Int32) (c1 : Int32) (c2 : Int32) (ch : Addr) (kc : ClassId) (h0 : Heap) (n0 : Nat) (v : Option Value) (h : Heap) (L : List Loc) : Prop := ∃ (b : Addr) (k : ClassId), (v = some (.ref b)) ∧ (Fr n0 L) ∧ (Keep h0 h []) ∧ (h0.size ≤ b) ∧ (Arv Z h b k .byte (3 : Int32) [(.int (oB c0)), (.int (oB c1)), (.int (oB c2))] (.int 0)) ∧ (Old Z n0 h)
theorem rm_cm3_3_3 (l : Launch) (Z : State) (a0 : Array Value) (hw : HW Z a0) (ws : List Jvm.Cond) (c0 : Int32) (c1 : Int32) (c2 : Int32) (ch : Addr) (kc : ClassId) (h0 : Heap) (n0 : Nat) (Z0 : n0 ≤ h0.size) (P0 : Old Z n0 h0) (P1 : Arv Z h0 ch kc .char (3 : Int32) [(.int c0), (.int c1), (.int c2)] (.int 0)) (P2 : sta1 Z (.int 1)) (P3 : sta2 Z (.int 0)) (P4 : sta3 Z (.int 8)) (hl0 : ¬ ((255 : Int32) < c0)) (hl1 : ¬ ((255 : Int32) < c1)) (hl2 : ¬ ((255 : Int32) < c2)) :
    MF l Z m_11 jdk_52_method_16_code 6 (some (.array .byte)) ws (oR 1 1 3 18) #[(.ref ch), (.int 0), (.int 3)] h0 (Q_cm3_3_3 Z c0 c1 c2 ch kc h0 n0) := by
  refine own_body (cls := "java/lang/StringUTF16") (plainFor_of_name pn_4) rfl (fun p e s m below meth c s₁ hx hby hml hown hnm hret hZ X0 e0 => ?_)
  have N0 := Fr.nil n0
  have K0 := Keep.refl h0 []
  have lt1 := own_l P1.lt
  obtain ⟨T2, h2, k2, X2, e2, E2, A2, st2⟩ := newP X0 hx hZ (aty := .byte) (w_19 hw) e0 (g := (mkF m 1 #[vA ch, vI 0, vI 3, .unset, .unset, .unset] [(.int 3)])) rfl (hb hby d141) rfl (by decide) (cap := 3) (by decide) (by decide) (by decide) (by decide)
  obtain ⟨b2, g2⟩ : ∃ z, z = h0.size := ⟨_, rfl⟩
  rw [← g2] at A2 st2
  have z2 := E2.1
  have K2 := K0.ext E2
  have V2 : Arv Z h2 b2 k2 .byte (3 : Int32) [(.int 0), (.int 0), (.int 0)] (.int 0) := (Arv.new A2 (by decide)).pad (pad_rep [] (.int 0) 3)
  have lt3 := own_l V2.lt
  have f5 := P1.ext E2
  obtain ⟨_, _, ⟨T4, L4, k4, n4⟩, -, X4, ⟨Lc4, hQ4, l4, y4, z4⟩, st4⟩ := Jvm.LawKit.callS X2 hx (y := m_10) hown (mvT hZ (w_74 hw)) (mvT hZ (w_75 hw)) (mvT hZ (w_72 hw)) (mvT hZ (w_76 hw)) (by decide) (backOf (W := 0) (rm_cm5_3_3 l Z a0 hw [] c0 c1 c2 ch kc b2 k2 h2 n0 (by omega) f5 V2 (by omega) (own_ne (by omega)) hl0 hl1 hl2) hZ (w_76 hw) (w_72 hw) (by decide) (by decide)) (g := (mkF m 9 #[vA ch, vI 0, vI 3, vA b2, .unset, .unset] [(.int 3), (.int 0), (.ref b2), (.int 0), (.ref ch)])) rfl (by rw [hml]; rfl) (argsL := [(.ref ch), (.int 0), (.ref b2), (.int 0), (.int 3)]) (rest := []) (lenOf pd_3 rfl) rfl (Nat.le_of_eq rfl) (hb hby d148) (fun _ _ => ⟨rfl, e2, (by decide : 1 + 0 ≤ _), (by decide : 3 + 0 ≤ _)⟩)
  dsimp only [Pt.U, Pt.locs, Pt.cells, Pt.slots] at X4 l4 y4 z4 st4 hQ4
  rw [l4, y4, z4] at X4
  obtain ⟨rfl, Nq4, Kq4, r4_0⟩ := hQ4
  have N4 := Fr.app N0 Nq4
  have z4' := Kq4.1
  have K4 := K2.trans Kq4 (allS (Or.inr (by omega)) all0)
  have lt6 := own_l r4_0.lt
  have f7 := P0.ext E2
  have f8 := f7.keep Kq4 (allS (by omega) all0)
  refine ⟨_, _, _, _, some (.ref b2), X4, by decide, by decide, nofun, ?_, fun fs hr => castTop (ef_7 m ch (0 : Int32) (3 : Int32)) ?_⟩
  · show Q_cm3_3_3 Z c0 c1 c2 ch kc h0 n0 _ T4.heap _
    exact ⟨b2, k2, rfl, N4, K4, (by omega), r4_0, f8⟩
  · show Steps _ _ _ (s₁.setTop (mkF m 0 #[vA ch, vI 0, vI 3, .unset, .unset, .unset] [])) _
    refine XS.iloadN X0.here hx rfl (hb hby d140) rfl ?_
    refine st2 _ ?_
    show Steps _ _ _ (T2.setTop (mkF m 3 #[vA ch, vI 0, vI 3, .unset, .unset, .unset] [(.ref b2)])) _
    refine XS.astoreN X2.here hx rfl (hb hby d142) rfl rfl (l' := #[vA ch, vI 0, vI 3, vA b2, .unset, .unset]) rfl ?_
    refine XS.aloadN X2.here hx rfl (hb hby d143) rfl rfl ?_
    refine XS.iloadN X2.here hx rfl (hb hby d144) rfl ?_
    refine XS.aloadN X2.here hx rfl (hb hby d145) rfl rfl ?_
    refine XS.iconst X2.here hx rfl (hb hby d146) ?_
    refine XS.iloadN X2.here hx rfl (hb hby d147) rfl ?_
    refine st4 _ ?_
    show Steps _ _ _ (T4.setTop (mkF m 12 #[vA ch, vI 0, vI 3, vA b2, .unset, .unset] [(.int 3)])) _
    refine XS.istore X4.here hx rfl (hb hby d149) rfl (l' := #[vA ch, vI 0, vI 3, vA b2, vI 3, .unset]) rfl ?_
    refine XS.iload X4.here hx rfl (hb hby d150) rfl ?_
    refine XS.iloadN X4.here hx rfl (hb hby d151) rfl ?_
    refine XS.icmpYes X4.here hx rfl (pc0 := 17) (pc' := 57) rfl (hb hby d152) rfl (teq ((by decide) : (3 : Int32) = (3 : Int32))).1 (by decide) (by decide) ?_
    refine XS.aloadN X4.here hx rfl (hb hby d176) rfl rfl ?_
    exact retOut X4 hx hret (own_narrow_ref rfl) (Or.inr (Or.inr (Or.inr (Or.inr ⟨rfl, rfl, rfl⟩)))) (hb hby d177) hr
def Q_cfl3_0 (Z : State) (b : Addr) (k : ClassId) (vs : List Value) (h0 : Heap) (n0 : Nat) (v : Option Value) (h : Heap) (L : List Loc) : Prop := (v = some (.int 0)) ∧ (Fr n0 L) ∧ (h = h0)
theorem rm_cfl3_0 (l : Launch) (Z : State) (a0 : Array Value) (hw : HW Z a0) (ws : List Jvm.Cond) (b : Addr) (k : ClassId) (vs : List Value) (h0 : Heap) (n0 : Nat) (Z0 : n0 ≤ h0.size) (P0 : Arv Z h0 b k .byte (3 : Int32) vs (.int 0)) :
    MF l Z m_12 jdk_52_method_15_code 2 (some .byte) ws (oR 0 0 0 0) #[(.ref b), (.int 3)] h0 (Q_cfl3_0 Z b k vs h0 n0) := by
  refine own_body (cls := "java/lang/StringUTF16") (plainFor_of_name pn_4) rfl (fun p e s m below meth c s₁ hx hby hml hown hnm hret hZ X0 e0 => ?_)
  have N0 := Fr.nil n0
  have lt1 := own_l P0.lt
  obtain ⟨cl2, Ar2, q2, S2, M2, H2, G2⟩ := id P0
  refine ⟨_, _, _, _, some (.int 0), X0, by decide, by decide, nofun, ?_, fun fs hr => castTop (ef_3 m b (3 : Int32)) ?_⟩
  · show Q_cfl3_0 Z b k vs h0 n0 _ s₁.heap _
    rw [(e0 : s₁.heap = h0)]
    exact ⟨rfl, N0, rfl⟩
  · show Steps _ _ _ (s₁.setTop (mkF m 0 #[vA b, vI 3] [])) _
    refine XS.iloadN X0.here hx rfl (hb hby d178) rfl ?_
    refine XS.aloadN X0.here hx rfl (hb hby d179) rfl rfl ?_
    refine X0.arraylength hx (by rw [e0]; exact Ar2.1) (State.isArrayOf_alike hZ.alike Ar2.2.1) (g := (mkF m 2 #[vA b, vI 3] [(.ref b), (.int 3)])) rfl rfl (hb hby d180) _ ?_
    rw [len_of S2 M2]
    show Steps _ _ _ (s₁.setTop (mkF m 3 #[vA b, vI 3] [(.int 3), (.int 3)])) _
    refine XS.isub X0.here hx rfl (hb hby d181) rfl ?_
    refine XS.bipush X0.here hx rfl (hb hby d182) ?_
    refine XS.iushr X0.here hx rfl (hb hby d183) rfl ?_
    refine XS.i2b X0.here hx rfl (hb hby d184) rfl ?_
    exact retN X0 hx (t := .byte) hret (by simp) (hb hby d185) hr
def Q_cfl3_1 (Z : State) (b : Addr) (k : ClassId) (vs : List Value) (h0 : Heap) (n0 : Nat) (v : Option Value) (h : Heap) (L : List Loc) : Prop := (v = some (.int 1)) ∧ (Fr n0 L) ∧ (h = h0)
theorem rm_cfl3_1 (l : Launch) (Z : State) (a0 : Array Value) (hw : HW Z a0) (ws : List Jvm.Cond) (b : Addr) (k : ClassId) (vs : List Value) (h0 : Heap) (n0 : Nat) (Z0 : n0 ≤ h0.size) (P0 : Arv Z h0 b k .byte (6 : Int32) vs (.int 0)) :
    MF l Z m_12 jdk_52_method_15_code 2 (some .byte) ws (oR 0 0 0 0) #[(.ref b), (.int 3)] h0 (Q_cfl3_1 Z b k vs h0 n0) := by
  refine own_body (cls := "java/lang/StringUTF16") (plainFor_of_name pn_4) rfl (fun p e s m below meth c s₁ hx hby hml hown hnm hret hZ X0 e0 => ?_)
  have N0 := Fr.nil n0
  have lt1 := own_l P0.lt
  obtain ⟨cl2, Ar2, q2, S2, M2, H2, G2⟩ := id P0
  refine ⟨_, _, _, _, some (.int 1), X0, by decide, by decide, nofun, ?_, fun fs hr => castTop (ef_3 m b (3 : Int32)) ?_⟩
  · show Q_cfl3_1 Z b k vs h0 n0 _ s₁.heap _
    rw [(e0 : s₁.heap = h0)]
    exact ⟨rfl, N0, rfl⟩
  · show Steps _ _ _ (s₁.setTop (mkF m 0 #[vA b, vI 3] [])) _
    refine XS.iloadN X0.here hx rfl (hb hby d178) rfl ?_
    refine XS.aloadN X0.here hx rfl (hb hby d179) rfl rfl ?_
    refine X0.arraylength hx (by rw [e0]; exact Ar2.1) (State.isArrayOf_alike hZ.alike Ar2.2.1) (g := (mkF m 2 #[vA b, vI 3] [(.ref b), (.int 3)])) rfl rfl (hb hby d180) _ ?_
    rw [len_of S2 M2]
    show Steps _ _ _ (s₁.setTop (mkF m 3 #[vA b, vI 3] [(.int 6), (.int 3)])) _
    refine XS.isub X0.here hx rfl (hb hby d181) rfl ?_
    refine XS.bipush X0.here hx rfl (hb hby d182) ?_
    refine XS.iushr X0.here hx rfl (hb hby d183) rfl ?_
    refine XS.i2b X0.here hx rfl (hb hby d184) rfl ?_
    exact retN X0 hx (t := .byte) hret (by simp) (hb hby d185) hr
def SL (Z : State) (h : Heap) (a : Addr) (cs : List Int32) : Prop := ∃ (t : Addr) (kb : ClassId), Fld Z h a "java/lang/String" "value" "[B" (.ref t) ∧ Fld Z h a "java/lang/String" "coder" "B" (.int 0) ∧ (∀ c ∈ cs, ¬ (255 : Int32) < c) ∧ Arv Z h t kb .byte (Int32.ofNat cs.length) (cs.map fun c => .int (oB c)) (.int 0)
def SU (Z : State) (h : Heap) (a : Addr) (cs : List Int32) : Prop := ∃ (t : Addr) (kb : ClassId), Fld Z h a "java/lang/String" "value" "[B" (.ref t) ∧ Fld Z h a "java/lang/String" "coder" "B" (.int 1) ∧ Arv Z h t kb .byte (Int32.ofNat (2 * cs.length)) (cs.flatMap fun c => [.int (oL c), .int (oH c)]) (.int 0)
theorem d186 : decode jdk_42_method_149_code 0 = .ok (.aload_n 0, 1) := by decide +kernel
abbrev m_13 : MethodName := (⟨"java/lang/Object", "<init>", "()V"⟩ : MethodName)
theorem w_15 {Z : State} {a0 : Array Value} (hw : HW Z a0) : (Jvm.Cond.methodLink "java/lang/String" (1 : Nat) m_13).before a0 Z = true := hw _ (List.mem_of_getElem? (i := 15) rfl)
theorem w_16 {Z : State} {a0 : Array Value} (hw : HW Z a0) : (Jvm.Cond.instanceMethod m_13).before a0 Z = true := hw _ (List.mem_of_getElem? (i := 16) rfl)
theorem w_17 {Z : State} {a0 : Array Value} (hw : HW Z a0) : (Jvm.Cond.code m_13 object_method_1_code (1 : Nat) (Option.none : Option Jvm.ClassFile.FieldType)).before a0 Z = true := hw _ (List.mem_of_getElem? (i := 17) rfl)
theorem d187 : decode jdk_42_method_149_code 1 = .ok (.invokespecial 1, 3) := by decide +kernel
theorem d188 : decode jdk_42_method_149_code 4 = .ok (.iload_n 3, 1) := by decide +kernel
theorem d189 : decode jdk_42_method_149_code 5 = .ok (.ifCond .ne 22, 3) := by decide +kernel
theorem d190 : decode jdk_42_method_149_code 8 = .ok (.aload_n 0, 1) := by decide +kernel
theorem d191 : decode jdk_42_method_149_code 9 = .ok (.ldc 7, 2) := by decide +kernel
theorem w_24 {Z : State} {a0 : Array Value} (hw : HW Z a0) : (Jvm.Cond.fieldLink "java/lang/String" (9 : Nat) "java/lang/String" "value" "[B").before a0 Z = true := hw _ (List.mem_of_getElem? (i := 24) rfl)
theorem d192 : decode jdk_42_method_149_code 11 = .ok (.getfield 9, 3) := by decide +kernel
theorem d193 : decode jdk_42_method_149_code 14 = .ok (.putfield 9, 3) := by decide +kernel
theorem d194 : decode jdk_42_method_149_code 17 = .ok (.aload_n 0, 1) := by decide +kernel
theorem d195 : decode jdk_42_method_149_code 18 = .ok (.ldc 7, 2) := by decide +kernel
theorem w_25 {Z : State} {a0 : Array Value} (hw : HW Z a0) : (Jvm.Cond.fieldLink "java/lang/String" (15 : Nat) "java/lang/String" "coder" "B").before a0 Z = true := hw _ (List.mem_of_getElem? (i := 25) rfl)
theorem d196 : decode jdk_42_method_149_code 20 = .ok (.getfield 15, 3) := by decide +kernel
theorem d197 : decode jdk_42_method_149_code 23 = .ok (.putfield 15, 3) := by decide +kernel
theorem d198 : decode jdk_42_method_149_code 26 = .ok (.return_, 1) := by decide +kernel
theorem pn_5 : plainName "java/lang/String" = true := by first | (simp [plainName, overriddenIn]; done) | decide +kernel
theorem ef_8 (m : MethodId) (x0 : Addr) (x1 : Addr) (x2 : Int32) (x3 : Int32) : entryFrame m #[(.ref x0), (.ref x1), (.int x2), (.int x3), .null] 6 = mkF m 0 #[vA x0, vA x1, vI x2, vI x3, .val .null, .unset] [] := by first | (simp [entryFrame, mkF, argsToLocals, Value.category, maxLocals]; done) | rfl
abbrev m_14 : MethodName := (⟨"java/lang/String", "<init>", "([CIILjava/lang/Void;)V"⟩ : MethodName)
def Q_s149_0 (Z : State) (a_ : Addr) (ch : Addr) (cd : Int32) (h0 : Heap) (n0 : Nat) (v : Option Value) (h : Heap) (L : List Loc) : Prop := ∃ (b : Addr) (k : ClassId), (v = none) ∧ (Fr n0 L) ∧ (Keep h0 h [a_]) ∧ (Exa Z h a_ "java/lang/String") ∧ (fld0 Z h a_ (.ref b)) ∧ (fld1 Z h a_ (.int 0)) ∧ (Arv Z h b k .byte (0 : Int32) [] (.int 0))
theorem rm_s149_0 (l : Launch) (Z : State) (a0 : Array Value) (hw : HW Z a0) (ws : List Jvm.Cond) (a_ : Addr) (ch : Addr) (cd : Int32) (h0 : Heap) (n0 : Nat) (Z0 : n0 ≤ h0.size) (P0 : Exa Z h0 a_ "java/lang/String") (P1 : fld0 Z h0 a_ .null) (P2 : fld1 Z h0 a_ (.int cd)) (P3 : n0 ≤ a_) :
    MetFree l m_14 (head1 (Jvm.Cond.code m_14 jdk_42_method_149_code 6 none :: ws) (oR 1 4 8 12)) (fun as' U => as' = #[(.ref a_), (.ref ch), (.int 0), (.int 0), .null] ∧ Z.Warmed39 U.vm ∧ U.heap = h0 ∧ CHv Z own_EL U.vm h0) (fun _ _ _ _ _ => True) (fun _ U o U' => ∃ v L, o = .returned v ∧ Q_s149_0 Z a_ ch cd h0 n0 v U'.heap L ∧ CHr Z own_EL U.vm U.heap U'.vm U'.heap ∧ ReturnedEndW U o U' L (oR 1 4 8 12).cells (oR 1 4 8 12).slots) := by
  refine MetFree.of_bodySF (plainFor_of_name pn_5) hisR ?_
  intro p e s m args below meth c s₁ Bd hml0 hP hK
  obtain ⟨rfl, hZ, hh, hCH⟩ := hP
  have hx := Bd.exec
  have hby := Bd.bytes
  have hml : c.maxLocals = 6 := hml0
  have hown : (s.setVm s.vm).vm.findClass "java/lang/String" = some m.cls := findClass_of_methodNamed Bd.named
  have hnm := (name_of_methodNamed Bd.named Bd.method).1
  have X0 : Stand p l e (oR 1 4 8 12) (s.setVm s.vm) m #[(.ref a_), (.ref ch), (.int 0), (.int 0), .null] below meth c s₁ [] 0 0 := Stand.of_body Bd
  have e0 : s₁.heap = h0 := by rw [← hh, Bd.state]; rfl
  have N0 := Fr.nil n0
  have hZ : Z.Warmed39 (s.setVm s.vm).vm := hZ
  have hS0 : s.Since s.vm h0.size := (State.WarmedH.refl s).since _
  have hk0 : h0.size ≤ h0.size := Nat.le_refl _
  have C0 : CHr Z own_EL s.vm h0 s.vm h0 := CHr.refl hCH
  have K0 := Keep.refl h0 [a_]
  have lt1 := own_l P0.lt
  have lt2 := own_l P1.lt
  have lt3 := own_l P2.lt
  have sfa : Safe Z own_EL s.vm h0 a_ := own_safe_null hZ.alike P0 P1
  obtain ⟨T4, X4, e4, st4⟩ := initO X0 hx hZ hown (w_15 hw) (w_16 hw) (w_17 hw) e0 (g := (mkF m 1 #[vA a_, vA ch, vI 0, vI 0, .val .null, .unset] [(.ref a_)])) rfl (by rw [hml]; rfl) rfl (hb hby d187) (by decide) (W := 0) (Nat.le_of_eq rfl) (by decide)
  obtain ⟨a5, T5, h5, k1_5, b5, k5, X5, e5, E5, hS5, hk5, hZ5, hown5, A5, FC5, FV5, V5, -, -, Cs5, Lt5, Sn5, st5⟩ := ldcCH X4 hx hZ hown (w_18 hw) (own_wS hw) e4 hS0 (by omega) (own_EW hw) (by decide) C0.1 (vs := []) (z := (0 : Int32)) ⟨by decide, by decide⟩ (by decide) (by decide) (g := (mkF m 9 #[vA a_, vA ch, vI 0, vI 0, .val .null, .unset] [(.ref a_)])) rfl (hb hby d191) (n := 0) (by decide) (by decide) (by decide) (by decide)
  have z5 := E5.1
  have C5 := C0.trans Cs5
  have K5 := K0.ext E5
  have lt6 := own_l A5.lt
  have lt7 := own_l V5.lt
  have f8 := (Cs5.safe (by show @LT.lt Nat _ _ _; omega) sfa)
  have ns5_a_ := Sn5 _ f8
  obtain ⟨T9, X9, e9, st9⟩ := getF X5 hx hZ5 hown5 (host := "") (Or.inl (w_24 hw)) Via.refl e5 FV5 (g := (mkF m 11 #[vA a_, vA ch, vI 0, vI 0, .val .null, .unset] [(.ref a5), (.ref a_)])) rfl rfl (hb hby d192)
  have f11 := P1.ext E5
  have f12 := P0.ext E5
  obtain ⟨T10, h10, X10, e10, W10, st10⟩ := putF X9 hx hZ5 hown5 (host := "") (Or.inl (w_24 hw)) Via.refl e9 f11 f12 (Or.inr ⟨(w_20 hw), rfl, hnm⟩) (w_5 hw) (ty := (.array .byte)) (by decide) rfl rfl (g := (mkF m 14 #[vA a_, vA ch, vI 0, vI 0, .val .null, .unset] [(.ref b5), (.ref a_)])) rfl rfl (hb hby d193)
  have F10 := f11.same W10
  have z10 := W10.size
  have C10 := C5.trans (CHr.wr W10 f8 C5.1)
  have K10 := K5.wr W10 (Or.inl (List.mem_of_getElem? (i := 0) rfl))
  have N10 := Fr.snoc X10 N0 (by omega)
  obtain ⟨a13, T13, h13, k1_13, b13, k13, X13, e13, E13, hS13, hk13, hZ13, hown13, A13, FC13, FV13, V13, -, -, Cs13, Lt13, Sn13, st13⟩ := ldcCH X10 hx hZ5 hown5 (w_18 hw) (own_wS hw) e10 hS5 (by omega) (own_EW hw) (by decide) C10.1 (vs := []) (z := (0 : Int32)) ⟨by decide, by decide⟩ (by decide) (by decide) (g := (mkF m 18 #[vA a_, vA ch, vI 0, vI 0, .val .null, .unset] [(.ref a_)])) rfl (hb hby d195) (n := 0) (by decide) (by decide) (by decide) (by decide)
  have z13 := E13.1
  have C13 := C10.trans Cs13
  have K13 := K10.ext E13
  have lt14 := own_l A13.lt
  have lt15 := own_l V13.lt
  have f16 := (Safe.wr W10 f8 C5.1 f8)
  have f17 := (Cs13.safe (by show @LT.lt Nat _ _ _; omega) f16)
  have ns13_a_ := Sn13 _ f17
  obtain ⟨T18, X18, e18, st18⟩ := getF X13 hx hZ13 hown13 (host := "") (Or.inl (w_25 hw)) Via.refl e13 FC13 (g := (mkF m 20 #[vA a_, vA ch, vI 0, vI 0, .val .null, .unset] [(.ref a13), (.ref a_)])) rfl rfl (hb hby d196)
  have f20 := P2.ext E5
  have f21 := f20.other W10 (Or.inr (slot_ne (a0 := a0) (t := .byte) (t' := (.array .byte)) (Or.inr (w_21 hw)) (Or.inr (w_20 hw)) (by decide) (by decide) (by decide)))
  have f22 := f21.ext E13
  have f23 := f12.wr W10
  have f24 := f23.ext E13
  obtain ⟨T19, h19, X19, e19, W19, st19⟩ := putFN X18 hx hZ13 hown13 (w_25 hw) Via.refl e18 f22 f24 (Or.inr ⟨(w_21 hw), rfl, hnm⟩) (w_5 hw) (ty := .byte) (v' := (.int 0)) (by decide) rfl rfl (g := (mkF m 23 #[vA a_, vA ch, vI 0, vI 0, .val .null, .unset] [(.int 0), (.ref a_)])) rfl rfl (hb hby d197)
  have F19 := f22.same W19
  have z19 := W19.size
  have C19 := C13.trans (CHr.wr W19 f17 C13.1)
  have K19 := K13.wr W19 (Or.inl (List.mem_of_getElem? (i := 0) rfl))
  have N19 := Fr.snoc X19 N10 (by omega)
  have f25 := f24.wr W19
  have f26 := F10.ext E13
  have f27 := f26.other W19 (Or.inr (slot_ne (a0 := a0) (t := (.array .byte)) (t' := .byte) (Or.inr (w_20 hw)) (Or.inr (w_21 hw)) (by decide) (by decide) (by decide)))
  have f28 := V5.other W10 (fun q => ns5_a_.2 q.symm)
  have f29 := f28.ext E13
  have f30 := f29.other W19 (fun q => ns5_a_.2 q.symm)
  obtain ⟨fs, hr, hrun, hended, hEnd⟩ := X19.leaveW hS13 (by first | omega | (rw [(e19 : T19.heap = h19)]; omega)) (v := none) (fun _ => rfl)
  have Cz := C19.trans (CHv.at X19 hZ13 (own_EW hw) C19.1)
  refine ⟨_, _, castTop (ef_8 m a_ ch (0 : Int32) (0 : Int32)) ?_, hrun, hended, _, _, rfl, ?_, (by rw [hh]; show CHr Z own_EL s.vm h0 T19.vm T19.heap; rw [(e19 : T19.heap = h19)]; exact Cz), hEnd.1, hEnd.2.1, hEnd.2.2.1, hEnd.2.2.2.mono (by decide) (by decide)⟩
  · show Steps _ _ _ (s₁.setTop (mkF m 0 #[vA a_, vA ch, vI 0, vI 0, .val .null, .unset] [])) _
    refine XS.aloadN X0.here hx rfl (hb hby d186) rfl rfl ?_
    refine st4 _ ?_
    show Steps _ _ _ (T4.setTop (mkF m 4 #[vA a_, vA ch, vI 0, vI 0, .val .null, .unset] [])) _
    refine XS.iloadN X4.here hx rfl (hb hby d188) rfl ?_
    refine XS.ifNo X4.here hx rfl (hb hby d189) rfl ((if0 _ _).trans (teq ((by decide) : (0 : Int32) = (0 : Int32))).2) ?_
    refine XS.aloadN X4.here hx rfl (hb hby d190) rfl rfl ?_
    refine st5 _ ?_
    show Steps _ _ _ (T5.setTop (mkF m 11 #[vA a_, vA ch, vI 0, vI 0, .val .null, .unset] [(.ref a5), (.ref a_)])) _
    refine st9 _ ?_
    show Steps _ _ _ (T9.setTop (mkF m 14 #[vA a_, vA ch, vI 0, vI 0, .val .null, .unset] [(.ref b5), (.ref a_)])) _
    refine st10 _ ?_
    show Steps _ _ _ (T10.setTop (mkF m 17 #[vA a_, vA ch, vI 0, vI 0, .val .null, .unset] [])) _
    refine XS.aloadN X10.here hx rfl (hb hby d194) rfl rfl ?_
    refine st13 _ ?_
    show Steps _ _ _ (T13.setTop (mkF m 20 #[vA a_, vA ch, vI 0, vI 0, .val .null, .unset] [(.ref a13), (.ref a_)])) _
    refine st18 _ ?_
    show Steps _ _ _ (T18.setTop (mkF m 23 #[vA a_, vA ch, vI 0, vI 0, .val .null, .unset] [(.int 0), (.ref a_)])) _
    refine st19 _ ?_
    show Steps _ _ _ (T19.setTop (mkF m 26 #[vA a_, vA ch, vI 0, vI 0, .val .null, .unset] [])) _
    exact X19.returnOut hx Bd.returns (hb hby d198) hr
  · show Q_s149_0 Z a_ ch cd h0 n0 _ T19.heap _
    rw [(e19 : T19.heap = h19)]
    exact ⟨b5, k5, rfl, N19, K19, f25, f27, F19, f30⟩
theorem d199 : decode jdk_42_method_3_code 0 = .ok (.aload_n 0, 1) := by decide +kernel
theorem d200 : decode jdk_42_method_3_code 1 = .ok (.aload_n 1, 1) := by decide +kernel
theorem d201 : decode jdk_42_method_3_code 2 = .ok (.iconst 0, 1) := by decide +kernel
theorem d202 : decode jdk_42_method_3_code 3 = .ok (.aload_n 1, 1) := by decide +kernel
theorem d203 : decode jdk_42_method_3_code 4 = .ok (.arraylength, 1) := by decide +kernel
theorem d204 : decode jdk_42_method_3_code 5 = .ok (.aconst_null, 1) := by decide +kernel
theorem w_11 {Z : State} {a0 : Array Value} (hw : HW Z a0) : (Jvm.Cond.methodLink "java/lang/String" (27 : Nat) m_14).before a0 Z = true := hw _ (List.mem_of_getElem? (i := 11) rfl)
theorem w_14 {Z : State} {a0 : Array Value} (hw : HW Z a0) : (Jvm.Cond.code m_14 jdk_42_method_149_code (6 : Nat) (Option.none : Option Jvm.ClassFile.FieldType)).before a0 Z = true := hw _ (List.mem_of_getElem? (i := 14) rfl)
theorem pd_6 : parseMethodDescriptor "([CIILjava/lang/Void;)V" = some ⟨[(.array .char), .int, .int, (.object "java/lang/Void")], none⟩ := by decide +kernel
theorem d205 : decode jdk_42_method_3_code 6 = .ok (.invokespecial 27, 3) := by decide +kernel
theorem w_12 {Z : State} {a0 : Array Value} (hw : HW Z a0) : (Jvm.Cond.instanceMethod m_14).before a0 Z = true := hw _ (List.mem_of_getElem? (i := 12) rfl)
theorem d206 : decode jdk_42_method_3_code 9 = .ok (.return_, 1) := by decide +kernel
theorem ef_9 (m : MethodId) (x0 : Addr) (x1 : Addr) : entryFrame m #[(.ref x0), (.ref x1)] 2 = mkF m 0 #[vA x0, vA x1] [] := by first | (simp [entryFrame, mkF, argsToLocals, Value.category, maxLocals]; done) | rfl
abbrev m_15 : MethodName := (⟨"java/lang/String", "<init>", "([C)V"⟩ : MethodName)
def Q_s3_0 (Z : State) (a_ : Addr) (ch : Addr) (cd : Int32) (kc : ClassId) (vs : List Value) (h0 : Heap) (n0 : Nat) (v : Option Value) (h : Heap) (L : List Loc) : Prop := ∃ (b : Addr) (k : ClassId), (v = none) ∧ (Fr n0 L) ∧ (Keep h0 h [a_]) ∧ (Exa Z h a_ "java/lang/String") ∧ (fld0 Z h a_ (.ref b)) ∧ (fld1 Z h a_ (.int 0)) ∧ (Arv Z h b k .byte (0 : Int32) [] (.int 0))
theorem rm_s3_0 (l : Launch) (Z : State) (a0 : Array Value) (hw : HW Z a0) (ws : List Jvm.Cond) (a_ : Addr) (ch : Addr) (cd : Int32) (kc : ClassId) (vs : List Value) (h0 : Heap) (n0 : Nat) (Z0 : n0 ≤ h0.size) (P0 : Exa Z h0 a_ "java/lang/String") (P1 : fld0 Z h0 a_ .null) (P2 : fld1 Z h0 a_ (.int cd)) (P3 : n0 ≤ a_) (P4 : Arv Z h0 ch kc .char (0 : Int32) vs (.int 0)) :
    MetFree l m_15 (head1 (Jvm.Cond.code m_15 jdk_42_method_3_code 2 none :: ws) (oR 2 4 8 29)) (fun as' U => as' = #[(.ref a_), (.ref ch)] ∧ Z.Warmed39 U.vm ∧ U.heap = h0 ∧ CHv Z own_EL U.vm h0) (fun _ _ _ _ _ => True) (fun _ U o U' => ∃ v L, o = .returned v ∧ Q_s3_0 Z a_ ch cd kc vs h0 n0 v U'.heap L ∧ CHr Z own_EL U.vm U.heap U'.vm U'.heap ∧ ReturnedEndW U o U' L (oR 2 4 8 29).cells (oR 2 4 8 29).slots) := by
  refine MetFree.of_bodySF (plainFor_of_name pn_5) hisR ?_
  intro p e s m args below meth c s₁ Bd hml0 hP hK
  obtain ⟨rfl, hZ, hh, hCH⟩ := hP
  have hx := Bd.exec
  have hby := Bd.bytes
  have hml : c.maxLocals = 2 := hml0
  have hown : (s.setVm s.vm).vm.findClass "java/lang/String" = some m.cls := findClass_of_methodNamed Bd.named
  have hnm := (name_of_methodNamed Bd.named Bd.method).1
  have X0 : Stand p l e (oR 2 4 8 29) (s.setVm s.vm) m #[(.ref a_), (.ref ch)] below meth c s₁ [] 0 0 := Stand.of_body Bd
  have e0 : s₁.heap = h0 := by rw [← hh, Bd.state]; rfl
  have N0 := Fr.nil n0
  have hZ : Z.Warmed39 (s.setVm s.vm).vm := hZ
  have hS0 : s.Since s.vm h0.size := (State.WarmedH.refl s).since _
  have hk0 : h0.size ≤ h0.size := Nat.le_refl _
  have C0 : CHr Z own_EL s.vm h0 s.vm h0 := CHr.refl hCH
  have K0 := Keep.refl h0 [a_]
  have lt1 := own_l P0.lt
  have lt2 := own_l P1.lt
  have lt3 := own_l P2.lt
  have lt4 := own_l P4.lt
  have sfa : Safe Z own_EL s.vm h0 a_ := own_safe_null hZ.alike P0 P1
  obtain ⟨cl5, Ar5, q5, S5, M5, H5, G5⟩ := id P4
  obtain ⟨_, _, ⟨T6, L6, k6, n6⟩, -, X6, hSb6, hgr6, ⟨Lc6, hQ6, l6, y6, z6, Cs6⟩, st6⟩ := X0.specialBackS hx (y := m_14) rfl hown (mvT hZ (w_11 hw)) (mvT hZ (w_12 hw)) (mvT hZ (w_14 hw)) (by decide) (backOfSH (W := 0) (rm_s149_0 l Z a0 hw [] a_ ch cd h0 n0 (by omega) P0 P1 P2 (by omega)) hZ (w_14 hw) (w_6 hw) (by decide) (by decide) (own_EW hw) C0.1) (g := (mkF m 6 #[vA a_, vA ch] [.null, (.int 0), (.int 0), (.ref ch), (.ref a_)])) rfl (by rw [hml]; rfl) (Steps.refl _) (a := a_) (argsL := [(.ref ch), (.int 0), (.int 0), .null]) (rest := []) (lenOf pd_6 rfl) rfl (Nat.le_of_eq rfl) (hb hby d205) (fun _ _ => ⟨rfl, e0, (by decide : 0 + 4 ≤ _), (by decide : 0 + 8 ≤ _)⟩)
  dsimp only [Pt.U, Pt.locs, Pt.cells, Pt.slots] at X6 l6 y6 z6 st6 hQ6 hSb6 hgr6 Cs6
  rw [l6, y6, z6] at X6
  rw [e0] at hgr6
  obtain ⟨X6, hS6, hZ6, hown6⟩ := rebS hS0 (by omega) X6 hSb6 hgr6 hZ hown
  have hk6 : T6.heap.size ≤ T6.heap.size := Nat.le_refl _
  obtain ⟨x6_b, x6_k, rfl, Nq6, Kq6, r6_0, r6_1, r6_2, r6_3⟩ := hQ6
  have N6 := Fr.app N0 Nq6
  have C6 := C0.trans Cs6
  have z6' := Kq6.1
  have K6 := K0.trans Kq6 (allS (Or.inl (List.mem_of_getElem? (i := 0) rfl)) all0)
  have lt7 := own_l r6_0.lt
  have lt8 := own_l r6_1.lt
  have lt9 := own_l r6_2.lt
  have lt10 := own_l r6_3.lt
  obtain ⟨fs, hr, hrun, hended, hEnd⟩ := X6.leaveW hS6 (by first | omega | (rw [(rfl : T6.heap = T6.heap)]; omega)) (v := none) (fun _ => rfl)
  have Cz := C6.trans (CHv.at X6 hZ6 (own_EW hw) C6.1)
  refine ⟨_, _, castTop (ef_9 m a_ ch) ?_, hrun, hended, _, _, rfl, ?_, (by rw [hh]; show CHr Z own_EL s.vm h0 T6.vm T6.heap; rw [(rfl : T6.heap = T6.heap)]; exact Cz), hEnd.1, hEnd.2.1, hEnd.2.2.1, hEnd.2.2.2.mono (by decide) (by decide)⟩
  · show Steps _ _ _ (s₁.setTop (mkF m 0 #[vA a_, vA ch] [])) _
    refine XS.aloadN X0.here hx rfl (hb hby d199) rfl rfl ?_
    refine XS.aloadN X0.here hx rfl (hb hby d200) rfl rfl ?_
    refine XS.iconst X0.here hx rfl (hb hby d201) ?_
    refine XS.aloadN X0.here hx rfl (hb hby d202) rfl rfl ?_
    refine X0.arraylength hx (by rw [e0]; exact Ar5.1) (State.isArrayOf_alike hZ.alike Ar5.2.1) (g := (mkF m 4 #[vA a_, vA ch] [(.ref ch), (.int 0), (.ref ch), (.ref a_)])) rfl rfl (hb hby d203) _ ?_
    rw [len_of S5 M5]
    show Steps _ _ _ (s₁.setTop (mkF m 5 #[vA a_, vA ch] [(.int 0), (.int 0), (.ref ch), (.ref a_)])) _
    refine XS.aconstNull X0.here hx rfl (hb hby d204) ?_
    refine st6.trans ?_
    show Steps _ _ _ (T6.setTop (mkF m 9 #[vA a_, vA ch] [])) _
    exact X6.returnOut hx Bd.returns (hb hby d206) hr
  · show Q_s3_0 Z a_ ch cd kc vs h0 n0 _ T6.heap _
    exact ⟨x6_b, x6_k, rfl, N6, K6, r6_0, r6_1, r6_2, r6_3⟩
theorem w_45 {Z : State} {a0 : Array Value} (hw : HW Z a0) : (Jvm.Cond.fieldLink "java/lang/String" (38 : Nat) "java/lang/String" "COMPACT_STRINGS" "Z").before a0 Z = true := hw _ (List.mem_of_getElem? (i := 45) rfl)
theorem d207 : decode jdk_42_method_149_code 27 = .ok (.getstatic 38, 3) := by decide +kernel
theorem d208 : decode jdk_42_method_149_code 30 = .ok (.ifCond .eq 28, 3) := by decide +kernel
theorem d209 : decode jdk_42_method_149_code 33 = .ok (.aload_n 1, 1) := by decide +kernel
theorem d210 : decode jdk_42_method_149_code 34 = .ok (.iload_n 2, 1) := by decide +kernel
theorem d211 : decode jdk_42_method_149_code 35 = .ok (.iload_n 3, 1) := by decide +kernel
theorem w_70 {Z : State} {a0 : Array Value} (hw : HW Z a0) : (Jvm.Cond.methodLink "java/lang/String" (177 : Nat) m_11).before a0 Z = true := hw _ (List.mem_of_getElem? (i := 70) rfl)
theorem w_73 {Z : State} {a0 : Array Value} (hw : HW Z a0) : (Jvm.Cond.code m_11 jdk_52_method_16_code (6 : Nat) (Option.some (FieldType.array FieldType.byte))).before a0 Z = true := hw _ (List.mem_of_getElem? (i := 73) rfl)
theorem d212 : decode jdk_42_method_149_code 36 = .ok (.invokestatic 177, 3) := by decide +kernel
theorem w_71 {Z : State} {a0 : Array Value} (hw : HW Z a0) : (Jvm.Cond.static m_11).before a0 Z = true := hw _ (List.mem_of_getElem? (i := 71) rfl)
theorem d213 : decode jdk_42_method_149_code 39 = .ok (.astore 5, 2) := by decide +kernel
theorem d214 : decode jdk_42_method_149_code 41 = .ok (.aload_n 0, 1) := by decide +kernel
theorem d215 : decode jdk_42_method_149_code 42 = .ok (.aload 5, 2) := by decide +kernel
theorem d216 : decode jdk_42_method_149_code 44 = .ok (.iload_n 3, 1) := by decide +kernel
theorem w_77 {Z : State} {a0 : Array Value} (hw : HW Z a0) : (Jvm.Cond.methodLink "java/lang/String" (47 : Nat) m_12).before a0 Z = true := hw _ (List.mem_of_getElem? (i := 77) rfl)
theorem w_79 {Z : State} {a0 : Array Value} (hw : HW Z a0) : (Jvm.Cond.code m_12 jdk_52_method_15_code (2 : Nat) (Option.some FieldType.byte)).before a0 Z = true := hw _ (List.mem_of_getElem? (i := 79) rfl)
theorem pd_7 : parseMethodDescriptor "([BI)B" = some ⟨[(.array .byte), .int], some .byte⟩ := by decide +kernel
theorem d217 : decode jdk_42_method_149_code 45 = .ok (.invokestatic 47, 3) := by decide +kernel
theorem w_78 {Z : State} {a0 : Array Value} (hw : HW Z a0) : (Jvm.Cond.static m_12).before a0 Z = true := hw _ (List.mem_of_getElem? (i := 78) rfl)
theorem d218 : decode jdk_42_method_149_code 48 = .ok (.putfield 15, 3) := by decide +kernel
theorem d219 : decode jdk_42_method_149_code 51 = .ok (.aload_n 0, 1) := by decide +kernel
theorem d220 : decode jdk_42_method_149_code 52 = .ok (.aload 5, 2) := by decide +kernel
theorem d221 : decode jdk_42_method_149_code 54 = .ok (.putfield 9, 3) := by decide +kernel
theorem d222 : decode jdk_42_method_149_code 57 = .ok (.return_, 1) := by decide +kernel
def Q_s149_1_0 (Z : State) (a_ : Addr) (ch : Addr) (cd : Int32) (c0 : Int32) (kc : ClassId) (cs : Int32) (h0 : Heap) (n0 : Nat) (v : Option Value) (h : Heap) (L : List Loc) : Prop := ∃ (b : Addr) (k : ClassId), (v = none) ∧ (Fr n0 L) ∧ (Keep h0 h [a_]) ∧ (Exa Z h a_ "java/lang/String") ∧ (fld0 Z h a_ (.ref b)) ∧ (fld1 Z h a_ (.int 1)) ∧ (Arv Z h b k .byte (2 : Int32) [(.int (oL c0)), (.int (oH c0))] (.int 0)) ∧ (Old Z n0 h)
theorem rm_s149_1_0 (l : Launch) (Z : State) (a0 : Array Value) (hw : HW Z a0) (ws : List Jvm.Cond) (a_ : Addr) (ch : Addr) (cd : Int32) (c0 : Int32) (kc : ClassId) (cs : Int32) (h0 : Heap) (n0 : Nat) (Z0 : n0 ≤ h0.size) (P0 : Exa Z h0 a_ "java/lang/String") (P1 : fld0 Z h0 a_ .null) (P2 : fld1 Z h0 a_ (.int cd)) (P3 : n0 ≤ a_) (P4 : Arv Z h0 ch kc .char (1 : Int32) [(.int c0)] (.int 0)) (P5 : Old Z n0 h0) (P6 : sta0 Z (.int cs)) (P7 : sta1 Z (.int 1)) (P8 : sta2 Z (.int 0)) (P9 : sta3 Z (.int 8)) (hcs : ¬ (cs = (0 : Int32))) (hgt : (255 : Int32) < c0) (r0 : ¬ c0 < 0 ∧ ¬ (65535 : Int32) < c0) :
    MF l Z m_14 jdk_42_method_149_code 6 none ws (oR 4 2 3 57) #[(.ref a_), (.ref ch), (.int 0), (.int 1), .null] h0 (Q_s149_1_0 Z a_ ch cd c0 kc cs h0 n0) := by
  refine own_body (cls := "java/lang/String") (plainFor_of_name pn_5) rfl (fun p e s m below meth c s₁ hx hby hml hown hnm hret hZ X0 e0 => ?_)
  have N0 := Fr.nil n0
  have K0 := Keep.refl h0 [a_]
  have lt1 := own_l P0.lt
  have lt2 := own_l P1.lt
  have lt3 := own_l P2.lt
  have lt4 := own_l P4.lt
  obtain ⟨T5, X5, e5, st5⟩ := initO X0 hx hZ hown (w_15 hw) (w_16 hw) (w_17 hw) e0 (g := (mkF m 1 #[vA a_, vA ch, vI 0, vI 1, .val .null, .unset] [(.ref a_)])) rfl (by rw [hml]; rfl) rfl (hb hby d187) (by decide) (W := 0) (Nat.le_of_eq rfl) (by decide)
  obtain ⟨T6, X6, e6, st6⟩ := getS2 X5 hx hZ hown (host := "") (Or.inl (w_45 hw)) Via.refl e5 (P6.ext P5.2) (g := (mkF m 27 #[vA a_, vA ch, vI 0, vI 1, .val .null, .unset] [])) rfl (hb hby d207)
  obtain ⟨_, _, ⟨T7, L7, k7, n7⟩, -, X7, ⟨Lc7, hQ7, l7, y7, z7⟩, st7⟩ := Jvm.LawKit.callS X6 hx (y := m_11) hown (mvT hZ (w_70 hw)) (mvT hZ (w_71 hw)) (mvT hZ (w_72 hw)) (mvT hZ (w_73 hw)) (by decide) (backOf (W := 0) (rm_cm3_1_0 l Z a0 hw [] c0 ch kc h0 n0 (by omega) P5 P4 P7 P8 P9 hgt r0) hZ (w_73 hw) (w_72 hw) (by decide) (by decide)) (g := (mkF m 36 #[vA a_, vA ch, vI 0, vI 1, .val .null, .unset] [(.int 1), (.int 0), (.ref ch)])) rfl (by rw [hml]; rfl) (argsL := [(.ref ch), (.int 0), (.int 1)]) (rest := []) (lenOf pd_4 rfl) rfl (Nat.le_of_eq rfl) (hb hby d212) (fun _ _ => ⟨rfl, e6, (by decide : 0 + 2 ≤ _), (by decide : 0 + 3 ≤ _)⟩)
  dsimp only [Pt.U, Pt.locs, Pt.cells, Pt.slots] at X7 l7 y7 z7 st7 hQ7
  rw [l7, y7, z7] at X7
  obtain ⟨x7_b, x7_k, rfl, Nq7, Kq7, r7_0, r7_1, r7_2⟩ := hQ7
  have N7 := Fr.app N0 Nq7
  have z7' := Kq7.1
  have K7 := K0.trans Kq7 all0
  have lt8 := own_l r7_1.lt
  obtain ⟨_, _, ⟨T9, L9, k9, n9⟩, -, X9, ⟨Lc9, hQ9, l9, y9, z9⟩, st9⟩ := Jvm.LawKit.callS X7 hx (y := m_12) hown (mvT hZ (w_77 hw)) (mvT hZ (w_78 hw)) (mvT hZ (w_72 hw)) (mvT hZ (w_79 hw)) (by decide) (backOf (W := 1) (rm_cfl1_1 l Z a0 hw [] x7_b x7_k ([(.int (oL c0)), (.int (oH c0))]) T7.heap n0 (by omega) r7_1) hZ (w_79 hw) (w_72 hw) (by decide) (by decide)) (g := (mkF m 45 #[vA a_, vA ch, vI 0, vI 1, .val .null, vA x7_b] [(.int 1), (.ref x7_b), (.ref a_)])) rfl (by rw [hml]; rfl) (argsL := [(.ref x7_b), (.int 1)]) (rest := [(.ref a_)]) (lenOf pd_7 rfl) rfl (Nat.le_of_eq rfl) (hb hby d217) (fun _ _ => ⟨rfl, rfl, (by decide : 2 + 0 ≤ _), (by decide : 3 + 0 ≤ _)⟩)
  dsimp only [Pt.U, Pt.locs, Pt.cells, Pt.slots] at X9 l9 y9 z9 st9 hQ9
  rw [l9, y9, z9] at X9
  obtain ⟨rfl, Nq9, Kq9⟩ := hQ9
  have N9 := Fr.app N7 Nq9
  have f11 := P2.keep Kq7 nin0
  have f12 := P0.keep Kq7
  obtain ⟨T10, h10, X10, e10, W10, st10⟩ := putFN X9 hx hZ hown (w_25 hw) Via.refl Kq9 f11 f12 (Or.inr ⟨(w_21 hw), rfl, hnm⟩) (w_5 hw) (ty := .byte) (v' := (.int 1)) (by decide) rfl rfl (g := (mkF m 48 #[vA a_, vA ch, vI 0, vI 1, .val .null, vA x7_b] [(.int 1), (.ref a_)])) rfl rfl (hb hby d218)
  have F10 := f11.same W10
  have z10 := W10.size
  have K10 := K7.wr W10 (Or.inl (List.mem_of_getElem? (i := 0) rfl))
  have N10 := Fr.snoc X10 N9 (by omega)
  have f14 := P1.keep Kq7 nin0
  have f15 := f14.other W10 (Or.inr (slot_ne (a0 := a0) (t := (.array .byte)) (t' := .byte) (Or.inr (w_20 hw)) (Or.inr (w_21 hw)) (by decide) (by decide) (by decide)))
  have f16 := f12.wr W10
  obtain ⟨T13, h13, X13, e13, W13, st13⟩ := putF X10 hx hZ hown (host := "") (Or.inl (w_24 hw)) Via.refl e10 f15 f16 (Or.inr ⟨(w_20 hw), rfl, hnm⟩) (w_5 hw) (ty := (.array .byte)) (by decide) rfl rfl (g := (mkF m 54 #[vA a_, vA ch, vI 0, vI 1, .val .null, vA x7_b] [(.ref x7_b), (.ref a_)])) rfl rfl (hb hby d221)
  have F13 := f15.same W13
  have z13 := W13.size
  have K13 := K10.wr W13 (Or.inl (List.mem_of_getElem? (i := 0) rfl))
  have N13 := Fr.snoc X13 N10 (by omega)
  have f17 := f16.wr W13
  have f18 := F10.other W13 (Or.inr (slot_ne (a0 := a0) (t := .byte) (t' := (.array .byte)) (Or.inr (w_21 hw)) (Or.inr (w_20 hw)) (by decide) (by decide) (by decide)))
  have f19 := r7_1.other W10 (own_ne (by omega))
  have f20 := f19.other W13 (own_ne (by omega))
  have f21 := r7_2.wr W10 (by omega)
  have f22 := f21.wr W13 (by omega)
  refine ⟨_, _, _, _, none, X13, by decide, by decide, fun _ => rfl, ?_, fun fs hr => castTop (ef_8 m a_ ch (0 : Int32) (1 : Int32)) ?_⟩
  · show Q_s149_1_0 Z a_ ch cd c0 kc cs h0 n0 _ T13.heap _
    rw [(e13 : T13.heap = h13)]
    exact ⟨x7_b, x7_k, rfl, N13, K13, f17, F13, f18, f20, f22⟩
  · show Steps _ _ _ (s₁.setTop (mkF m 0 #[vA a_, vA ch, vI 0, vI 1, .val .null, .unset] [])) _
    refine XS.aloadN X0.here hx rfl (hb hby d186) rfl rfl ?_
    refine st5 _ ?_
    show Steps _ _ _ (T5.setTop (mkF m 4 #[vA a_, vA ch, vI 0, vI 1, .val .null, .unset] [])) _
    refine XS.iloadN X5.here hx rfl (hb hby d188) rfl ?_
    refine XS.ifYes X5.here hx rfl (pc0 := 5) (pc' := 27) rfl (hb hby d189) rfl ((if0 _ _).trans (feq ((by decide) : ¬ ((1 : Int32) = (0 : Int32)))).2) (by decide) (by decide) ?_
    refine st6 _ ?_
    show Steps _ _ _ (T6.setTop (mkF m 30 #[vA a_, vA ch, vI 0, vI 1, .val .null, .unset] [(.int cs)])) _
    refine XS.ifNo X6.here hx rfl (hb hby d208) rfl ((if0 _ _).trans (feq (hcs : ¬ (cs = (0 : Int32)))).1) ?_
    refine XS.aloadN X6.here hx rfl (hb hby d209) rfl rfl ?_
    refine XS.iloadN X6.here hx rfl (hb hby d210) rfl ?_
    refine XS.iloadN X6.here hx rfl (hb hby d211) rfl ?_
    refine st7 _ ?_
    show Steps _ _ _ (T7.setTop (mkF m 39 #[vA a_, vA ch, vI 0, vI 1, .val .null, .unset] [(.ref x7_b)])) _
    refine XS.astore X7.here hx rfl (hb hby d213) rfl rfl (l' := #[vA a_, vA ch, vI 0, vI 1, .val .null, vA x7_b]) rfl ?_
    refine XS.aloadN X7.here hx rfl (hb hby d214) rfl rfl ?_
    refine XS.aload X7.here hx rfl (hb hby d215) rfl rfl ?_
    refine XS.iloadN X7.here hx rfl (hb hby d216) rfl ?_
    refine st9 _ ?_
    show Steps _ _ _ (T9.setTop (mkF m 48 #[vA a_, vA ch, vI 0, vI 1, .val .null, vA x7_b] [(.int 1), (.ref a_)])) _
    refine st10 _ ?_
    show Steps _ _ _ (T10.setTop (mkF m 51 #[vA a_, vA ch, vI 0, vI 1, .val .null, vA x7_b] [])) _
    refine XS.aloadN X10.here hx rfl (hb hby d219) rfl rfl ?_
    refine XS.aload X10.here hx rfl (hb hby d220) rfl rfl ?_
    refine st13 _ ?_
    show Steps _ _ _ (T13.setTop (mkF m 57 #[vA a_, vA ch, vI 0, vI 1, .val .null, vA x7_b] [])) _
    exact X13.returnOut hx hret (hb hby d222) hr
def Q_s149_1_1 (Z : State) (a_ : Addr) (ch : Addr) (cd : Int32) (c0 : Int32) (kc : ClassId) (cs : Int32) (h0 : Heap) (n0 : Nat) (v : Option Value) (h : Heap) (L : List Loc) : Prop := ∃ (b : Addr) (k : ClassId), (v = none) ∧ (Fr n0 L) ∧ (Keep h0 h [a_]) ∧ (Exa Z h a_ "java/lang/String") ∧ (fld0 Z h a_ (.ref b)) ∧ (fld1 Z h a_ (.int 0)) ∧ (Arv Z h b k .byte (1 : Int32) [(.int (oB c0))] (.int 0)) ∧ (Old Z n0 h)
theorem rm_s149_1_1 (l : Launch) (Z : State) (a0 : Array Value) (hw : HW Z a0) (ws : List Jvm.Cond) (a_ : Addr) (ch : Addr) (cd : Int32) (c0 : Int32) (kc : ClassId) (cs : Int32) (h0 : Heap) (n0 : Nat) (Z0 : n0 ≤ h0.size) (P0 : Exa Z h0 a_ "java/lang/String") (P1 : fld0 Z h0 a_ .null) (P2 : fld1 Z h0 a_ (.int cd)) (P3 : n0 ≤ a_) (P4 : Arv Z h0 ch kc .char (1 : Int32) [(.int c0)] (.int 0)) (P5 : Old Z n0 h0) (P6 : sta0 Z (.int cs)) (P7 : sta1 Z (.int 1)) (P8 : sta2 Z (.int 0)) (P9 : sta3 Z (.int 8)) (hcs : ¬ (cs = (0 : Int32))) (hl0 : ¬ ((255 : Int32) < c0)) :
    MF l Z m_14 jdk_42_method_149_code 6 none ws (oR 2 1 1 35) #[(.ref a_), (.ref ch), (.int 0), (.int 1), .null] h0 (Q_s149_1_1 Z a_ ch cd c0 kc cs h0 n0) := by
  refine own_body (cls := "java/lang/String") (plainFor_of_name pn_5) rfl (fun p e s m below meth c s₁ hx hby hml hown hnm hret hZ X0 e0 => ?_)
  have N0 := Fr.nil n0
  have K0 := Keep.refl h0 [a_]
  have lt1 := own_l P0.lt
  have lt2 := own_l P1.lt
  have lt3 := own_l P2.lt
  have lt4 := own_l P4.lt
  obtain ⟨T5, X5, e5, st5⟩ := initO X0 hx hZ hown (w_15 hw) (w_16 hw) (w_17 hw) e0 (g := (mkF m 1 #[vA a_, vA ch, vI 0, vI 1, .val .null, .unset] [(.ref a_)])) rfl (by rw [hml]; rfl) rfl (hb hby d187) (by decide) (W := 0) (Nat.le_of_eq rfl) (by decide)
  obtain ⟨T6, X6, e6, st6⟩ := getS2 X5 hx hZ hown (host := "") (Or.inl (w_45 hw)) Via.refl e5 (P6.ext P5.2) (g := (mkF m 27 #[vA a_, vA ch, vI 0, vI 1, .val .null, .unset] [])) rfl (hb hby d207)
  obtain ⟨_, _, ⟨T7, L7, k7, n7⟩, -, X7, ⟨Lc7, hQ7, l7, y7, z7⟩, st7⟩ := Jvm.LawKit.callS X6 hx (y := m_11) hown (mvT hZ (w_70 hw)) (mvT hZ (w_71 hw)) (mvT hZ (w_72 hw)) (mvT hZ (w_73 hw)) (by decide) (backOf (W := 0) (rm_cm3_1_1 l Z a0 hw [] c0 ch kc h0 n0 (by omega) P5 P4 P7 P8 P9 hl0) hZ (w_73 hw) (w_72 hw) (by decide) (by decide)) (g := (mkF m 36 #[vA a_, vA ch, vI 0, vI 1, .val .null, .unset] [(.int 1), (.int 0), (.ref ch)])) rfl (by rw [hml]; rfl) (argsL := [(.ref ch), (.int 0), (.int 1)]) (rest := []) (lenOf pd_4 rfl) rfl (Nat.le_of_eq rfl) (hb hby d212) (fun _ _ => ⟨rfl, e6, (by decide : 0 + 1 ≤ _), (by decide : 0 + 1 ≤ _)⟩)
  dsimp only [Pt.U, Pt.locs, Pt.cells, Pt.slots] at X7 l7 y7 z7 st7 hQ7
  rw [l7, y7, z7] at X7
  obtain ⟨x7_b, x7_k, rfl, Nq7, Kq7, r7_0, r7_1, r7_2⟩ := hQ7
  have N7 := Fr.app N0 Nq7
  have z7' := Kq7.1
  have K7 := K0.trans Kq7 all0
  have lt8 := own_l r7_1.lt
  obtain ⟨_, _, ⟨T9, L9, k9, n9⟩, -, X9, ⟨Lc9, hQ9, l9, y9, z9⟩, st9⟩ := Jvm.LawKit.callS X7 hx (y := m_12) hown (mvT hZ (w_77 hw)) (mvT hZ (w_78 hw)) (mvT hZ (w_72 hw)) (mvT hZ (w_79 hw)) (by decide) (backOf (W := 1) (rm_cfl1_0 l Z a0 hw [] x7_b x7_k ([(.int (oB c0))]) T7.heap n0 (by omega) r7_1) hZ (w_79 hw) (w_72 hw) (by decide) (by decide)) (g := (mkF m 45 #[vA a_, vA ch, vI 0, vI 1, .val .null, vA x7_b] [(.int 1), (.ref x7_b), (.ref a_)])) rfl (by rw [hml]; rfl) (argsL := [(.ref x7_b), (.int 1)]) (rest := [(.ref a_)]) (lenOf pd_7 rfl) rfl (Nat.le_of_eq rfl) (hb hby d217) (fun _ _ => ⟨rfl, rfl, (by decide : 1 + 0 ≤ _), (by decide : 1 + 0 ≤ _)⟩)
  dsimp only [Pt.U, Pt.locs, Pt.cells, Pt.slots] at X9 l9 y9 z9 st9 hQ9
  rw [l9, y9, z9] at X9
  obtain ⟨rfl, Nq9, Kq9⟩ := hQ9
  have N9 := Fr.app N7 Nq9
  have f11 := P2.keep Kq7 nin0
  have f12 := P0.keep Kq7
  obtain ⟨T10, h10, X10, e10, W10, st10⟩ := putFN X9 hx hZ hown (w_25 hw) Via.refl Kq9 f11 f12 (Or.inr ⟨(w_21 hw), rfl, hnm⟩) (w_5 hw) (ty := .byte) (v' := (.int 0)) (by decide) rfl rfl (g := (mkF m 48 #[vA a_, vA ch, vI 0, vI 1, .val .null, vA x7_b] [(.int 0), (.ref a_)])) rfl rfl (hb hby d218)
  have F10 := f11.same W10
  have z10 := W10.size
  have K10 := K7.wr W10 (Or.inl (List.mem_of_getElem? (i := 0) rfl))
  have N10 := Fr.snoc X10 N9 (by omega)
  have f14 := P1.keep Kq7 nin0
  have f15 := f14.other W10 (Or.inr (slot_ne (a0 := a0) (t := (.array .byte)) (t' := .byte) (Or.inr (w_20 hw)) (Or.inr (w_21 hw)) (by decide) (by decide) (by decide)))
  have f16 := f12.wr W10
  obtain ⟨T13, h13, X13, e13, W13, st13⟩ := putF X10 hx hZ hown (host := "") (Or.inl (w_24 hw)) Via.refl e10 f15 f16 (Or.inr ⟨(w_20 hw), rfl, hnm⟩) (w_5 hw) (ty := (.array .byte)) (by decide) rfl rfl (g := (mkF m 54 #[vA a_, vA ch, vI 0, vI 1, .val .null, vA x7_b] [(.ref x7_b), (.ref a_)])) rfl rfl (hb hby d221)
  have F13 := f15.same W13
  have z13 := W13.size
  have K13 := K10.wr W13 (Or.inl (List.mem_of_getElem? (i := 0) rfl))
  have N13 := Fr.snoc X13 N10 (by omega)
  have f17 := f16.wr W13
  have f18 := F10.other W13 (Or.inr (slot_ne (a0 := a0) (t := .byte) (t' := (.array .byte)) (Or.inr (w_21 hw)) (Or.inr (w_20 hw)) (by decide) (by decide) (by decide)))
  have f19 := r7_1.other W10 (own_ne (by omega))
  have f20 := f19.other W13 (own_ne (by omega))
  have f21 := r7_2.wr W10 (by omega)
  have f22 := f21.wr W13 (by omega)
  refine ⟨_, _, _, _, none, X13, by decide, by decide, fun _ => rfl, ?_, fun fs hr => castTop (ef_8 m a_ ch (0 : Int32) (1 : Int32)) ?_⟩
  · show Q_s149_1_1 Z a_ ch cd c0 kc cs h0 n0 _ T13.heap _
    rw [(e13 : T13.heap = h13)]
    exact ⟨x7_b, x7_k, rfl, N13, K13, f17, F13, f18, f20, f22⟩
  · show Steps _ _ _ (s₁.setTop (mkF m 0 #[vA a_, vA ch, vI 0, vI 1, .val .null, .unset] [])) _
    refine XS.aloadN X0.here hx rfl (hb hby d186) rfl rfl ?_
    refine st5 _ ?_
    show Steps _ _ _ (T5.setTop (mkF m 4 #[vA a_, vA ch, vI 0, vI 1, .val .null, .unset] [])) _
    refine XS.iloadN X5.here hx rfl (hb hby d188) rfl ?_
    refine XS.ifYes X5.here hx rfl (pc0 := 5) (pc' := 27) rfl (hb hby d189) rfl ((if0 _ _).trans (feq ((by decide) : ¬ ((1 : Int32) = (0 : Int32)))).2) (by decide) (by decide) ?_
    refine st6 _ ?_
    show Steps _ _ _ (T6.setTop (mkF m 30 #[vA a_, vA ch, vI 0, vI 1, .val .null, .unset] [(.int cs)])) _
    refine XS.ifNo X6.here hx rfl (hb hby d208) rfl ((if0 _ _).trans (feq (hcs : ¬ (cs = (0 : Int32)))).1) ?_
    refine XS.aloadN X6.here hx rfl (hb hby d209) rfl rfl ?_
    refine XS.iloadN X6.here hx rfl (hb hby d210) rfl ?_
    refine XS.iloadN X6.here hx rfl (hb hby d211) rfl ?_
    refine st7 _ ?_
    show Steps _ _ _ (T7.setTop (mkF m 39 #[vA a_, vA ch, vI 0, vI 1, .val .null, .unset] [(.ref x7_b)])) _
    refine XS.astore X7.here hx rfl (hb hby d213) rfl rfl (l' := #[vA a_, vA ch, vI 0, vI 1, .val .null, vA x7_b]) rfl ?_
    refine XS.aloadN X7.here hx rfl (hb hby d214) rfl rfl ?_
    refine XS.aload X7.here hx rfl (hb hby d215) rfl rfl ?_
    refine XS.iloadN X7.here hx rfl (hb hby d216) rfl ?_
    refine st9 _ ?_
    show Steps _ _ _ (T9.setTop (mkF m 48 #[vA a_, vA ch, vI 0, vI 1, .val .null, vA x7_b] [(.int 0), (.ref a_)])) _
    refine st10 _ ?_
    show Steps _ _ _ (T10.setTop (mkF m 51 #[vA a_, vA ch, vI 0, vI 1, .val .null, vA x7_b] [])) _
    refine XS.aloadN X10.here hx rfl (hb hby d219) rfl rfl ?_
    refine XS.aload X10.here hx rfl (hb hby d220) rfl rfl ?_
    refine st13 _ ?_
    show Steps _ _ _ (T13.setTop (mkF m 57 #[vA a_, vA ch, vI 0, vI 1, .val .null, vA x7_b] [])) _
    exact X13.returnOut hx hret (hb hby d222) hr
def Q_str1 (Z : State) (a_ : Addr) (ch : Addr) (cd : Int32) (c0 : Int32) (kc : ClassId) (cs : Int32) (h0 : Heap) (n0 : Nat) (v : Option Value) (h : Heap) (L : List Loc) : Prop := (v = none) ∧ (Fr n0 L) ∧ (Keep h0 h [a_]) ∧ (Exa Z h a_ "java/lang/String") ∧ (Old Z n0 h) ∧ ((SL Z h a_ [c0] ∨ SU Z h a_ [c0]))
theorem rm_str1_0 (l : Launch) (Z : State) (a0 : Array Value) (hw : HW Z a0) (ws : List Jvm.Cond) (a_ : Addr) (ch : Addr) (cd : Int32) (c0 : Int32) (kc : ClassId) (cs : Int32) (h0 : Heap) (n0 : Nat) (Z0 : n0 ≤ h0.size) (P0 : Exa Z h0 a_ "java/lang/String") (P1 : fld0 Z h0 a_ .null) (P2 : fld1 Z h0 a_ (.int cd)) (P3 : n0 ≤ a_) (P4 : Arv Z h0 ch kc .char (1 : Int32) [(.int c0)] (.int 0)) (P5 : Old Z n0 h0) (P6 : sta0 Z (.int cs)) (P7 : sta1 Z (.int 1)) (P8 : sta2 Z (.int 0)) (P9 : sta3 Z (.int 8)) (hcs : ¬ (cs = (0 : Int32))) (r0 : ¬ c0 < 0 ∧ ¬ (65535 : Int32) < c0) (hgt : (255 : Int32) < c0) :
    MF l Z m_15 jdk_42_method_3_code 2 none ws (oR 5 2 3 74) #[(.ref a_), (.ref ch)] h0 (Q_str1 Z a_ ch cd c0 kc cs h0 n0) := by
  refine own_body (cls := "java/lang/String") (plainFor_of_name pn_5) rfl (fun p e s m below meth c s₁ hx hby hml hown hnm hret hZ X0 e0 => ?_)
  have N0 := Fr.nil n0
  have K0 := Keep.refl h0 [a_]
  have lt1 := own_l P0.lt
  have lt2 := own_l P1.lt
  have lt3 := own_l P2.lt
  have lt4 := own_l P4.lt
  obtain ⟨cl5, Ar5, q5, S5, M5, H5, G5⟩ := id P4
  obtain ⟨_, _, ⟨T6, L6, k6, n6⟩, -, X6, ⟨Lc6, hQ6, l6, y6, z6⟩, st6⟩ := X0.specialBack hx (y := m_14) rfl hown (mvT hZ (w_11 hw)) (mvT hZ (w_12 hw)) (mvT hZ (w_14 hw)) (by decide) (backOf (W := 0) (rm_s149_1_0 l Z a0 hw [] a_ ch cd c0 kc cs h0 n0 (by omega) P0 P1 P2 (by omega) P4 P5 P6 P7 P8 P9 hcs hgt r0) hZ (w_14 hw) (w_6 hw) (by decide) (by decide)) (g := (mkF m 6 #[vA a_, vA ch] [.null, (.int 1), (.int 0), (.ref ch), (.ref a_)])) rfl (by rw [hml]; rfl) (Steps.refl _) (a := a_) (argsL := [(.ref ch), (.int 0), (.int 1), .null]) (rest := []) (lenOf pd_6 rfl) rfl (Nat.le_of_eq rfl) (hb hby d205) (fun _ _ => ⟨rfl, e0, (by decide : 0 + 2 ≤ _), (by decide : 0 + 3 ≤ _)⟩)
  dsimp only [Pt.U, Pt.locs, Pt.cells, Pt.slots] at X6 l6 y6 z6 st6 hQ6
  rw [l6, y6, z6] at X6
  obtain ⟨x6_b, x6_k, rfl, Nq6, Kq6, r6_0, r6_1, r6_2, r6_3, r6_4⟩ := hQ6
  have N6 := Fr.app N0 Nq6
  have z6' := Kq6.1
  have K6 := K0.trans Kq6 (allS (Or.inl (List.mem_of_getElem? (i := 0) rfl)) all0)
  have lt7 := own_l r6_0.lt
  have lt8 := own_l r6_1.lt
  have lt9 := own_l r6_2.lt
  have lt10 := own_l r6_3.lt
  refine ⟨_, _, _, _, none, X6, by decide, by decide, fun _ => rfl, ?_, fun fs hr => castTop (ef_9 m a_ ch) ?_⟩
  · show Q_str1 Z a_ ch cd c0 kc cs h0 n0 _ T6.heap _
    exact ⟨rfl, N6, K6, r6_0, r6_4, (Or.inr ⟨_, _, r6_1, r6_2, r6_3⟩)⟩
  · show Steps _ _ _ (s₁.setTop (mkF m 0 #[vA a_, vA ch] [])) _
    refine XS.aloadN X0.here hx rfl (hb hby d199) rfl rfl ?_
    refine XS.aloadN X0.here hx rfl (hb hby d200) rfl rfl ?_
    refine XS.iconst X0.here hx rfl (hb hby d201) ?_
    refine XS.aloadN X0.here hx rfl (hb hby d202) rfl rfl ?_
    refine X0.arraylength hx (by rw [e0]; exact Ar5.1) (State.isArrayOf_alike hZ.alike Ar5.2.1) (g := (mkF m 4 #[vA a_, vA ch] [(.ref ch), (.int 0), (.ref ch), (.ref a_)])) rfl rfl (hb hby d203) _ ?_
    rw [len_of S5 M5]
    show Steps _ _ _ (s₁.setTop (mkF m 5 #[vA a_, vA ch] [(.int 1), (.int 0), (.ref ch), (.ref a_)])) _
    refine XS.aconstNull X0.here hx rfl (hb hby d204) ?_
    refine st6.trans ?_
    show Steps _ _ _ (T6.setTop (mkF m 9 #[vA a_, vA ch] [])) _
    exact X6.returnOut hx hret (hb hby d206) hr
theorem rm_str1_1 (l : Launch) (Z : State) (a0 : Array Value) (hw : HW Z a0) (ws : List Jvm.Cond) (a_ : Addr) (ch : Addr) (cd : Int32) (c0 : Int32) (kc : ClassId) (cs : Int32) (h0 : Heap) (n0 : Nat) (Z0 : n0 ≤ h0.size) (P0 : Exa Z h0 a_ "java/lang/String") (P1 : fld0 Z h0 a_ .null) (P2 : fld1 Z h0 a_ (.int cd)) (P3 : n0 ≤ a_) (P4 : Arv Z h0 ch kc .char (1 : Int32) [(.int c0)] (.int 0)) (P5 : Old Z n0 h0) (P6 : sta0 Z (.int cs)) (P7 : sta1 Z (.int 1)) (P8 : sta2 Z (.int 0)) (P9 : sta3 Z (.int 8)) (hcs : ¬ (cs = (0 : Int32))) (r0 : ¬ c0 < 0 ∧ ¬ (65535 : Int32) < c0) (hl0 : ¬ ((255 : Int32) < c0)) :
    MF l Z m_15 jdk_42_method_3_code 2 none ws (oR 5 2 3 74) #[(.ref a_), (.ref ch)] h0 (Q_str1 Z a_ ch cd c0 kc cs h0 n0) := by
  refine own_body (cls := "java/lang/String") (plainFor_of_name pn_5) rfl (fun p e s m below meth c s₁ hx hby hml hown hnm hret hZ X0 e0 => ?_)
  have N0 := Fr.nil n0
  have K0 := Keep.refl h0 [a_]
  have lt1 := own_l P0.lt
  have lt2 := own_l P1.lt
  have lt3 := own_l P2.lt
  have lt4 := own_l P4.lt
  obtain ⟨cl5, Ar5, q5, S5, M5, H5, G5⟩ := id P4
  obtain ⟨_, _, ⟨T6, L6, k6, n6⟩, -, X6, ⟨Lc6, hQ6, l6, y6, z6⟩, st6⟩ := X0.specialBack hx (y := m_14) rfl hown (mvT hZ (w_11 hw)) (mvT hZ (w_12 hw)) (mvT hZ (w_14 hw)) (by decide) (backOf (W := 0) (rm_s149_1_1 l Z a0 hw [] a_ ch cd c0 kc cs h0 n0 (by omega) P0 P1 P2 (by omega) P4 P5 P6 P7 P8 P9 hcs hl0) hZ (w_14 hw) (w_6 hw) (by decide) (by decide)) (g := (mkF m 6 #[vA a_, vA ch] [.null, (.int 1), (.int 0), (.ref ch), (.ref a_)])) rfl (by rw [hml]; rfl) (Steps.refl _) (a := a_) (argsL := [(.ref ch), (.int 0), (.int 1), .null]) (rest := []) (lenOf pd_6 rfl) rfl (Nat.le_of_eq rfl) (hb hby d205) (fun _ _ => ⟨rfl, e0, (by decide : 0 + 1 ≤ _), (by decide : 0 + 1 ≤ _)⟩)
  dsimp only [Pt.U, Pt.locs, Pt.cells, Pt.slots] at X6 l6 y6 z6 st6 hQ6
  rw [l6, y6, z6] at X6
  obtain ⟨x6_b, x6_k, rfl, Nq6, Kq6, r6_0, r6_1, r6_2, r6_3, r6_4⟩ := hQ6
  have N6 := Fr.app N0 Nq6
  have z6' := Kq6.1
  have K6 := K0.trans Kq6 (allS (Or.inl (List.mem_of_getElem? (i := 0) rfl)) all0)
  have lt7 := own_l r6_0.lt
  have lt8 := own_l r6_1.lt
  have lt9 := own_l r6_2.lt
  have lt10 := own_l r6_3.lt
  refine ⟨_, _, _, _, none, X6, by decide, by decide, fun _ => rfl, ?_, fun fs hr => castTop (ef_9 m a_ ch) ?_⟩
  · show Q_str1 Z a_ ch cd c0 kc cs h0 n0 _ T6.heap _
    exact ⟨rfl, N6, K6, r6_0, r6_4, (Or.inl ⟨_, _, r6_1, r6_2, (by intro c hc; simp only [List.mem_cons, List.not_mem_nil, or_false] at hc; rcases hc with rfl <;> assumption), r6_3⟩)⟩
  · show Steps _ _ _ (s₁.setTop (mkF m 0 #[vA a_, vA ch] [])) _
    refine XS.aloadN X0.here hx rfl (hb hby d199) rfl rfl ?_
    refine XS.aloadN X0.here hx rfl (hb hby d200) rfl rfl ?_
    refine XS.iconst X0.here hx rfl (hb hby d201) ?_
    refine XS.aloadN X0.here hx rfl (hb hby d202) rfl rfl ?_
    refine X0.arraylength hx (by rw [e0]; exact Ar5.1) (State.isArrayOf_alike hZ.alike Ar5.2.1) (g := (mkF m 4 #[vA a_, vA ch] [(.ref ch), (.int 0), (.ref ch), (.ref a_)])) rfl rfl (hb hby d203) _ ?_
    rw [len_of S5 M5]
    show Steps _ _ _ (s₁.setTop (mkF m 5 #[vA a_, vA ch] [(.int 1), (.int 0), (.ref ch), (.ref a_)])) _
    refine XS.aconstNull X0.here hx rfl (hb hby d204) ?_
    refine st6.trans ?_
    show Steps _ _ _ (T6.setTop (mkF m 9 #[vA a_, vA ch] [])) _
    exact X6.returnOut hx hret (hb hby d206) hr
theorem rm_str1 (l : Launch) (Z : State) (a0 : Array Value) (hw : HW Z a0) (ws : List Jvm.Cond) (a_ : Addr) (ch : Addr) (cd : Int32) (c0 : Int32) (kc : ClassId) (cs : Int32) (h0 : Heap) (n0 : Nat) (Z0 : n0 ≤ h0.size) (P0 : Exa Z h0 a_ "java/lang/String") (P1 : fld0 Z h0 a_ .null) (P2 : fld1 Z h0 a_ (.int cd)) (P3 : n0 ≤ a_) (P4 : Arv Z h0 ch kc .char (1 : Int32) [(.int c0)] (.int 0)) (P5 : Old Z n0 h0) (P6 : sta0 Z (.int cs)) (P7 : sta1 Z (.int 1)) (P8 : sta2 Z (.int 0)) (P9 : sta3 Z (.int 8)) (hcs : ¬ (cs = (0 : Int32))) (r0 : ¬ c0 < 0 ∧ ¬ (65535 : Int32) < c0) :
    MF l Z m_15 jdk_42_method_3_code 2 none ws (oR 5 2 3 74) #[(.ref a_), (.ref ch)] h0 (Q_str1 Z a_ ch cd c0 kc cs h0 n0) := by
  by_cases k0 : (255 : Int32) < c0
  · exact rm_str1_0 l Z a0 hw ws a_ ch cd c0 kc cs h0 n0 Z0 P0 P1 P2 P3 P4 P5 P6 P7 P8 P9 hcs r0 k0
  exact rm_str1_1 l Z a0 hw ws a_ ch cd c0 kc cs h0 n0 Z0 P0 P1 P2 P3 P4 P5 P6 P7 P8 P9 hcs r0 k0
def Q_s149_2_0 (Z : State) (a_ : Addr) (ch : Addr) (cd : Int32) (c0 : Int32) (c1 : Int32) (kc : ClassId) (cs : Int32) (h0 : Heap) (n0 : Nat) (v : Option Value) (h : Heap) (L : List Loc) : Prop := ∃ (b : Addr) (k : ClassId), (v = none) ∧ (Fr n0 L) ∧ (Keep h0 h [a_]) ∧ (Exa Z h a_ "java/lang/String") ∧ (fld0 Z h a_ (.ref b)) ∧ (fld1 Z h a_ (.int 1)) ∧ (Arv Z h b k .byte (4 : Int32) [(.int (oL c0)), (.int (oH c0)), (.int (oL c1)), (.int (oH c1))] (.int 0)) ∧ (Old Z n0 h)
theorem rm_s149_2_0 (l : Launch) (Z : State) (a0 : Array Value) (hw : HW Z a0) (ws : List Jvm.Cond) (a_ : Addr) (ch : Addr) (cd : Int32) (c0 : Int32) (c1 : Int32) (kc : ClassId) (cs : Int32) (h0 : Heap) (n0 : Nat) (Z0 : n0 ≤ h0.size) (P0 : Exa Z h0 a_ "java/lang/String") (P1 : fld0 Z h0 a_ .null) (P2 : fld1 Z h0 a_ (.int cd)) (P3 : n0 ≤ a_) (P4 : Arv Z h0 ch kc .char (2 : Int32) [(.int c0), (.int c1)] (.int 0)) (P5 : Old Z n0 h0) (P6 : sta0 Z (.int cs)) (P7 : sta1 Z (.int 1)) (P8 : sta2 Z (.int 0)) (P9 : sta3 Z (.int 8)) (hcs : ¬ (cs = (0 : Int32))) (hgt : (255 : Int32) < c0) (r0 : ¬ c0 < 0 ∧ ¬ (65535 : Int32) < c0) :
    MF l Z m_14 jdk_42_method_149_code 6 none ws (oR 4 2 6 57) #[(.ref a_), (.ref ch), (.int 0), (.int 2), .null] h0 (Q_s149_2_0 Z a_ ch cd c0 c1 kc cs h0 n0) := by
  refine own_body (cls := "java/lang/String") (plainFor_of_name pn_5) rfl (fun p e s m below meth c s₁ hx hby hml hown hnm hret hZ X0 e0 => ?_)
  have N0 := Fr.nil n0
  have K0 := Keep.refl h0 [a_]
  have lt1 := own_l P0.lt
  have lt2 := own_l P1.lt
  have lt3 := own_l P2.lt
  have lt4 := own_l P4.lt
  obtain ⟨T5, X5, e5, st5⟩ := initO X0 hx hZ hown (w_15 hw) (w_16 hw) (w_17 hw) e0 (g := (mkF m 1 #[vA a_, vA ch, vI 0, vI 2, .val .null, .unset] [(.ref a_)])) rfl (by rw [hml]; rfl) rfl (hb hby d187) (by decide) (W := 0) (Nat.le_of_eq rfl) (by decide)
  obtain ⟨T6, X6, e6, st6⟩ := getS2 X5 hx hZ hown (host := "") (Or.inl (w_45 hw)) Via.refl e5 (P6.ext P5.2) (g := (mkF m 27 #[vA a_, vA ch, vI 0, vI 2, .val .null, .unset] [])) rfl (hb hby d207)
  obtain ⟨_, _, ⟨T7, L7, k7, n7⟩, -, X7, ⟨Lc7, hQ7, l7, y7, z7⟩, st7⟩ := Jvm.LawKit.callS X6 hx (y := m_11) hown (mvT hZ (w_70 hw)) (mvT hZ (w_71 hw)) (mvT hZ (w_72 hw)) (mvT hZ (w_73 hw)) (by decide) (backOf (W := 0) (rm_cm3_2_0 l Z a0 hw [] c0 c1 ch kc h0 n0 (by omega) P5 P4 P7 P8 P9 hgt r0) hZ (w_73 hw) (w_72 hw) (by decide) (by decide)) (g := (mkF m 36 #[vA a_, vA ch, vI 0, vI 2, .val .null, .unset] [(.int 2), (.int 0), (.ref ch)])) rfl (by rw [hml]; rfl) (argsL := [(.ref ch), (.int 0), (.int 2)]) (rest := []) (lenOf pd_4 rfl) rfl (Nat.le_of_eq rfl) (hb hby d212) (fun _ _ => ⟨rfl, e6, (by decide : 0 + 2 ≤ _), (by decide : 0 + 6 ≤ _)⟩)
  dsimp only [Pt.U, Pt.locs, Pt.cells, Pt.slots] at X7 l7 y7 z7 st7 hQ7
  rw [l7, y7, z7] at X7
  obtain ⟨x7_b, x7_k, rfl, Nq7, Kq7, r7_0, r7_1, r7_2⟩ := hQ7
  have N7 := Fr.app N0 Nq7
  have z7' := Kq7.1
  have K7 := K0.trans Kq7 all0
  have lt8 := own_l r7_1.lt
  obtain ⟨_, _, ⟨T9, L9, k9, n9⟩, -, X9, ⟨Lc9, hQ9, l9, y9, z9⟩, st9⟩ := Jvm.LawKit.callS X7 hx (y := m_12) hown (mvT hZ (w_77 hw)) (mvT hZ (w_78 hw)) (mvT hZ (w_72 hw)) (mvT hZ (w_79 hw)) (by decide) (backOf (W := 1) (rm_cfl2_1 l Z a0 hw [] x7_b x7_k ([(.int (oL c0)), (.int (oH c0)), (.int (oL c1)), (.int (oH c1))]) T7.heap n0 (by omega) r7_1) hZ (w_79 hw) (w_72 hw) (by decide) (by decide)) (g := (mkF m 45 #[vA a_, vA ch, vI 0, vI 2, .val .null, vA x7_b] [(.int 2), (.ref x7_b), (.ref a_)])) rfl (by rw [hml]; rfl) (argsL := [(.ref x7_b), (.int 2)]) (rest := [(.ref a_)]) (lenOf pd_7 rfl) rfl (Nat.le_of_eq rfl) (hb hby d217) (fun _ _ => ⟨rfl, rfl, (by decide : 2 + 0 ≤ _), (by decide : 6 + 0 ≤ _)⟩)
  dsimp only [Pt.U, Pt.locs, Pt.cells, Pt.slots] at X9 l9 y9 z9 st9 hQ9
  rw [l9, y9, z9] at X9
  obtain ⟨rfl, Nq9, Kq9⟩ := hQ9
  have N9 := Fr.app N7 Nq9
  have f11 := P2.keep Kq7 nin0
  have f12 := P0.keep Kq7
  obtain ⟨T10, h10, X10, e10, W10, st10⟩ := putFN X9 hx hZ hown (w_25 hw) Via.refl Kq9 f11 f12 (Or.inr ⟨(w_21 hw), rfl, hnm⟩) (w_5 hw) (ty := .byte) (v' := (.int 1)) (by decide) rfl rfl (g := (mkF m 48 #[vA a_, vA ch, vI 0, vI 2, .val .null, vA x7_b] [(.int 1), (.ref a_)])) rfl rfl (hb hby d218)
  have F10 := f11.same W10
  have z10 := W10.size
  have K10 := K7.wr W10 (Or.inl (List.mem_of_getElem? (i := 0) rfl))
  have N10 := Fr.snoc X10 N9 (by omega)
  have f14 := P1.keep Kq7 nin0
  have f15 := f14.other W10 (Or.inr (slot_ne (a0 := a0) (t := (.array .byte)) (t' := .byte) (Or.inr (w_20 hw)) (Or.inr (w_21 hw)) (by decide) (by decide) (by decide)))
  have f16 := f12.wr W10
  obtain ⟨T13, h13, X13, e13, W13, st13⟩ := putF X10 hx hZ hown (host := "") (Or.inl (w_24 hw)) Via.refl e10 f15 f16 (Or.inr ⟨(w_20 hw), rfl, hnm⟩) (w_5 hw) (ty := (.array .byte)) (by decide) rfl rfl (g := (mkF m 54 #[vA a_, vA ch, vI 0, vI 2, .val .null, vA x7_b] [(.ref x7_b), (.ref a_)])) rfl rfl (hb hby d221)
  have F13 := f15.same W13
  have z13 := W13.size
  have K13 := K10.wr W13 (Or.inl (List.mem_of_getElem? (i := 0) rfl))
  have N13 := Fr.snoc X13 N10 (by omega)
  have f17 := f16.wr W13
  have f18 := F10.other W13 (Or.inr (slot_ne (a0 := a0) (t := .byte) (t' := (.array .byte)) (Or.inr (w_21 hw)) (Or.inr (w_20 hw)) (by decide) (by decide) (by decide)))
  have f19 := r7_1.other W10 (own_ne (by omega))
  have f20 := f19.other W13 (own_ne (by omega))
  have f21 := r7_2.wr W10 (by omega)
  have f22 := f21.wr W13 (by omega)
  refine ⟨_, _, _, _, none, X13, by decide, by decide, fun _ => rfl, ?_, fun fs hr => castTop (ef_8 m a_ ch (0 : Int32) (2 : Int32)) ?_⟩
  · show Q_s149_2_0 Z a_ ch cd c0 c1 kc cs h0 n0 _ T13.heap _
    rw [(e13 : T13.heap = h13)]
    exact ⟨x7_b, x7_k, rfl, N13, K13, f17, F13, f18, f20, f22⟩
  · show Steps _ _ _ (s₁.setTop (mkF m 0 #[vA a_, vA ch, vI 0, vI 2, .val .null, .unset] [])) _
    refine XS.aloadN X0.here hx rfl (hb hby d186) rfl rfl ?_
    refine st5 _ ?_
    show Steps _ _ _ (T5.setTop (mkF m 4 #[vA a_, vA ch, vI 0, vI 2, .val .null, .unset] [])) _
    refine XS.iloadN X5.here hx rfl (hb hby d188) rfl ?_
    refine XS.ifYes X5.here hx rfl (pc0 := 5) (pc' := 27) rfl (hb hby d189) rfl ((if0 _ _).trans (feq ((by decide) : ¬ ((2 : Int32) = (0 : Int32)))).2) (by decide) (by decide) ?_
    refine st6 _ ?_
    show Steps _ _ _ (T6.setTop (mkF m 30 #[vA a_, vA ch, vI 0, vI 2, .val .null, .unset] [(.int cs)])) _
    refine XS.ifNo X6.here hx rfl (hb hby d208) rfl ((if0 _ _).trans (feq (hcs : ¬ (cs = (0 : Int32)))).1) ?_
    refine XS.aloadN X6.here hx rfl (hb hby d209) rfl rfl ?_
    refine XS.iloadN X6.here hx rfl (hb hby d210) rfl ?_
    refine XS.iloadN X6.here hx rfl (hb hby d211) rfl ?_
    refine st7 _ ?_
    show Steps _ _ _ (T7.setTop (mkF m 39 #[vA a_, vA ch, vI 0, vI 2, .val .null, .unset] [(.ref x7_b)])) _
    refine XS.astore X7.here hx rfl (hb hby d213) rfl rfl (l' := #[vA a_, vA ch, vI 0, vI 2, .val .null, vA x7_b]) rfl ?_
    refine XS.aloadN X7.here hx rfl (hb hby d214) rfl rfl ?_
    refine XS.aload X7.here hx rfl (hb hby d215) rfl rfl ?_
    refine XS.iloadN X7.here hx rfl (hb hby d216) rfl ?_
    refine st9 _ ?_
    show Steps _ _ _ (T9.setTop (mkF m 48 #[vA a_, vA ch, vI 0, vI 2, .val .null, vA x7_b] [(.int 1), (.ref a_)])) _
    refine st10 _ ?_
    show Steps _ _ _ (T10.setTop (mkF m 51 #[vA a_, vA ch, vI 0, vI 2, .val .null, vA x7_b] [])) _
    refine XS.aloadN X10.here hx rfl (hb hby d219) rfl rfl ?_
    refine XS.aload X10.here hx rfl (hb hby d220) rfl rfl ?_
    refine st13 _ ?_
    show Steps _ _ _ (T13.setTop (mkF m 57 #[vA a_, vA ch, vI 0, vI 2, .val .null, vA x7_b] [])) _
    exact X13.returnOut hx hret (hb hby d222) hr
def Q_s149_2_1 (Z : State) (a_ : Addr) (ch : Addr) (cd : Int32) (c0 : Int32) (c1 : Int32) (kc : ClassId) (cs : Int32) (h0 : Heap) (n0 : Nat) (v : Option Value) (h : Heap) (L : List Loc) : Prop := ∃ (b : Addr) (k : ClassId), (v = none) ∧ (Fr n0 L) ∧ (Keep h0 h [a_]) ∧ (Exa Z h a_ "java/lang/String") ∧ (fld0 Z h a_ (.ref b)) ∧ (fld1 Z h a_ (.int 1)) ∧ (Arv Z h b k .byte (4 : Int32) [(.int (oL c0)), (.int (oH c0)), (.int (oL c1)), (.int (oH c1))] (.int 0)) ∧ (Old Z n0 h)
theorem rm_s149_2_1 (l : Launch) (Z : State) (a0 : Array Value) (hw : HW Z a0) (ws : List Jvm.Cond) (a_ : Addr) (ch : Addr) (cd : Int32) (c0 : Int32) (c1 : Int32) (kc : ClassId) (cs : Int32) (h0 : Heap) (n0 : Nat) (Z0 : n0 ≤ h0.size) (P0 : Exa Z h0 a_ "java/lang/String") (P1 : fld0 Z h0 a_ .null) (P2 : fld1 Z h0 a_ (.int cd)) (P3 : n0 ≤ a_) (P4 : Arv Z h0 ch kc .char (2 : Int32) [(.int c0), (.int c1)] (.int 0)) (P5 : Old Z n0 h0) (P6 : sta0 Z (.int cs)) (P7 : sta1 Z (.int 1)) (P8 : sta2 Z (.int 0)) (P9 : sta3 Z (.int 8)) (hcs : ¬ (cs = (0 : Int32))) (hl0 : ¬ ((255 : Int32) < c0)) (hgt : (255 : Int32) < c1) (r1 : ¬ c1 < 0 ∧ ¬ (65535 : Int32) < c1) :
    MF l Z m_14 jdk_42_method_149_code 6 none ws (oR 4 2 6 57) #[(.ref a_), (.ref ch), (.int 0), (.int 2), .null] h0 (Q_s149_2_1 Z a_ ch cd c0 c1 kc cs h0 n0) := by
  refine own_body (cls := "java/lang/String") (plainFor_of_name pn_5) rfl (fun p e s m below meth c s₁ hx hby hml hown hnm hret hZ X0 e0 => ?_)
  have N0 := Fr.nil n0
  have K0 := Keep.refl h0 [a_]
  have lt1 := own_l P0.lt
  have lt2 := own_l P1.lt
  have lt3 := own_l P2.lt
  have lt4 := own_l P4.lt
  obtain ⟨T5, X5, e5, st5⟩ := initO X0 hx hZ hown (w_15 hw) (w_16 hw) (w_17 hw) e0 (g := (mkF m 1 #[vA a_, vA ch, vI 0, vI 2, .val .null, .unset] [(.ref a_)])) rfl (by rw [hml]; rfl) rfl (hb hby d187) (by decide) (W := 0) (Nat.le_of_eq rfl) (by decide)
  obtain ⟨T6, X6, e6, st6⟩ := getS2 X5 hx hZ hown (host := "") (Or.inl (w_45 hw)) Via.refl e5 (P6.ext P5.2) (g := (mkF m 27 #[vA a_, vA ch, vI 0, vI 2, .val .null, .unset] [])) rfl (hb hby d207)
  obtain ⟨_, _, ⟨T7, L7, k7, n7⟩, -, X7, ⟨Lc7, hQ7, l7, y7, z7⟩, st7⟩ := Jvm.LawKit.callS X6 hx (y := m_11) hown (mvT hZ (w_70 hw)) (mvT hZ (w_71 hw)) (mvT hZ (w_72 hw)) (mvT hZ (w_73 hw)) (by decide) (backOf (W := 0) (rm_cm3_2_1 l Z a0 hw [] c0 c1 ch kc h0 n0 (by omega) P5 P4 P7 P8 P9 hl0 hgt r1) hZ (w_73 hw) (w_72 hw) (by decide) (by decide)) (g := (mkF m 36 #[vA a_, vA ch, vI 0, vI 2, .val .null, .unset] [(.int 2), (.int 0), (.ref ch)])) rfl (by rw [hml]; rfl) (argsL := [(.ref ch), (.int 0), (.int 2)]) (rest := []) (lenOf pd_4 rfl) rfl (Nat.le_of_eq rfl) (hb hby d212) (fun _ _ => ⟨rfl, e6, (by decide : 0 + 2 ≤ _), (by decide : 0 + 6 ≤ _)⟩)
  dsimp only [Pt.U, Pt.locs, Pt.cells, Pt.slots] at X7 l7 y7 z7 st7 hQ7
  rw [l7, y7, z7] at X7
  obtain ⟨x7_b, x7_k, rfl, Nq7, Kq7, r7_0, r7_1, r7_2⟩ := hQ7
  have N7 := Fr.app N0 Nq7
  have z7' := Kq7.1
  have K7 := K0.trans Kq7 all0
  have lt8 := own_l r7_1.lt
  obtain ⟨_, _, ⟨T9, L9, k9, n9⟩, -, X9, ⟨Lc9, hQ9, l9, y9, z9⟩, st9⟩ := Jvm.LawKit.callS X7 hx (y := m_12) hown (mvT hZ (w_77 hw)) (mvT hZ (w_78 hw)) (mvT hZ (w_72 hw)) (mvT hZ (w_79 hw)) (by decide) (backOf (W := 1) (rm_cfl2_1 l Z a0 hw [] x7_b x7_k ([(.int (oL c0)), (.int (oH c0)), (.int (oL c1)), (.int (oH c1))]) T7.heap n0 (by omega) r7_1) hZ (w_79 hw) (w_72 hw) (by decide) (by decide)) (g := (mkF m 45 #[vA a_, vA ch, vI 0, vI 2, .val .null, vA x7_b] [(.int 2), (.ref x7_b), (.ref a_)])) rfl (by rw [hml]; rfl) (argsL := [(.ref x7_b), (.int 2)]) (rest := [(.ref a_)]) (lenOf pd_7 rfl) rfl (Nat.le_of_eq rfl) (hb hby d217) (fun _ _ => ⟨rfl, rfl, (by decide : 2 + 0 ≤ _), (by decide : 6 + 0 ≤ _)⟩)
  dsimp only [Pt.U, Pt.locs, Pt.cells, Pt.slots] at X9 l9 y9 z9 st9 hQ9
  rw [l9, y9, z9] at X9
  obtain ⟨rfl, Nq9, Kq9⟩ := hQ9
  have N9 := Fr.app N7 Nq9
  have f11 := P2.keep Kq7 nin0
  have f12 := P0.keep Kq7
  obtain ⟨T10, h10, X10, e10, W10, st10⟩ := putFN X9 hx hZ hown (w_25 hw) Via.refl Kq9 f11 f12 (Or.inr ⟨(w_21 hw), rfl, hnm⟩) (w_5 hw) (ty := .byte) (v' := (.int 1)) (by decide) rfl rfl (g := (mkF m 48 #[vA a_, vA ch, vI 0, vI 2, .val .null, vA x7_b] [(.int 1), (.ref a_)])) rfl rfl (hb hby d218)
  have F10 := f11.same W10
  have z10 := W10.size
  have K10 := K7.wr W10 (Or.inl (List.mem_of_getElem? (i := 0) rfl))
  have N10 := Fr.snoc X10 N9 (by omega)
  have f14 := P1.keep Kq7 nin0
  have f15 := f14.other W10 (Or.inr (slot_ne (a0 := a0) (t := (.array .byte)) (t' := .byte) (Or.inr (w_20 hw)) (Or.inr (w_21 hw)) (by decide) (by decide) (by decide)))
  have f16 := f12.wr W10
  obtain ⟨T13, h13, X13, e13, W13, st13⟩ := putF X10 hx hZ hown (host := "") (Or.inl (w_24 hw)) Via.refl e10 f15 f16 (Or.inr ⟨(w_20 hw), rfl, hnm⟩) (w_5 hw) (ty := (.array .byte)) (by decide) rfl rfl (g := (mkF m 54 #[vA a_, vA ch, vI 0, vI 2, .val .null, vA x7_b] [(.ref x7_b), (.ref a_)])) rfl rfl (hb hby d221)
  have F13 := f15.same W13
  have z13 := W13.size
  have K13 := K10.wr W13 (Or.inl (List.mem_of_getElem? (i := 0) rfl))
  have N13 := Fr.snoc X13 N10 (by omega)
  have f17 := f16.wr W13
  have f18 := F10.other W13 (Or.inr (slot_ne (a0 := a0) (t := .byte) (t' := (.array .byte)) (Or.inr (w_21 hw)) (Or.inr (w_20 hw)) (by decide) (by decide) (by decide)))
  have f19 := r7_1.other W10 (own_ne (by omega))
  have f20 := f19.other W13 (own_ne (by omega))
  have f21 := r7_2.wr W10 (by omega)
  have f22 := f21.wr W13 (by omega)
  refine ⟨_, _, _, _, none, X13, by decide, by decide, fun _ => rfl, ?_, fun fs hr => castTop (ef_8 m a_ ch (0 : Int32) (2 : Int32)) ?_⟩
  · show Q_s149_2_1 Z a_ ch cd c0 c1 kc cs h0 n0 _ T13.heap _
    rw [(e13 : T13.heap = h13)]
    exact ⟨x7_b, x7_k, rfl, N13, K13, f17, F13, f18, f20, f22⟩
  · show Steps _ _ _ (s₁.setTop (mkF m 0 #[vA a_, vA ch, vI 0, vI 2, .val .null, .unset] [])) _
    refine XS.aloadN X0.here hx rfl (hb hby d186) rfl rfl ?_
    refine st5 _ ?_
    show Steps _ _ _ (T5.setTop (mkF m 4 #[vA a_, vA ch, vI 0, vI 2, .val .null, .unset] [])) _
    refine XS.iloadN X5.here hx rfl (hb hby d188) rfl ?_
    refine XS.ifYes X5.here hx rfl (pc0 := 5) (pc' := 27) rfl (hb hby d189) rfl ((if0 _ _).trans (feq ((by decide) : ¬ ((2 : Int32) = (0 : Int32)))).2) (by decide) (by decide) ?_
    refine st6 _ ?_
    show Steps _ _ _ (T6.setTop (mkF m 30 #[vA a_, vA ch, vI 0, vI 2, .val .null, .unset] [(.int cs)])) _
    refine XS.ifNo X6.here hx rfl (hb hby d208) rfl ((if0 _ _).trans (feq (hcs : ¬ (cs = (0 : Int32)))).1) ?_
    refine XS.aloadN X6.here hx rfl (hb hby d209) rfl rfl ?_
    refine XS.iloadN X6.here hx rfl (hb hby d210) rfl ?_
    refine XS.iloadN X6.here hx rfl (hb hby d211) rfl ?_
    refine st7 _ ?_
    show Steps _ _ _ (T7.setTop (mkF m 39 #[vA a_, vA ch, vI 0, vI 2, .val .null, .unset] [(.ref x7_b)])) _
    refine XS.astore X7.here hx rfl (hb hby d213) rfl rfl (l' := #[vA a_, vA ch, vI 0, vI 2, .val .null, vA x7_b]) rfl ?_
    refine XS.aloadN X7.here hx rfl (hb hby d214) rfl rfl ?_
    refine XS.aload X7.here hx rfl (hb hby d215) rfl rfl ?_
    refine XS.iloadN X7.here hx rfl (hb hby d216) rfl ?_
    refine st9 _ ?_
    show Steps _ _ _ (T9.setTop (mkF m 48 #[vA a_, vA ch, vI 0, vI 2, .val .null, vA x7_b] [(.int 1), (.ref a_)])) _
    refine st10 _ ?_
    show Steps _ _ _ (T10.setTop (mkF m 51 #[vA a_, vA ch, vI 0, vI 2, .val .null, vA x7_b] [])) _
    refine XS.aloadN X10.here hx rfl (hb hby d219) rfl rfl ?_
    refine XS.aload X10.here hx rfl (hb hby d220) rfl rfl ?_
    refine st13 _ ?_
    show Steps _ _ _ (T13.setTop (mkF m 57 #[vA a_, vA ch, vI 0, vI 2, .val .null, vA x7_b] [])) _
    exact X13.returnOut hx hret (hb hby d222) hr
def Q_s149_2_2 (Z : State) (a_ : Addr) (ch : Addr) (cd : Int32) (c0 : Int32) (c1 : Int32) (kc : ClassId) (cs : Int32) (h0 : Heap) (n0 : Nat) (v : Option Value) (h : Heap) (L : List Loc) : Prop := ∃ (b : Addr) (k : ClassId), (v = none) ∧ (Fr n0 L) ∧ (Keep h0 h [a_]) ∧ (Exa Z h a_ "java/lang/String") ∧ (fld0 Z h a_ (.ref b)) ∧ (fld1 Z h a_ (.int 0)) ∧ (Arv Z h b k .byte (2 : Int32) [(.int (oB c0)), (.int (oB c1))] (.int 0)) ∧ (Old Z n0 h)
theorem rm_s149_2_2 (l : Launch) (Z : State) (a0 : Array Value) (hw : HW Z a0) (ws : List Jvm.Cond) (a_ : Addr) (ch : Addr) (cd : Int32) (c0 : Int32) (c1 : Int32) (kc : ClassId) (cs : Int32) (h0 : Heap) (n0 : Nat) (Z0 : n0 ≤ h0.size) (P0 : Exa Z h0 a_ "java/lang/String") (P1 : fld0 Z h0 a_ .null) (P2 : fld1 Z h0 a_ (.int cd)) (P3 : n0 ≤ a_) (P4 : Arv Z h0 ch kc .char (2 : Int32) [(.int c0), (.int c1)] (.int 0)) (P5 : Old Z n0 h0) (P6 : sta0 Z (.int cs)) (P7 : sta1 Z (.int 1)) (P8 : sta2 Z (.int 0)) (P9 : sta3 Z (.int 8)) (hcs : ¬ (cs = (0 : Int32))) (hl0 : ¬ ((255 : Int32) < c0)) (hl1 : ¬ ((255 : Int32) < c1)) :
    MF l Z m_14 jdk_42_method_149_code 6 none ws (oR 2 1 2 35) #[(.ref a_), (.ref ch), (.int 0), (.int 2), .null] h0 (Q_s149_2_2 Z a_ ch cd c0 c1 kc cs h0 n0) := by
  refine own_body (cls := "java/lang/String") (plainFor_of_name pn_5) rfl (fun p e s m below meth c s₁ hx hby hml hown hnm hret hZ X0 e0 => ?_)
  have N0 := Fr.nil n0
  have K0 := Keep.refl h0 [a_]
  have lt1 := own_l P0.lt
  have lt2 := own_l P1.lt
  have lt3 := own_l P2.lt
  have lt4 := own_l P4.lt
  obtain ⟨T5, X5, e5, st5⟩ := initO X0 hx hZ hown (w_15 hw) (w_16 hw) (w_17 hw) e0 (g := (mkF m 1 #[vA a_, vA ch, vI 0, vI 2, .val .null, .unset] [(.ref a_)])) rfl (by rw [hml]; rfl) rfl (hb hby d187) (by decide) (W := 0) (Nat.le_of_eq rfl) (by decide)
  obtain ⟨T6, X6, e6, st6⟩ := getS2 X5 hx hZ hown (host := "") (Or.inl (w_45 hw)) Via.refl e5 (P6.ext P5.2) (g := (mkF m 27 #[vA a_, vA ch, vI 0, vI 2, .val .null, .unset] [])) rfl (hb hby d207)
  obtain ⟨_, _, ⟨T7, L7, k7, n7⟩, -, X7, ⟨Lc7, hQ7, l7, y7, z7⟩, st7⟩ := Jvm.LawKit.callS X6 hx (y := m_11) hown (mvT hZ (w_70 hw)) (mvT hZ (w_71 hw)) (mvT hZ (w_72 hw)) (mvT hZ (w_73 hw)) (by decide) (backOf (W := 0) (rm_cm3_2_2 l Z a0 hw [] c0 c1 ch kc h0 n0 (by omega) P5 P4 P7 P8 P9 hl0 hl1) hZ (w_73 hw) (w_72 hw) (by decide) (by decide)) (g := (mkF m 36 #[vA a_, vA ch, vI 0, vI 2, .val .null, .unset] [(.int 2), (.int 0), (.ref ch)])) rfl (by rw [hml]; rfl) (argsL := [(.ref ch), (.int 0), (.int 2)]) (rest := []) (lenOf pd_4 rfl) rfl (Nat.le_of_eq rfl) (hb hby d212) (fun _ _ => ⟨rfl, e6, (by decide : 0 + 1 ≤ _), (by decide : 0 + 2 ≤ _)⟩)
  dsimp only [Pt.U, Pt.locs, Pt.cells, Pt.slots] at X7 l7 y7 z7 st7 hQ7
  rw [l7, y7, z7] at X7
  obtain ⟨x7_b, x7_k, rfl, Nq7, Kq7, r7_0, r7_1, r7_2⟩ := hQ7
  have N7 := Fr.app N0 Nq7
  have z7' := Kq7.1
  have K7 := K0.trans Kq7 all0
  have lt8 := own_l r7_1.lt
  obtain ⟨_, _, ⟨T9, L9, k9, n9⟩, -, X9, ⟨Lc9, hQ9, l9, y9, z9⟩, st9⟩ := Jvm.LawKit.callS X7 hx (y := m_12) hown (mvT hZ (w_77 hw)) (mvT hZ (w_78 hw)) (mvT hZ (w_72 hw)) (mvT hZ (w_79 hw)) (by decide) (backOf (W := 1) (rm_cfl2_0 l Z a0 hw [] x7_b x7_k ([(.int (oB c0)), (.int (oB c1))]) T7.heap n0 (by omega) r7_1) hZ (w_79 hw) (w_72 hw) (by decide) (by decide)) (g := (mkF m 45 #[vA a_, vA ch, vI 0, vI 2, .val .null, vA x7_b] [(.int 2), (.ref x7_b), (.ref a_)])) rfl (by rw [hml]; rfl) (argsL := [(.ref x7_b), (.int 2)]) (rest := [(.ref a_)]) (lenOf pd_7 rfl) rfl (Nat.le_of_eq rfl) (hb hby d217) (fun _ _ => ⟨rfl, rfl, (by decide : 1 + 0 ≤ _), (by decide : 2 + 0 ≤ _)⟩)
  dsimp only [Pt.U, Pt.locs, Pt.cells, Pt.slots] at X9 l9 y9 z9 st9 hQ9
  rw [l9, y9, z9] at X9
  obtain ⟨rfl, Nq9, Kq9⟩ := hQ9
  have N9 := Fr.app N7 Nq9
  have f11 := P2.keep Kq7 nin0
  have f12 := P0.keep Kq7
  obtain ⟨T10, h10, X10, e10, W10, st10⟩ := putFN X9 hx hZ hown (w_25 hw) Via.refl Kq9 f11 f12 (Or.inr ⟨(w_21 hw), rfl, hnm⟩) (w_5 hw) (ty := .byte) (v' := (.int 0)) (by decide) rfl rfl (g := (mkF m 48 #[vA a_, vA ch, vI 0, vI 2, .val .null, vA x7_b] [(.int 0), (.ref a_)])) rfl rfl (hb hby d218)
  have F10 := f11.same W10
  have z10 := W10.size
  have K10 := K7.wr W10 (Or.inl (List.mem_of_getElem? (i := 0) rfl))
  have N10 := Fr.snoc X10 N9 (by omega)
  have f14 := P1.keep Kq7 nin0
  have f15 := f14.other W10 (Or.inr (slot_ne (a0 := a0) (t := (.array .byte)) (t' := .byte) (Or.inr (w_20 hw)) (Or.inr (w_21 hw)) (by decide) (by decide) (by decide)))
  have f16 := f12.wr W10
  obtain ⟨T13, h13, X13, e13, W13, st13⟩ := putF X10 hx hZ hown (host := "") (Or.inl (w_24 hw)) Via.refl e10 f15 f16 (Or.inr ⟨(w_20 hw), rfl, hnm⟩) (w_5 hw) (ty := (.array .byte)) (by decide) rfl rfl (g := (mkF m 54 #[vA a_, vA ch, vI 0, vI 2, .val .null, vA x7_b] [(.ref x7_b), (.ref a_)])) rfl rfl (hb hby d221)
  have F13 := f15.same W13
  have z13 := W13.size
  have K13 := K10.wr W13 (Or.inl (List.mem_of_getElem? (i := 0) rfl))
  have N13 := Fr.snoc X13 N10 (by omega)
  have f17 := f16.wr W13
  have f18 := F10.other W13 (Or.inr (slot_ne (a0 := a0) (t := .byte) (t' := (.array .byte)) (Or.inr (w_21 hw)) (Or.inr (w_20 hw)) (by decide) (by decide) (by decide)))
  have f19 := r7_1.other W10 (own_ne (by omega))
  have f20 := f19.other W13 (own_ne (by omega))
  have f21 := r7_2.wr W10 (by omega)
  have f22 := f21.wr W13 (by omega)
  refine ⟨_, _, _, _, none, X13, by decide, by decide, fun _ => rfl, ?_, fun fs hr => castTop (ef_8 m a_ ch (0 : Int32) (2 : Int32)) ?_⟩
  · show Q_s149_2_2 Z a_ ch cd c0 c1 kc cs h0 n0 _ T13.heap _
    rw [(e13 : T13.heap = h13)]
    exact ⟨x7_b, x7_k, rfl, N13, K13, f17, F13, f18, f20, f22⟩
  · show Steps _ _ _ (s₁.setTop (mkF m 0 #[vA a_, vA ch, vI 0, vI 2, .val .null, .unset] [])) _
    refine XS.aloadN X0.here hx rfl (hb hby d186) rfl rfl ?_
    refine st5 _ ?_
    show Steps _ _ _ (T5.setTop (mkF m 4 #[vA a_, vA ch, vI 0, vI 2, .val .null, .unset] [])) _
    refine XS.iloadN X5.here hx rfl (hb hby d188) rfl ?_
    refine XS.ifYes X5.here hx rfl (pc0 := 5) (pc' := 27) rfl (hb hby d189) rfl ((if0 _ _).trans (feq ((by decide) : ¬ ((2 : Int32) = (0 : Int32)))).2) (by decide) (by decide) ?_
    refine st6 _ ?_
    show Steps _ _ _ (T6.setTop (mkF m 30 #[vA a_, vA ch, vI 0, vI 2, .val .null, .unset] [(.int cs)])) _
    refine XS.ifNo X6.here hx rfl (hb hby d208) rfl ((if0 _ _).trans (feq (hcs : ¬ (cs = (0 : Int32)))).1) ?_
    refine XS.aloadN X6.here hx rfl (hb hby d209) rfl rfl ?_
    refine XS.iloadN X6.here hx rfl (hb hby d210) rfl ?_
    refine XS.iloadN X6.here hx rfl (hb hby d211) rfl ?_
    refine st7 _ ?_
    show Steps _ _ _ (T7.setTop (mkF m 39 #[vA a_, vA ch, vI 0, vI 2, .val .null, .unset] [(.ref x7_b)])) _
    refine XS.astore X7.here hx rfl (hb hby d213) rfl rfl (l' := #[vA a_, vA ch, vI 0, vI 2, .val .null, vA x7_b]) rfl ?_
    refine XS.aloadN X7.here hx rfl (hb hby d214) rfl rfl ?_
    refine XS.aload X7.here hx rfl (hb hby d215) rfl rfl ?_
    refine XS.iloadN X7.here hx rfl (hb hby d216) rfl ?_
    refine st9 _ ?_
    show Steps _ _ _ (T9.setTop (mkF m 48 #[vA a_, vA ch, vI 0, vI 2, .val .null, vA x7_b] [(.int 0), (.ref a_)])) _
    refine st10 _ ?_
    show Steps _ _ _ (T10.setTop (mkF m 51 #[vA a_, vA ch, vI 0, vI 2, .val .null, vA x7_b] [])) _
    refine XS.aloadN X10.here hx rfl (hb hby d219) rfl rfl ?_
    refine XS.aload X10.here hx rfl (hb hby d220) rfl rfl ?_
    refine st13 _ ?_
    show Steps _ _ _ (T13.setTop (mkF m 57 #[vA a_, vA ch, vI 0, vI 2, .val .null, vA x7_b] [])) _
    exact X13.returnOut hx hret (hb hby d222) hr
def Q_str2 (Z : State) (a_ : Addr) (ch : Addr) (cd : Int32) (c0 : Int32) (c1 : Int32) (kc : ClassId) (cs : Int32) (h0 : Heap) (n0 : Nat) (v : Option Value) (h : Heap) (L : List Loc) : Prop := (v = none) ∧ (Fr n0 L) ∧ (Keep h0 h [a_]) ∧ (Exa Z h a_ "java/lang/String") ∧ (Old Z n0 h) ∧ ((SL Z h a_ [c0, c1] ∨ SU Z h a_ [c0, c1]))
theorem rm_str2_0 (l : Launch) (Z : State) (a0 : Array Value) (hw : HW Z a0) (ws : List Jvm.Cond) (a_ : Addr) (ch : Addr) (cd : Int32) (c0 : Int32) (c1 : Int32) (kc : ClassId) (cs : Int32) (h0 : Heap) (n0 : Nat) (Z0 : n0 ≤ h0.size) (P0 : Exa Z h0 a_ "java/lang/String") (P1 : fld0 Z h0 a_ .null) (P2 : fld1 Z h0 a_ (.int cd)) (P3 : n0 ≤ a_) (P4 : Arv Z h0 ch kc .char (2 : Int32) [(.int c0), (.int c1)] (.int 0)) (P5 : Old Z n0 h0) (P6 : sta0 Z (.int cs)) (P7 : sta1 Z (.int 1)) (P8 : sta2 Z (.int 0)) (P9 : sta3 Z (.int 8)) (hcs : ¬ (cs = (0 : Int32))) (r0 : ¬ c0 < 0 ∧ ¬ (65535 : Int32) < c0) (r1 : ¬ c1 < 0 ∧ ¬ (65535 : Int32) < c1) (hgt : (255 : Int32) < c0) :
    MF l Z m_15 jdk_42_method_3_code 2 none ws (oR 5 2 6 74) #[(.ref a_), (.ref ch)] h0 (Q_str2 Z a_ ch cd c0 c1 kc cs h0 n0) := by
  refine own_body (cls := "java/lang/String") (plainFor_of_name pn_5) rfl (fun p e s m below meth c s₁ hx hby hml hown hnm hret hZ X0 e0 => ?_)
  have N0 := Fr.nil n0
  have K0 := Keep.refl h0 [a_]
  have lt1 := own_l P0.lt
  have lt2 := own_l P1.lt
  have lt3 := own_l P2.lt
  have lt4 := own_l P4.lt
  obtain ⟨cl5, Ar5, q5, S5, M5, H5, G5⟩ := id P4
  obtain ⟨_, _, ⟨T6, L6, k6, n6⟩, -, X6, ⟨Lc6, hQ6, l6, y6, z6⟩, st6⟩ := X0.specialBack hx (y := m_14) rfl hown (mvT hZ (w_11 hw)) (mvT hZ (w_12 hw)) (mvT hZ (w_14 hw)) (by decide) (backOf (W := 0) (rm_s149_2_0 l Z a0 hw [] a_ ch cd c0 c1 kc cs h0 n0 (by omega) P0 P1 P2 (by omega) P4 P5 P6 P7 P8 P9 hcs hgt r0) hZ (w_14 hw) (w_6 hw) (by decide) (by decide)) (g := (mkF m 6 #[vA a_, vA ch] [.null, (.int 2), (.int 0), (.ref ch), (.ref a_)])) rfl (by rw [hml]; rfl) (Steps.refl _) (a := a_) (argsL := [(.ref ch), (.int 0), (.int 2), .null]) (rest := []) (lenOf pd_6 rfl) rfl (Nat.le_of_eq rfl) (hb hby d205) (fun _ _ => ⟨rfl, e0, (by decide : 0 + 2 ≤ _), (by decide : 0 + 6 ≤ _)⟩)
  dsimp only [Pt.U, Pt.locs, Pt.cells, Pt.slots] at X6 l6 y6 z6 st6 hQ6
  rw [l6, y6, z6] at X6
  obtain ⟨x6_b, x6_k, rfl, Nq6, Kq6, r6_0, r6_1, r6_2, r6_3, r6_4⟩ := hQ6
  have N6 := Fr.app N0 Nq6
  have z6' := Kq6.1
  have K6 := K0.trans Kq6 (allS (Or.inl (List.mem_of_getElem? (i := 0) rfl)) all0)
  have lt7 := own_l r6_0.lt
  have lt8 := own_l r6_1.lt
  have lt9 := own_l r6_2.lt
  have lt10 := own_l r6_3.lt
  refine ⟨_, _, _, _, none, X6, by decide, by decide, fun _ => rfl, ?_, fun fs hr => castTop (ef_9 m a_ ch) ?_⟩
  · show Q_str2 Z a_ ch cd c0 c1 kc cs h0 n0 _ T6.heap _
    exact ⟨rfl, N6, K6, r6_0, r6_4, (Or.inr ⟨_, _, r6_1, r6_2, r6_3⟩)⟩
  · show Steps _ _ _ (s₁.setTop (mkF m 0 #[vA a_, vA ch] [])) _
    refine XS.aloadN X0.here hx rfl (hb hby d199) rfl rfl ?_
    refine XS.aloadN X0.here hx rfl (hb hby d200) rfl rfl ?_
    refine XS.iconst X0.here hx rfl (hb hby d201) ?_
    refine XS.aloadN X0.here hx rfl (hb hby d202) rfl rfl ?_
    refine X0.arraylength hx (by rw [e0]; exact Ar5.1) (State.isArrayOf_alike hZ.alike Ar5.2.1) (g := (mkF m 4 #[vA a_, vA ch] [(.ref ch), (.int 0), (.ref ch), (.ref a_)])) rfl rfl (hb hby d203) _ ?_
    rw [len_of S5 M5]
    show Steps _ _ _ (s₁.setTop (mkF m 5 #[vA a_, vA ch] [(.int 2), (.int 0), (.ref ch), (.ref a_)])) _
    refine XS.aconstNull X0.here hx rfl (hb hby d204) ?_
    refine st6.trans ?_
    show Steps _ _ _ (T6.setTop (mkF m 9 #[vA a_, vA ch] [])) _
    exact X6.returnOut hx hret (hb hby d206) hr
theorem rm_str2_1 (l : Launch) (Z : State) (a0 : Array Value) (hw : HW Z a0) (ws : List Jvm.Cond) (a_ : Addr) (ch : Addr) (cd : Int32) (c0 : Int32) (c1 : Int32) (kc : ClassId) (cs : Int32) (h0 : Heap) (n0 : Nat) (Z0 : n0 ≤ h0.size) (P0 : Exa Z h0 a_ "java/lang/String") (P1 : fld0 Z h0 a_ .null) (P2 : fld1 Z h0 a_ (.int cd)) (P3 : n0 ≤ a_) (P4 : Arv Z h0 ch kc .char (2 : Int32) [(.int c0), (.int c1)] (.int 0)) (P5 : Old Z n0 h0) (P6 : sta0 Z (.int cs)) (P7 : sta1 Z (.int 1)) (P8 : sta2 Z (.int 0)) (P9 : sta3 Z (.int 8)) (hcs : ¬ (cs = (0 : Int32))) (r0 : ¬ c0 < 0 ∧ ¬ (65535 : Int32) < c0) (r1 : ¬ c1 < 0 ∧ ¬ (65535 : Int32) < c1) (hl0 : ¬ ((255 : Int32) < c0)) (hgt : (255 : Int32) < c1) :
    MF l Z m_15 jdk_42_method_3_code 2 none ws (oR 5 2 6 74) #[(.ref a_), (.ref ch)] h0 (Q_str2 Z a_ ch cd c0 c1 kc cs h0 n0) := by
  refine own_body (cls := "java/lang/String") (plainFor_of_name pn_5) rfl (fun p e s m below meth c s₁ hx hby hml hown hnm hret hZ X0 e0 => ?_)
  have N0 := Fr.nil n0
  have K0 := Keep.refl h0 [a_]
  have lt1 := own_l P0.lt
  have lt2 := own_l P1.lt
  have lt3 := own_l P2.lt
  have lt4 := own_l P4.lt
  obtain ⟨cl5, Ar5, q5, S5, M5, H5, G5⟩ := id P4
  obtain ⟨_, _, ⟨T6, L6, k6, n6⟩, -, X6, ⟨Lc6, hQ6, l6, y6, z6⟩, st6⟩ := X0.specialBack hx (y := m_14) rfl hown (mvT hZ (w_11 hw)) (mvT hZ (w_12 hw)) (mvT hZ (w_14 hw)) (by decide) (backOf (W := 0) (rm_s149_2_1 l Z a0 hw [] a_ ch cd c0 c1 kc cs h0 n0 (by omega) P0 P1 P2 (by omega) P4 P5 P6 P7 P8 P9 hcs hl0 hgt r1) hZ (w_14 hw) (w_6 hw) (by decide) (by decide)) (g := (mkF m 6 #[vA a_, vA ch] [.null, (.int 2), (.int 0), (.ref ch), (.ref a_)])) rfl (by rw [hml]; rfl) (Steps.refl _) (a := a_) (argsL := [(.ref ch), (.int 0), (.int 2), .null]) (rest := []) (lenOf pd_6 rfl) rfl (Nat.le_of_eq rfl) (hb hby d205) (fun _ _ => ⟨rfl, e0, (by decide : 0 + 2 ≤ _), (by decide : 0 + 6 ≤ _)⟩)
  dsimp only [Pt.U, Pt.locs, Pt.cells, Pt.slots] at X6 l6 y6 z6 st6 hQ6
  rw [l6, y6, z6] at X6
  obtain ⟨x6_b, x6_k, rfl, Nq6, Kq6, r6_0, r6_1, r6_2, r6_3, r6_4⟩ := hQ6
  have N6 := Fr.app N0 Nq6
  have z6' := Kq6.1
  have K6 := K0.trans Kq6 (allS (Or.inl (List.mem_of_getElem? (i := 0) rfl)) all0)
  have lt7 := own_l r6_0.lt
  have lt8 := own_l r6_1.lt
  have lt9 := own_l r6_2.lt
  have lt10 := own_l r6_3.lt
  refine ⟨_, _, _, _, none, X6, by decide, by decide, fun _ => rfl, ?_, fun fs hr => castTop (ef_9 m a_ ch) ?_⟩
  · show Q_str2 Z a_ ch cd c0 c1 kc cs h0 n0 _ T6.heap _
    exact ⟨rfl, N6, K6, r6_0, r6_4, (Or.inr ⟨_, _, r6_1, r6_2, r6_3⟩)⟩
  · show Steps _ _ _ (s₁.setTop (mkF m 0 #[vA a_, vA ch] [])) _
    refine XS.aloadN X0.here hx rfl (hb hby d199) rfl rfl ?_
    refine XS.aloadN X0.here hx rfl (hb hby d200) rfl rfl ?_
    refine XS.iconst X0.here hx rfl (hb hby d201) ?_
    refine XS.aloadN X0.here hx rfl (hb hby d202) rfl rfl ?_
    refine X0.arraylength hx (by rw [e0]; exact Ar5.1) (State.isArrayOf_alike hZ.alike Ar5.2.1) (g := (mkF m 4 #[vA a_, vA ch] [(.ref ch), (.int 0), (.ref ch), (.ref a_)])) rfl rfl (hb hby d203) _ ?_
    rw [len_of S5 M5]
    show Steps _ _ _ (s₁.setTop (mkF m 5 #[vA a_, vA ch] [(.int 2), (.int 0), (.ref ch), (.ref a_)])) _
    refine XS.aconstNull X0.here hx rfl (hb hby d204) ?_
    refine st6.trans ?_
    show Steps _ _ _ (T6.setTop (mkF m 9 #[vA a_, vA ch] [])) _
    exact X6.returnOut hx hret (hb hby d206) hr
theorem rm_str2_2 (l : Launch) (Z : State) (a0 : Array Value) (hw : HW Z a0) (ws : List Jvm.Cond) (a_ : Addr) (ch : Addr) (cd : Int32) (c0 : Int32) (c1 : Int32) (kc : ClassId) (cs : Int32) (h0 : Heap) (n0 : Nat) (Z0 : n0 ≤ h0.size) (P0 : Exa Z h0 a_ "java/lang/String") (P1 : fld0 Z h0 a_ .null) (P2 : fld1 Z h0 a_ (.int cd)) (P3 : n0 ≤ a_) (P4 : Arv Z h0 ch kc .char (2 : Int32) [(.int c0), (.int c1)] (.int 0)) (P5 : Old Z n0 h0) (P6 : sta0 Z (.int cs)) (P7 : sta1 Z (.int 1)) (P8 : sta2 Z (.int 0)) (P9 : sta3 Z (.int 8)) (hcs : ¬ (cs = (0 : Int32))) (r0 : ¬ c0 < 0 ∧ ¬ (65535 : Int32) < c0) (r1 : ¬ c1 < 0 ∧ ¬ (65535 : Int32) < c1) (hl0 : ¬ ((255 : Int32) < c0)) (hl1 : ¬ ((255 : Int32) < c1)) :
    MF l Z m_15 jdk_42_method_3_code 2 none ws (oR 5 2 6 74) #[(.ref a_), (.ref ch)] h0 (Q_str2 Z a_ ch cd c0 c1 kc cs h0 n0) := by
  refine own_body (cls := "java/lang/String") (plainFor_of_name pn_5) rfl (fun p e s m below meth c s₁ hx hby hml hown hnm hret hZ X0 e0 => ?_)
  have N0 := Fr.nil n0
  have K0 := Keep.refl h0 [a_]
  have lt1 := own_l P0.lt
  have lt2 := own_l P1.lt
  have lt3 := own_l P2.lt
  have lt4 := own_l P4.lt
  obtain ⟨cl5, Ar5, q5, S5, M5, H5, G5⟩ := id P4
  obtain ⟨_, _, ⟨T6, L6, k6, n6⟩, -, X6, ⟨Lc6, hQ6, l6, y6, z6⟩, st6⟩ := X0.specialBack hx (y := m_14) rfl hown (mvT hZ (w_11 hw)) (mvT hZ (w_12 hw)) (mvT hZ (w_14 hw)) (by decide) (backOf (W := 0) (rm_s149_2_2 l Z a0 hw [] a_ ch cd c0 c1 kc cs h0 n0 (by omega) P0 P1 P2 (by omega) P4 P5 P6 P7 P8 P9 hcs hl0 hl1) hZ (w_14 hw) (w_6 hw) (by decide) (by decide)) (g := (mkF m 6 #[vA a_, vA ch] [.null, (.int 2), (.int 0), (.ref ch), (.ref a_)])) rfl (by rw [hml]; rfl) (Steps.refl _) (a := a_) (argsL := [(.ref ch), (.int 0), (.int 2), .null]) (rest := []) (lenOf pd_6 rfl) rfl (Nat.le_of_eq rfl) (hb hby d205) (fun _ _ => ⟨rfl, e0, (by decide : 0 + 1 ≤ _), (by decide : 0 + 2 ≤ _)⟩)
  dsimp only [Pt.U, Pt.locs, Pt.cells, Pt.slots] at X6 l6 y6 z6 st6 hQ6
  rw [l6, y6, z6] at X6
  obtain ⟨x6_b, x6_k, rfl, Nq6, Kq6, r6_0, r6_1, r6_2, r6_3, r6_4⟩ := hQ6
  have N6 := Fr.app N0 Nq6
  have z6' := Kq6.1
  have K6 := K0.trans Kq6 (allS (Or.inl (List.mem_of_getElem? (i := 0) rfl)) all0)
  have lt7 := own_l r6_0.lt
  have lt8 := own_l r6_1.lt
  have lt9 := own_l r6_2.lt
  have lt10 := own_l r6_3.lt
  refine ⟨_, _, _, _, none, X6, by decide, by decide, fun _ => rfl, ?_, fun fs hr => castTop (ef_9 m a_ ch) ?_⟩
  · show Q_str2 Z a_ ch cd c0 c1 kc cs h0 n0 _ T6.heap _
    exact ⟨rfl, N6, K6, r6_0, r6_4, (Or.inl ⟨_, _, r6_1, r6_2, (by intro c hc; simp only [List.mem_cons, List.not_mem_nil, or_false] at hc; rcases hc with rfl | rfl <;> assumption), r6_3⟩)⟩
  · show Steps _ _ _ (s₁.setTop (mkF m 0 #[vA a_, vA ch] [])) _
    refine XS.aloadN X0.here hx rfl (hb hby d199) rfl rfl ?_
    refine XS.aloadN X0.here hx rfl (hb hby d200) rfl rfl ?_
    refine XS.iconst X0.here hx rfl (hb hby d201) ?_
    refine XS.aloadN X0.here hx rfl (hb hby d202) rfl rfl ?_
    refine X0.arraylength hx (by rw [e0]; exact Ar5.1) (State.isArrayOf_alike hZ.alike Ar5.2.1) (g := (mkF m 4 #[vA a_, vA ch] [(.ref ch), (.int 0), (.ref ch), (.ref a_)])) rfl rfl (hb hby d203) _ ?_
    rw [len_of S5 M5]
    show Steps _ _ _ (s₁.setTop (mkF m 5 #[vA a_, vA ch] [(.int 2), (.int 0), (.ref ch), (.ref a_)])) _
    refine XS.aconstNull X0.here hx rfl (hb hby d204) ?_
    refine st6.trans ?_
    show Steps _ _ _ (T6.setTop (mkF m 9 #[vA a_, vA ch] [])) _
    exact X6.returnOut hx hret (hb hby d206) hr
theorem rm_str2 (l : Launch) (Z : State) (a0 : Array Value) (hw : HW Z a0) (ws : List Jvm.Cond) (a_ : Addr) (ch : Addr) (cd : Int32) (c0 : Int32) (c1 : Int32) (kc : ClassId) (cs : Int32) (h0 : Heap) (n0 : Nat) (Z0 : n0 ≤ h0.size) (P0 : Exa Z h0 a_ "java/lang/String") (P1 : fld0 Z h0 a_ .null) (P2 : fld1 Z h0 a_ (.int cd)) (P3 : n0 ≤ a_) (P4 : Arv Z h0 ch kc .char (2 : Int32) [(.int c0), (.int c1)] (.int 0)) (P5 : Old Z n0 h0) (P6 : sta0 Z (.int cs)) (P7 : sta1 Z (.int 1)) (P8 : sta2 Z (.int 0)) (P9 : sta3 Z (.int 8)) (hcs : ¬ (cs = (0 : Int32))) (r0 : ¬ c0 < 0 ∧ ¬ (65535 : Int32) < c0) (r1 : ¬ c1 < 0 ∧ ¬ (65535 : Int32) < c1) :
    MF l Z m_15 jdk_42_method_3_code 2 none ws (oR 5 2 6 74) #[(.ref a_), (.ref ch)] h0 (Q_str2 Z a_ ch cd c0 c1 kc cs h0 n0) := by
  by_cases k0 : (255 : Int32) < c0
  · exact rm_str2_0 l Z a0 hw ws a_ ch cd c0 c1 kc cs h0 n0 Z0 P0 P1 P2 P3 P4 P5 P6 P7 P8 P9 hcs r0 r1 k0
  by_cases k1 : (255 : Int32) < c1
  · exact rm_str2_1 l Z a0 hw ws a_ ch cd c0 c1 kc cs h0 n0 Z0 P0 P1 P2 P3 P4 P5 P6 P7 P8 P9 hcs r0 r1 k0 k1
  exact rm_str2_2 l Z a0 hw ws a_ ch cd c0 c1 kc cs h0 n0 Z0 P0 P1 P2 P3 P4 P5 P6 P7 P8 P9 hcs r0 r1 k0 k1
def Q_s149_3_0 (Z : State) (a_ : Addr) (ch : Addr) (cd : Int32) (c0 : Int32) (c1 : Int32) (c2 : Int32) (kc : ClassId) (cs : Int32) (h0 : Heap) (n0 : Nat) (v : Option Value) (h : Heap) (L : List Loc) : Prop := ∃ (b : Addr) (k : ClassId), (v = none) ∧ (Fr n0 L) ∧ (Keep h0 h [a_]) ∧ (Exa Z h a_ "java/lang/String") ∧ (fld0 Z h a_ (.ref b)) ∧ (fld1 Z h a_ (.int 1)) ∧ (Arv Z h b k .byte (6 : Int32) [(.int (oL c0)), (.int (oH c0)), (.int (oL c1)), (.int (oH c1)), (.int (oL c2)), (.int (oH c2))] (.int 0)) ∧ (Old Z n0 h)
theorem rm_s149_3_0 (l : Launch) (Z : State) (a0 : Array Value) (hw : HW Z a0) (ws : List Jvm.Cond) (a_ : Addr) (ch : Addr) (cd : Int32) (c0 : Int32) (c1 : Int32) (c2 : Int32) (kc : ClassId) (cs : Int32) (h0 : Heap) (n0 : Nat) (Z0 : n0 ≤ h0.size) (P0 : Exa Z h0 a_ "java/lang/String") (P1 : fld0 Z h0 a_ .null) (P2 : fld1 Z h0 a_ (.int cd)) (P3 : n0 ≤ a_) (P4 : Arv Z h0 ch kc .char (3 : Int32) [(.int c0), (.int c1), (.int c2)] (.int 0)) (P5 : Old Z n0 h0) (P6 : sta0 Z (.int cs)) (P7 : sta1 Z (.int 1)) (P8 : sta2 Z (.int 0)) (P9 : sta3 Z (.int 8)) (hcs : ¬ (cs = (0 : Int32))) (hgt : (255 : Int32) < c0) (r0 : ¬ c0 < 0 ∧ ¬ (65535 : Int32) < c0) :
    MF l Z m_14 jdk_42_method_149_code 6 none ws (oR 4 2 9 57) #[(.ref a_), (.ref ch), (.int 0), (.int 3), .null] h0 (Q_s149_3_0 Z a_ ch cd c0 c1 c2 kc cs h0 n0) := by
  refine own_body (cls := "java/lang/String") (plainFor_of_name pn_5) rfl (fun p e s m below meth c s₁ hx hby hml hown hnm hret hZ X0 e0 => ?_)
  have N0 := Fr.nil n0
  have K0 := Keep.refl h0 [a_]
  have lt1 := own_l P0.lt
  have lt2 := own_l P1.lt
  have lt3 := own_l P2.lt
  have lt4 := own_l P4.lt
  obtain ⟨T5, X5, e5, st5⟩ := initO X0 hx hZ hown (w_15 hw) (w_16 hw) (w_17 hw) e0 (g := (mkF m 1 #[vA a_, vA ch, vI 0, vI 3, .val .null, .unset] [(.ref a_)])) rfl (by rw [hml]; rfl) rfl (hb hby d187) (by decide) (W := 0) (Nat.le_of_eq rfl) (by decide)
  obtain ⟨T6, X6, e6, st6⟩ := getS2 X5 hx hZ hown (host := "") (Or.inl (w_45 hw)) Via.refl e5 (P6.ext P5.2) (g := (mkF m 27 #[vA a_, vA ch, vI 0, vI 3, .val .null, .unset] [])) rfl (hb hby d207)
  obtain ⟨_, _, ⟨T7, L7, k7, n7⟩, -, X7, ⟨Lc7, hQ7, l7, y7, z7⟩, st7⟩ := Jvm.LawKit.callS X6 hx (y := m_11) hown (mvT hZ (w_70 hw)) (mvT hZ (w_71 hw)) (mvT hZ (w_72 hw)) (mvT hZ (w_73 hw)) (by decide) (backOf (W := 0) (rm_cm3_3_0 l Z a0 hw [] c0 c1 c2 ch kc h0 n0 (by omega) P5 P4 P7 P8 P9 hgt r0) hZ (w_73 hw) (w_72 hw) (by decide) (by decide)) (g := (mkF m 36 #[vA a_, vA ch, vI 0, vI 3, .val .null, .unset] [(.int 3), (.int 0), (.ref ch)])) rfl (by rw [hml]; rfl) (argsL := [(.ref ch), (.int 0), (.int 3)]) (rest := []) (lenOf pd_4 rfl) rfl (Nat.le_of_eq rfl) (hb hby d212) (fun _ _ => ⟨rfl, e6, (by decide : 0 + 2 ≤ _), (by decide : 0 + 9 ≤ _)⟩)
  dsimp only [Pt.U, Pt.locs, Pt.cells, Pt.slots] at X7 l7 y7 z7 st7 hQ7
  rw [l7, y7, z7] at X7
  obtain ⟨x7_b, x7_k, rfl, Nq7, Kq7, r7_0, r7_1, r7_2⟩ := hQ7
  have N7 := Fr.app N0 Nq7
  have z7' := Kq7.1
  have K7 := K0.trans Kq7 all0
  have lt8 := own_l r7_1.lt
  obtain ⟨_, _, ⟨T9, L9, k9, n9⟩, -, X9, ⟨Lc9, hQ9, l9, y9, z9⟩, st9⟩ := Jvm.LawKit.callS X7 hx (y := m_12) hown (mvT hZ (w_77 hw)) (mvT hZ (w_78 hw)) (mvT hZ (w_72 hw)) (mvT hZ (w_79 hw)) (by decide) (backOf (W := 1) (rm_cfl3_1 l Z a0 hw [] x7_b x7_k ([(.int (oL c0)), (.int (oH c0)), (.int (oL c1)), (.int (oH c1)), (.int (oL c2)), (.int (oH c2))]) T7.heap n0 (by omega) r7_1) hZ (w_79 hw) (w_72 hw) (by decide) (by decide)) (g := (mkF m 45 #[vA a_, vA ch, vI 0, vI 3, .val .null, vA x7_b] [(.int 3), (.ref x7_b), (.ref a_)])) rfl (by rw [hml]; rfl) (argsL := [(.ref x7_b), (.int 3)]) (rest := [(.ref a_)]) (lenOf pd_7 rfl) rfl (Nat.le_of_eq rfl) (hb hby d217) (fun _ _ => ⟨rfl, rfl, (by decide : 2 + 0 ≤ _), (by decide : 9 + 0 ≤ _)⟩)
  dsimp only [Pt.U, Pt.locs, Pt.cells, Pt.slots] at X9 l9 y9 z9 st9 hQ9
  rw [l9, y9, z9] at X9
  obtain ⟨rfl, Nq9, Kq9⟩ := hQ9
  have N9 := Fr.app N7 Nq9
  have f11 := P2.keep Kq7 nin0
  have f12 := P0.keep Kq7
  obtain ⟨T10, h10, X10, e10, W10, st10⟩ := putFN X9 hx hZ hown (w_25 hw) Via.refl Kq9 f11 f12 (Or.inr ⟨(w_21 hw), rfl, hnm⟩) (w_5 hw) (ty := .byte) (v' := (.int 1)) (by decide) rfl rfl (g := (mkF m 48 #[vA a_, vA ch, vI 0, vI 3, .val .null, vA x7_b] [(.int 1), (.ref a_)])) rfl rfl (hb hby d218)
  have F10 := f11.same W10
  have z10 := W10.size
  have K10 := K7.wr W10 (Or.inl (List.mem_of_getElem? (i := 0) rfl))
  have N10 := Fr.snoc X10 N9 (by omega)
  have f14 := P1.keep Kq7 nin0
  have f15 := f14.other W10 (Or.inr (slot_ne (a0 := a0) (t := (.array .byte)) (t' := .byte) (Or.inr (w_20 hw)) (Or.inr (w_21 hw)) (by decide) (by decide) (by decide)))
  have f16 := f12.wr W10
  obtain ⟨T13, h13, X13, e13, W13, st13⟩ := putF X10 hx hZ hown (host := "") (Or.inl (w_24 hw)) Via.refl e10 f15 f16 (Or.inr ⟨(w_20 hw), rfl, hnm⟩) (w_5 hw) (ty := (.array .byte)) (by decide) rfl rfl (g := (mkF m 54 #[vA a_, vA ch, vI 0, vI 3, .val .null, vA x7_b] [(.ref x7_b), (.ref a_)])) rfl rfl (hb hby d221)
  have F13 := f15.same W13
  have z13 := W13.size
  have K13 := K10.wr W13 (Or.inl (List.mem_of_getElem? (i := 0) rfl))
  have N13 := Fr.snoc X13 N10 (by omega)
  have f17 := f16.wr W13
  have f18 := F10.other W13 (Or.inr (slot_ne (a0 := a0) (t := .byte) (t' := (.array .byte)) (Or.inr (w_21 hw)) (Or.inr (w_20 hw)) (by decide) (by decide) (by decide)))
  have f19 := r7_1.other W10 (own_ne (by omega))
  have f20 := f19.other W13 (own_ne (by omega))
  have f21 := r7_2.wr W10 (by omega)
  have f22 := f21.wr W13 (by omega)
  refine ⟨_, _, _, _, none, X13, by decide, by decide, fun _ => rfl, ?_, fun fs hr => castTop (ef_8 m a_ ch (0 : Int32) (3 : Int32)) ?_⟩
  · show Q_s149_3_0 Z a_ ch cd c0 c1 c2 kc cs h0 n0 _ T13.heap _
    rw [(e13 : T13.heap = h13)]
    exact ⟨x7_b, x7_k, rfl, N13, K13, f17, F13, f18, f20, f22⟩
  · show Steps _ _ _ (s₁.setTop (mkF m 0 #[vA a_, vA ch, vI 0, vI 3, .val .null, .unset] [])) _
    refine XS.aloadN X0.here hx rfl (hb hby d186) rfl rfl ?_
    refine st5 _ ?_
    show Steps _ _ _ (T5.setTop (mkF m 4 #[vA a_, vA ch, vI 0, vI 3, .val .null, .unset] [])) _
    refine XS.iloadN X5.here hx rfl (hb hby d188) rfl ?_
    refine XS.ifYes X5.here hx rfl (pc0 := 5) (pc' := 27) rfl (hb hby d189) rfl ((if0 _ _).trans (feq ((by decide) : ¬ ((3 : Int32) = (0 : Int32)))).2) (by decide) (by decide) ?_
    refine st6 _ ?_
    show Steps _ _ _ (T6.setTop (mkF m 30 #[vA a_, vA ch, vI 0, vI 3, .val .null, .unset] [(.int cs)])) _
    refine XS.ifNo X6.here hx rfl (hb hby d208) rfl ((if0 _ _).trans (feq (hcs : ¬ (cs = (0 : Int32)))).1) ?_
    refine XS.aloadN X6.here hx rfl (hb hby d209) rfl rfl ?_
    refine XS.iloadN X6.here hx rfl (hb hby d210) rfl ?_
    refine XS.iloadN X6.here hx rfl (hb hby d211) rfl ?_
    refine st7 _ ?_
    show Steps _ _ _ (T7.setTop (mkF m 39 #[vA a_, vA ch, vI 0, vI 3, .val .null, .unset] [(.ref x7_b)])) _
    refine XS.astore X7.here hx rfl (hb hby d213) rfl rfl (l' := #[vA a_, vA ch, vI 0, vI 3, .val .null, vA x7_b]) rfl ?_
    refine XS.aloadN X7.here hx rfl (hb hby d214) rfl rfl ?_
    refine XS.aload X7.here hx rfl (hb hby d215) rfl rfl ?_
    refine XS.iloadN X7.here hx rfl (hb hby d216) rfl ?_
    refine st9 _ ?_
    show Steps _ _ _ (T9.setTop (mkF m 48 #[vA a_, vA ch, vI 0, vI 3, .val .null, vA x7_b] [(.int 1), (.ref a_)])) _
    refine st10 _ ?_
    show Steps _ _ _ (T10.setTop (mkF m 51 #[vA a_, vA ch, vI 0, vI 3, .val .null, vA x7_b] [])) _
    refine XS.aloadN X10.here hx rfl (hb hby d219) rfl rfl ?_
    refine XS.aload X10.here hx rfl (hb hby d220) rfl rfl ?_
    refine st13 _ ?_
    show Steps _ _ _ (T13.setTop (mkF m 57 #[vA a_, vA ch, vI 0, vI 3, .val .null, vA x7_b] [])) _
    exact X13.returnOut hx hret (hb hby d222) hr
def Q_s149_3_1 (Z : State) (a_ : Addr) (ch : Addr) (cd : Int32) (c0 : Int32) (c1 : Int32) (c2 : Int32) (kc : ClassId) (cs : Int32) (h0 : Heap) (n0 : Nat) (v : Option Value) (h : Heap) (L : List Loc) : Prop := ∃ (b : Addr) (k : ClassId), (v = none) ∧ (Fr n0 L) ∧ (Keep h0 h [a_]) ∧ (Exa Z h a_ "java/lang/String") ∧ (fld0 Z h a_ (.ref b)) ∧ (fld1 Z h a_ (.int 1)) ∧ (Arv Z h b k .byte (6 : Int32) [(.int (oL c0)), (.int (oH c0)), (.int (oL c1)), (.int (oH c1)), (.int (oL c2)), (.int (oH c2))] (.int 0)) ∧ (Old Z n0 h)
theorem rm_s149_3_1 (l : Launch) (Z : State) (a0 : Array Value) (hw : HW Z a0) (ws : List Jvm.Cond) (a_ : Addr) (ch : Addr) (cd : Int32) (c0 : Int32) (c1 : Int32) (c2 : Int32) (kc : ClassId) (cs : Int32) (h0 : Heap) (n0 : Nat) (Z0 : n0 ≤ h0.size) (P0 : Exa Z h0 a_ "java/lang/String") (P1 : fld0 Z h0 a_ .null) (P2 : fld1 Z h0 a_ (.int cd)) (P3 : n0 ≤ a_) (P4 : Arv Z h0 ch kc .char (3 : Int32) [(.int c0), (.int c1), (.int c2)] (.int 0)) (P5 : Old Z n0 h0) (P6 : sta0 Z (.int cs)) (P7 : sta1 Z (.int 1)) (P8 : sta2 Z (.int 0)) (P9 : sta3 Z (.int 8)) (hcs : ¬ (cs = (0 : Int32))) (hl0 : ¬ ((255 : Int32) < c0)) (hgt : (255 : Int32) < c1) (r1 : ¬ c1 < 0 ∧ ¬ (65535 : Int32) < c1) :
    MF l Z m_14 jdk_42_method_149_code 6 none ws (oR 4 2 9 57) #[(.ref a_), (.ref ch), (.int 0), (.int 3), .null] h0 (Q_s149_3_1 Z a_ ch cd c0 c1 c2 kc cs h0 n0) := by
  refine own_body (cls := "java/lang/String") (plainFor_of_name pn_5) rfl (fun p e s m below meth c s₁ hx hby hml hown hnm hret hZ X0 e0 => ?_)
  have N0 := Fr.nil n0
  have K0 := Keep.refl h0 [a_]
  have lt1 := own_l P0.lt
  have lt2 := own_l P1.lt
  have lt3 := own_l P2.lt
  have lt4 := own_l P4.lt
  obtain ⟨T5, X5, e5, st5⟩ := initO X0 hx hZ hown (w_15 hw) (w_16 hw) (w_17 hw) e0 (g := (mkF m 1 #[vA a_, vA ch, vI 0, vI 3, .val .null, .unset] [(.ref a_)])) rfl (by rw [hml]; rfl) rfl (hb hby d187) (by decide) (W := 0) (Nat.le_of_eq rfl) (by decide)
  obtain ⟨T6, X6, e6, st6⟩ := getS2 X5 hx hZ hown (host := "") (Or.inl (w_45 hw)) Via.refl e5 (P6.ext P5.2) (g := (mkF m 27 #[vA a_, vA ch, vI 0, vI 3, .val .null, .unset] [])) rfl (hb hby d207)
  obtain ⟨_, _, ⟨T7, L7, k7, n7⟩, -, X7, ⟨Lc7, hQ7, l7, y7, z7⟩, st7⟩ := Jvm.LawKit.callS X6 hx (y := m_11) hown (mvT hZ (w_70 hw)) (mvT hZ (w_71 hw)) (mvT hZ (w_72 hw)) (mvT hZ (w_73 hw)) (by decide) (backOf (W := 0) (rm_cm3_3_1 l Z a0 hw [] c0 c1 c2 ch kc h0 n0 (by omega) P5 P4 P7 P8 P9 hl0 hgt r1) hZ (w_73 hw) (w_72 hw) (by decide) (by decide)) (g := (mkF m 36 #[vA a_, vA ch, vI 0, vI 3, .val .null, .unset] [(.int 3), (.int 0), (.ref ch)])) rfl (by rw [hml]; rfl) (argsL := [(.ref ch), (.int 0), (.int 3)]) (rest := []) (lenOf pd_4 rfl) rfl (Nat.le_of_eq rfl) (hb hby d212) (fun _ _ => ⟨rfl, e6, (by decide : 0 + 2 ≤ _), (by decide : 0 + 9 ≤ _)⟩)
  dsimp only [Pt.U, Pt.locs, Pt.cells, Pt.slots] at X7 l7 y7 z7 st7 hQ7
  rw [l7, y7, z7] at X7
  obtain ⟨x7_b, x7_k, rfl, Nq7, Kq7, r7_0, r7_1, r7_2⟩ := hQ7
  have N7 := Fr.app N0 Nq7
  have z7' := Kq7.1
  have K7 := K0.trans Kq7 all0
  have lt8 := own_l r7_1.lt
  obtain ⟨_, _, ⟨T9, L9, k9, n9⟩, -, X9, ⟨Lc9, hQ9, l9, y9, z9⟩, st9⟩ := Jvm.LawKit.callS X7 hx (y := m_12) hown (mvT hZ (w_77 hw)) (mvT hZ (w_78 hw)) (mvT hZ (w_72 hw)) (mvT hZ (w_79 hw)) (by decide) (backOf (W := 1) (rm_cfl3_1 l Z a0 hw [] x7_b x7_k ([(.int (oL c0)), (.int (oH c0)), (.int (oL c1)), (.int (oH c1)), (.int (oL c2)), (.int (oH c2))]) T7.heap n0 (by omega) r7_1) hZ (w_79 hw) (w_72 hw) (by decide) (by decide)) (g := (mkF m 45 #[vA a_, vA ch, vI 0, vI 3, .val .null, vA x7_b] [(.int 3), (.ref x7_b), (.ref a_)])) rfl (by rw [hml]; rfl) (argsL := [(.ref x7_b), (.int 3)]) (rest := [(.ref a_)]) (lenOf pd_7 rfl) rfl (Nat.le_of_eq rfl) (hb hby d217) (fun _ _ => ⟨rfl, rfl, (by decide : 2 + 0 ≤ _), (by decide : 9 + 0 ≤ _)⟩)
  dsimp only [Pt.U, Pt.locs, Pt.cells, Pt.slots] at X9 l9 y9 z9 st9 hQ9
  rw [l9, y9, z9] at X9
  obtain ⟨rfl, Nq9, Kq9⟩ := hQ9
  have N9 := Fr.app N7 Nq9
  have f11 := P2.keep Kq7 nin0
  have f12 := P0.keep Kq7
  obtain ⟨T10, h10, X10, e10, W10, st10⟩ := putFN X9 hx hZ hown (w_25 hw) Via.refl Kq9 f11 f12 (Or.inr ⟨(w_21 hw), rfl, hnm⟩) (w_5 hw) (ty := .byte) (v' := (.int 1)) (by decide) rfl rfl (g := (mkF m 48 #[vA a_, vA ch, vI 0, vI 3, .val .null, vA x7_b] [(.int 1), (.ref a_)])) rfl rfl (hb hby d218)
  have F10 := f11.same W10
  have z10 := W10.size
  have K10 := K7.wr W10 (Or.inl (List.mem_of_getElem? (i := 0) rfl))
  have N10 := Fr.snoc X10 N9 (by omega)
  have f14 := P1.keep Kq7 nin0
  have f15 := f14.other W10 (Or.inr (slot_ne (a0 := a0) (t := (.array .byte)) (t' := .byte) (Or.inr (w_20 hw)) (Or.inr (w_21 hw)) (by decide) (by decide) (by decide)))
  have f16 := f12.wr W10
  obtain ⟨T13, h13, X13, e13, W13, st13⟩ := putF X10 hx hZ hown (host := "") (Or.inl (w_24 hw)) Via.refl e10 f15 f16 (Or.inr ⟨(w_20 hw), rfl, hnm⟩) (w_5 hw) (ty := (.array .byte)) (by decide) rfl rfl (g := (mkF m 54 #[vA a_, vA ch, vI 0, vI 3, .val .null, vA x7_b] [(.ref x7_b), (.ref a_)])) rfl rfl (hb hby d221)
  have F13 := f15.same W13
  have z13 := W13.size
  have K13 := K10.wr W13 (Or.inl (List.mem_of_getElem? (i := 0) rfl))
  have N13 := Fr.snoc X13 N10 (by omega)
  have f17 := f16.wr W13
  have f18 := F10.other W13 (Or.inr (slot_ne (a0 := a0) (t := .byte) (t' := (.array .byte)) (Or.inr (w_21 hw)) (Or.inr (w_20 hw)) (by decide) (by decide) (by decide)))
  have f19 := r7_1.other W10 (own_ne (by omega))
  have f20 := f19.other W13 (own_ne (by omega))
  have f21 := r7_2.wr W10 (by omega)
  have f22 := f21.wr W13 (by omega)
  refine ⟨_, _, _, _, none, X13, by decide, by decide, fun _ => rfl, ?_, fun fs hr => castTop (ef_8 m a_ ch (0 : Int32) (3 : Int32)) ?_⟩
  · show Q_s149_3_1 Z a_ ch cd c0 c1 c2 kc cs h0 n0 _ T13.heap _
    rw [(e13 : T13.heap = h13)]
    exact ⟨x7_b, x7_k, rfl, N13, K13, f17, F13, f18, f20, f22⟩
  · show Steps _ _ _ (s₁.setTop (mkF m 0 #[vA a_, vA ch, vI 0, vI 3, .val .null, .unset] [])) _
    refine XS.aloadN X0.here hx rfl (hb hby d186) rfl rfl ?_
    refine st5 _ ?_
    show Steps _ _ _ (T5.setTop (mkF m 4 #[vA a_, vA ch, vI 0, vI 3, .val .null, .unset] [])) _
    refine XS.iloadN X5.here hx rfl (hb hby d188) rfl ?_
    refine XS.ifYes X5.here hx rfl (pc0 := 5) (pc' := 27) rfl (hb hby d189) rfl ((if0 _ _).trans (feq ((by decide) : ¬ ((3 : Int32) = (0 : Int32)))).2) (by decide) (by decide) ?_
    refine st6 _ ?_
    show Steps _ _ _ (T6.setTop (mkF m 30 #[vA a_, vA ch, vI 0, vI 3, .val .null, .unset] [(.int cs)])) _
    refine XS.ifNo X6.here hx rfl (hb hby d208) rfl ((if0 _ _).trans (feq (hcs : ¬ (cs = (0 : Int32)))).1) ?_
    refine XS.aloadN X6.here hx rfl (hb hby d209) rfl rfl ?_
    refine XS.iloadN X6.here hx rfl (hb hby d210) rfl ?_
    refine XS.iloadN X6.here hx rfl (hb hby d211) rfl ?_
    refine st7 _ ?_
    show Steps _ _ _ (T7.setTop (mkF m 39 #[vA a_, vA ch, vI 0, vI 3, .val .null, .unset] [(.ref x7_b)])) _
    refine XS.astore X7.here hx rfl (hb hby d213) rfl rfl (l' := #[vA a_, vA ch, vI 0, vI 3, .val .null, vA x7_b]) rfl ?_
    refine XS.aloadN X7.here hx rfl (hb hby d214) rfl rfl ?_
    refine XS.aload X7.here hx rfl (hb hby d215) rfl rfl ?_
    refine XS.iloadN X7.here hx rfl (hb hby d216) rfl ?_
    refine st9 _ ?_
    show Steps _ _ _ (T9.setTop (mkF m 48 #[vA a_, vA ch, vI 0, vI 3, .val .null, vA x7_b] [(.int 1), (.ref a_)])) _
    refine st10 _ ?_
    show Steps _ _ _ (T10.setTop (mkF m 51 #[vA a_, vA ch, vI 0, vI 3, .val .null, vA x7_b] [])) _
    refine XS.aloadN X10.here hx rfl (hb hby d219) rfl rfl ?_
    refine XS.aload X10.here hx rfl (hb hby d220) rfl rfl ?_
    refine st13 _ ?_
    show Steps _ _ _ (T13.setTop (mkF m 57 #[vA a_, vA ch, vI 0, vI 3, .val .null, vA x7_b] [])) _
    exact X13.returnOut hx hret (hb hby d222) hr
def Q_s149_3_2 (Z : State) (a_ : Addr) (ch : Addr) (cd : Int32) (c0 : Int32) (c1 : Int32) (c2 : Int32) (kc : ClassId) (cs : Int32) (h0 : Heap) (n0 : Nat) (v : Option Value) (h : Heap) (L : List Loc) : Prop := ∃ (b : Addr) (k : ClassId), (v = none) ∧ (Fr n0 L) ∧ (Keep h0 h [a_]) ∧ (Exa Z h a_ "java/lang/String") ∧ (fld0 Z h a_ (.ref b)) ∧ (fld1 Z h a_ (.int 1)) ∧ (Arv Z h b k .byte (6 : Int32) [(.int (oL c0)), (.int (oH c0)), (.int (oL c1)), (.int (oH c1)), (.int (oL c2)), (.int (oH c2))] (.int 0)) ∧ (Old Z n0 h)
theorem rm_s149_3_2 (l : Launch) (Z : State) (a0 : Array Value) (hw : HW Z a0) (ws : List Jvm.Cond) (a_ : Addr) (ch : Addr) (cd : Int32) (c0 : Int32) (c1 : Int32) (c2 : Int32) (kc : ClassId) (cs : Int32) (h0 : Heap) (n0 : Nat) (Z0 : n0 ≤ h0.size) (P0 : Exa Z h0 a_ "java/lang/String") (P1 : fld0 Z h0 a_ .null) (P2 : fld1 Z h0 a_ (.int cd)) (P3 : n0 ≤ a_) (P4 : Arv Z h0 ch kc .char (3 : Int32) [(.int c0), (.int c1), (.int c2)] (.int 0)) (P5 : Old Z n0 h0) (P6 : sta0 Z (.int cs)) (P7 : sta1 Z (.int 1)) (P8 : sta2 Z (.int 0)) (P9 : sta3 Z (.int 8)) (hcs : ¬ (cs = (0 : Int32))) (hl0 : ¬ ((255 : Int32) < c0)) (hl1 : ¬ ((255 : Int32) < c1)) (hgt : (255 : Int32) < c2) (r2 : ¬ c2 < 0 ∧ ¬ (65535 : Int32) < c2) :
    MF l Z m_14 jdk_42_method_149_code 6 none ws (oR 4 2 9 57) #[(.ref a_), (.ref ch), (.int 0), (.int 3), .null] h0 (Q_s149_3_2 Z a_ ch cd c0 c1 c2 kc cs h0 n0) := by
  refine own_body (cls := "java/lang/String") (plainFor_of_name pn_5) rfl (fun p e s m below meth c s₁ hx hby hml hown hnm hret hZ X0 e0 => ?_)
  have N0 := Fr.nil n0
  have K0 := Keep.refl h0 [a_]
  have lt1 := own_l P0.lt
  have lt2 := own_l P1.lt
  have lt3 := own_l P2.lt
  have lt4 := own_l P4.lt
  obtain ⟨T5, X5, e5, st5⟩ := initO X0 hx hZ hown (w_15 hw) (w_16 hw) (w_17 hw) e0 (g := (mkF m 1 #[vA a_, vA ch, vI 0, vI 3, .val .null, .unset] [(.ref a_)])) rfl (by rw [hml]; rfl) rfl (hb hby d187) (by decide) (W := 0) (Nat.le_of_eq rfl) (by decide)
  obtain ⟨T6, X6, e6, st6⟩ := getS2 X5 hx hZ hown (host := "") (Or.inl (w_45 hw)) Via.refl e5 (P6.ext P5.2) (g := (mkF m 27 #[vA a_, vA ch, vI 0, vI 3, .val .null, .unset] [])) rfl (hb hby d207)
  obtain ⟨_, _, ⟨T7, L7, k7, n7⟩, -, X7, ⟨Lc7, hQ7, l7, y7, z7⟩, st7⟩ := Jvm.LawKit.callS X6 hx (y := m_11) hown (mvT hZ (w_70 hw)) (mvT hZ (w_71 hw)) (mvT hZ (w_72 hw)) (mvT hZ (w_73 hw)) (by decide) (backOf (W := 0) (rm_cm3_3_2 l Z a0 hw [] c0 c1 c2 ch kc h0 n0 (by omega) P5 P4 P7 P8 P9 hl0 hl1 hgt r2) hZ (w_73 hw) (w_72 hw) (by decide) (by decide)) (g := (mkF m 36 #[vA a_, vA ch, vI 0, vI 3, .val .null, .unset] [(.int 3), (.int 0), (.ref ch)])) rfl (by rw [hml]; rfl) (argsL := [(.ref ch), (.int 0), (.int 3)]) (rest := []) (lenOf pd_4 rfl) rfl (Nat.le_of_eq rfl) (hb hby d212) (fun _ _ => ⟨rfl, e6, (by decide : 0 + 2 ≤ _), (by decide : 0 + 9 ≤ _)⟩)
  dsimp only [Pt.U, Pt.locs, Pt.cells, Pt.slots] at X7 l7 y7 z7 st7 hQ7
  rw [l7, y7, z7] at X7
  obtain ⟨x7_b, x7_k, rfl, Nq7, Kq7, r7_0, r7_1, r7_2⟩ := hQ7
  have N7 := Fr.app N0 Nq7
  have z7' := Kq7.1
  have K7 := K0.trans Kq7 all0
  have lt8 := own_l r7_1.lt
  obtain ⟨_, _, ⟨T9, L9, k9, n9⟩, -, X9, ⟨Lc9, hQ9, l9, y9, z9⟩, st9⟩ := Jvm.LawKit.callS X7 hx (y := m_12) hown (mvT hZ (w_77 hw)) (mvT hZ (w_78 hw)) (mvT hZ (w_72 hw)) (mvT hZ (w_79 hw)) (by decide) (backOf (W := 1) (rm_cfl3_1 l Z a0 hw [] x7_b x7_k ([(.int (oL c0)), (.int (oH c0)), (.int (oL c1)), (.int (oH c1)), (.int (oL c2)), (.int (oH c2))]) T7.heap n0 (by omega) r7_1) hZ (w_79 hw) (w_72 hw) (by decide) (by decide)) (g := (mkF m 45 #[vA a_, vA ch, vI 0, vI 3, .val .null, vA x7_b] [(.int 3), (.ref x7_b), (.ref a_)])) rfl (by rw [hml]; rfl) (argsL := [(.ref x7_b), (.int 3)]) (rest := [(.ref a_)]) (lenOf pd_7 rfl) rfl (Nat.le_of_eq rfl) (hb hby d217) (fun _ _ => ⟨rfl, rfl, (by decide : 2 + 0 ≤ _), (by decide : 9 + 0 ≤ _)⟩)
  dsimp only [Pt.U, Pt.locs, Pt.cells, Pt.slots] at X9 l9 y9 z9 st9 hQ9
  rw [l9, y9, z9] at X9
  obtain ⟨rfl, Nq9, Kq9⟩ := hQ9
  have N9 := Fr.app N7 Nq9
  have f11 := P2.keep Kq7 nin0
  have f12 := P0.keep Kq7
  obtain ⟨T10, h10, X10, e10, W10, st10⟩ := putFN X9 hx hZ hown (w_25 hw) Via.refl Kq9 f11 f12 (Or.inr ⟨(w_21 hw), rfl, hnm⟩) (w_5 hw) (ty := .byte) (v' := (.int 1)) (by decide) rfl rfl (g := (mkF m 48 #[vA a_, vA ch, vI 0, vI 3, .val .null, vA x7_b] [(.int 1), (.ref a_)])) rfl rfl (hb hby d218)
  have F10 := f11.same W10
  have z10 := W10.size
  have K10 := K7.wr W10 (Or.inl (List.mem_of_getElem? (i := 0) rfl))
  have N10 := Fr.snoc X10 N9 (by omega)
  have f14 := P1.keep Kq7 nin0
  have f15 := f14.other W10 (Or.inr (slot_ne (a0 := a0) (t := (.array .byte)) (t' := .byte) (Or.inr (w_20 hw)) (Or.inr (w_21 hw)) (by decide) (by decide) (by decide)))
  have f16 := f12.wr W10
  obtain ⟨T13, h13, X13, e13, W13, st13⟩ := putF X10 hx hZ hown (host := "") (Or.inl (w_24 hw)) Via.refl e10 f15 f16 (Or.inr ⟨(w_20 hw), rfl, hnm⟩) (w_5 hw) (ty := (.array .byte)) (by decide) rfl rfl (g := (mkF m 54 #[vA a_, vA ch, vI 0, vI 3, .val .null, vA x7_b] [(.ref x7_b), (.ref a_)])) rfl rfl (hb hby d221)
  have F13 := f15.same W13
  have z13 := W13.size
  have K13 := K10.wr W13 (Or.inl (List.mem_of_getElem? (i := 0) rfl))
  have N13 := Fr.snoc X13 N10 (by omega)
  have f17 := f16.wr W13
  have f18 := F10.other W13 (Or.inr (slot_ne (a0 := a0) (t := .byte) (t' := (.array .byte)) (Or.inr (w_21 hw)) (Or.inr (w_20 hw)) (by decide) (by decide) (by decide)))
  have f19 := r7_1.other W10 (own_ne (by omega))
  have f20 := f19.other W13 (own_ne (by omega))
  have f21 := r7_2.wr W10 (by omega)
  have f22 := f21.wr W13 (by omega)
  refine ⟨_, _, _, _, none, X13, by decide, by decide, fun _ => rfl, ?_, fun fs hr => castTop (ef_8 m a_ ch (0 : Int32) (3 : Int32)) ?_⟩
  · show Q_s149_3_2 Z a_ ch cd c0 c1 c2 kc cs h0 n0 _ T13.heap _
    rw [(e13 : T13.heap = h13)]
    exact ⟨x7_b, x7_k, rfl, N13, K13, f17, F13, f18, f20, f22⟩
  · show Steps _ _ _ (s₁.setTop (mkF m 0 #[vA a_, vA ch, vI 0, vI 3, .val .null, .unset] [])) _
    refine XS.aloadN X0.here hx rfl (hb hby d186) rfl rfl ?_
    refine st5 _ ?_
    show Steps _ _ _ (T5.setTop (mkF m 4 #[vA a_, vA ch, vI 0, vI 3, .val .null, .unset] [])) _
    refine XS.iloadN X5.here hx rfl (hb hby d188) rfl ?_
    refine XS.ifYes X5.here hx rfl (pc0 := 5) (pc' := 27) rfl (hb hby d189) rfl ((if0 _ _).trans (feq ((by decide) : ¬ ((3 : Int32) = (0 : Int32)))).2) (by decide) (by decide) ?_
    refine st6 _ ?_
    show Steps _ _ _ (T6.setTop (mkF m 30 #[vA a_, vA ch, vI 0, vI 3, .val .null, .unset] [(.int cs)])) _
    refine XS.ifNo X6.here hx rfl (hb hby d208) rfl ((if0 _ _).trans (feq (hcs : ¬ (cs = (0 : Int32)))).1) ?_
    refine XS.aloadN X6.here hx rfl (hb hby d209) rfl rfl ?_
    refine XS.iloadN X6.here hx rfl (hb hby d210) rfl ?_
    refine XS.iloadN X6.here hx rfl (hb hby d211) rfl ?_
    refine st7 _ ?_
    show Steps _ _ _ (T7.setTop (mkF m 39 #[vA a_, vA ch, vI 0, vI 3, .val .null, .unset] [(.ref x7_b)])) _
    refine XS.astore X7.here hx rfl (hb hby d213) rfl rfl (l' := #[vA a_, vA ch, vI 0, vI 3, .val .null, vA x7_b]) rfl ?_
    refine XS.aloadN X7.here hx rfl (hb hby d214) rfl rfl ?_
    refine XS.aload X7.here hx rfl (hb hby d215) rfl rfl ?_
    refine XS.iloadN X7.here hx rfl (hb hby d216) rfl ?_
    refine st9 _ ?_
    show Steps _ _ _ (T9.setTop (mkF m 48 #[vA a_, vA ch, vI 0, vI 3, .val .null, vA x7_b] [(.int 1), (.ref a_)])) _
    refine st10 _ ?_
    show Steps _ _ _ (T10.setTop (mkF m 51 #[vA a_, vA ch, vI 0, vI 3, .val .null, vA x7_b] [])) _
    refine XS.aloadN X10.here hx rfl (hb hby d219) rfl rfl ?_
    refine XS.aload X10.here hx rfl (hb hby d220) rfl rfl ?_
    refine st13 _ ?_
    show Steps _ _ _ (T13.setTop (mkF m 57 #[vA a_, vA ch, vI 0, vI 3, .val .null, vA x7_b] [])) _
    exact X13.returnOut hx hret (hb hby d222) hr
def Q_s149_3_3 (Z : State) (a_ : Addr) (ch : Addr) (cd : Int32) (c0 : Int32) (c1 : Int32) (c2 : Int32) (kc : ClassId) (cs : Int32) (h0 : Heap) (n0 : Nat) (v : Option Value) (h : Heap) (L : List Loc) : Prop := ∃ (b : Addr) (k : ClassId), (v = none) ∧ (Fr n0 L) ∧ (Keep h0 h [a_]) ∧ (Exa Z h a_ "java/lang/String") ∧ (fld0 Z h a_ (.ref b)) ∧ (fld1 Z h a_ (.int 0)) ∧ (Arv Z h b k .byte (3 : Int32) [(.int (oB c0)), (.int (oB c1)), (.int (oB c2))] (.int 0)) ∧ (Old Z n0 h)
theorem rm_s149_3_3 (l : Launch) (Z : State) (a0 : Array Value) (hw : HW Z a0) (ws : List Jvm.Cond) (a_ : Addr) (ch : Addr) (cd : Int32) (c0 : Int32) (c1 : Int32) (c2 : Int32) (kc : ClassId) (cs : Int32) (h0 : Heap) (n0 : Nat) (Z0 : n0 ≤ h0.size) (P0 : Exa Z h0 a_ "java/lang/String") (P1 : fld0 Z h0 a_ .null) (P2 : fld1 Z h0 a_ (.int cd)) (P3 : n0 ≤ a_) (P4 : Arv Z h0 ch kc .char (3 : Int32) [(.int c0), (.int c1), (.int c2)] (.int 0)) (P5 : Old Z n0 h0) (P6 : sta0 Z (.int cs)) (P7 : sta1 Z (.int 1)) (P8 : sta2 Z (.int 0)) (P9 : sta3 Z (.int 8)) (hcs : ¬ (cs = (0 : Int32))) (hl0 : ¬ ((255 : Int32) < c0)) (hl1 : ¬ ((255 : Int32) < c1)) (hl2 : ¬ ((255 : Int32) < c2)) :
    MF l Z m_14 jdk_42_method_149_code 6 none ws (oR 2 1 3 35) #[(.ref a_), (.ref ch), (.int 0), (.int 3), .null] h0 (Q_s149_3_3 Z a_ ch cd c0 c1 c2 kc cs h0 n0) := by
  refine own_body (cls := "java/lang/String") (plainFor_of_name pn_5) rfl (fun p e s m below meth c s₁ hx hby hml hown hnm hret hZ X0 e0 => ?_)
  have N0 := Fr.nil n0
  have K0 := Keep.refl h0 [a_]
  have lt1 := own_l P0.lt
  have lt2 := own_l P1.lt
  have lt3 := own_l P2.lt
  have lt4 := own_l P4.lt
  obtain ⟨T5, X5, e5, st5⟩ := initO X0 hx hZ hown (w_15 hw) (w_16 hw) (w_17 hw) e0 (g := (mkF m 1 #[vA a_, vA ch, vI 0, vI 3, .val .null, .unset] [(.ref a_)])) rfl (by rw [hml]; rfl) rfl (hb hby d187) (by decide) (W := 0) (Nat.le_of_eq rfl) (by decide)
  obtain ⟨T6, X6, e6, st6⟩ := getS2 X5 hx hZ hown (host := "") (Or.inl (w_45 hw)) Via.refl e5 (P6.ext P5.2) (g := (mkF m 27 #[vA a_, vA ch, vI 0, vI 3, .val .null, .unset] [])) rfl (hb hby d207)
  obtain ⟨_, _, ⟨T7, L7, k7, n7⟩, -, X7, ⟨Lc7, hQ7, l7, y7, z7⟩, st7⟩ := Jvm.LawKit.callS X6 hx (y := m_11) hown (mvT hZ (w_70 hw)) (mvT hZ (w_71 hw)) (mvT hZ (w_72 hw)) (mvT hZ (w_73 hw)) (by decide) (backOf (W := 0) (rm_cm3_3_3 l Z a0 hw [] c0 c1 c2 ch kc h0 n0 (by omega) P5 P4 P7 P8 P9 hl0 hl1 hl2) hZ (w_73 hw) (w_72 hw) (by decide) (by decide)) (g := (mkF m 36 #[vA a_, vA ch, vI 0, vI 3, .val .null, .unset] [(.int 3), (.int 0), (.ref ch)])) rfl (by rw [hml]; rfl) (argsL := [(.ref ch), (.int 0), (.int 3)]) (rest := []) (lenOf pd_4 rfl) rfl (Nat.le_of_eq rfl) (hb hby d212) (fun _ _ => ⟨rfl, e6, (by decide : 0 + 1 ≤ _), (by decide : 0 + 3 ≤ _)⟩)
  dsimp only [Pt.U, Pt.locs, Pt.cells, Pt.slots] at X7 l7 y7 z7 st7 hQ7
  rw [l7, y7, z7] at X7
  obtain ⟨x7_b, x7_k, rfl, Nq7, Kq7, r7_0, r7_1, r7_2⟩ := hQ7
  have N7 := Fr.app N0 Nq7
  have z7' := Kq7.1
  have K7 := K0.trans Kq7 all0
  have lt8 := own_l r7_1.lt
  obtain ⟨_, _, ⟨T9, L9, k9, n9⟩, -, X9, ⟨Lc9, hQ9, l9, y9, z9⟩, st9⟩ := Jvm.LawKit.callS X7 hx (y := m_12) hown (mvT hZ (w_77 hw)) (mvT hZ (w_78 hw)) (mvT hZ (w_72 hw)) (mvT hZ (w_79 hw)) (by decide) (backOf (W := 1) (rm_cfl3_0 l Z a0 hw [] x7_b x7_k ([(.int (oB c0)), (.int (oB c1)), (.int (oB c2))]) T7.heap n0 (by omega) r7_1) hZ (w_79 hw) (w_72 hw) (by decide) (by decide)) (g := (mkF m 45 #[vA a_, vA ch, vI 0, vI 3, .val .null, vA x7_b] [(.int 3), (.ref x7_b), (.ref a_)])) rfl (by rw [hml]; rfl) (argsL := [(.ref x7_b), (.int 3)]) (rest := [(.ref a_)]) (lenOf pd_7 rfl) rfl (Nat.le_of_eq rfl) (hb hby d217) (fun _ _ => ⟨rfl, rfl, (by decide : 1 + 0 ≤ _), (by decide : 3 + 0 ≤ _)⟩)
  dsimp only [Pt.U, Pt.locs, Pt.cells, Pt.slots] at X9 l9 y9 z9 st9 hQ9
  rw [l9, y9, z9] at X9
  obtain ⟨rfl, Nq9, Kq9⟩ := hQ9
  have N9 := Fr.app N7 Nq9
  have f11 := P2.keep Kq7 nin0
  have f12 := P0.keep Kq7
  obtain ⟨T10, h10, X10, e10, W10, st10⟩ := putFN X9 hx hZ hown (w_25 hw) Via.refl Kq9 f11 f12 (Or.inr ⟨(w_21 hw), rfl, hnm⟩) (w_5 hw) (ty := .byte) (v' := (.int 0)) (by decide) rfl rfl (g := (mkF m 48 #[vA a_, vA ch, vI 0, vI 3, .val .null, vA x7_b] [(.int 0), (.ref a_)])) rfl rfl (hb hby d218)
  have F10 := f11.same W10
  have z10 := W10.size
  have K10 := K7.wr W10 (Or.inl (List.mem_of_getElem? (i := 0) rfl))
  have N10 := Fr.snoc X10 N9 (by omega)
  have f14 := P1.keep Kq7 nin0
  have f15 := f14.other W10 (Or.inr (slot_ne (a0 := a0) (t := (.array .byte)) (t' := .byte) (Or.inr (w_20 hw)) (Or.inr (w_21 hw)) (by decide) (by decide) (by decide)))
  have f16 := f12.wr W10
  obtain ⟨T13, h13, X13, e13, W13, st13⟩ := putF X10 hx hZ hown (host := "") (Or.inl (w_24 hw)) Via.refl e10 f15 f16 (Or.inr ⟨(w_20 hw), rfl, hnm⟩) (w_5 hw) (ty := (.array .byte)) (by decide) rfl rfl (g := (mkF m 54 #[vA a_, vA ch, vI 0, vI 3, .val .null, vA x7_b] [(.ref x7_b), (.ref a_)])) rfl rfl (hb hby d221)
  have F13 := f15.same W13
  have z13 := W13.size
  have K13 := K10.wr W13 (Or.inl (List.mem_of_getElem? (i := 0) rfl))
  have N13 := Fr.snoc X13 N10 (by omega)
  have f17 := f16.wr W13
  have f18 := F10.other W13 (Or.inr (slot_ne (a0 := a0) (t := .byte) (t' := (.array .byte)) (Or.inr (w_21 hw)) (Or.inr (w_20 hw)) (by decide) (by decide) (by decide)))
  have f19 := r7_1.other W10 (own_ne (by omega))
  have f20 := f19.other W13 (own_ne (by omega))
  have f21 := r7_2.wr W10 (by omega)
  have f22 := f21.wr W13 (by omega)
  refine ⟨_, _, _, _, none, X13, by decide, by decide, fun _ => rfl, ?_, fun fs hr => castTop (ef_8 m a_ ch (0 : Int32) (3 : Int32)) ?_⟩
  · show Q_s149_3_3 Z a_ ch cd c0 c1 c2 kc cs h0 n0 _ T13.heap _
    rw [(e13 : T13.heap = h13)]
    exact ⟨x7_b, x7_k, rfl, N13, K13, f17, F13, f18, f20, f22⟩
  · show Steps _ _ _ (s₁.setTop (mkF m 0 #[vA a_, vA ch, vI 0, vI 3, .val .null, .unset] [])) _
    refine XS.aloadN X0.here hx rfl (hb hby d186) rfl rfl ?_
    refine st5 _ ?_
    show Steps _ _ _ (T5.setTop (mkF m 4 #[vA a_, vA ch, vI 0, vI 3, .val .null, .unset] [])) _
    refine XS.iloadN X5.here hx rfl (hb hby d188) rfl ?_
    refine XS.ifYes X5.here hx rfl (pc0 := 5) (pc' := 27) rfl (hb hby d189) rfl ((if0 _ _).trans (feq ((by decide) : ¬ ((3 : Int32) = (0 : Int32)))).2) (by decide) (by decide) ?_
    refine st6 _ ?_
    show Steps _ _ _ (T6.setTop (mkF m 30 #[vA a_, vA ch, vI 0, vI 3, .val .null, .unset] [(.int cs)])) _
    refine XS.ifNo X6.here hx rfl (hb hby d208) rfl ((if0 _ _).trans (feq (hcs : ¬ (cs = (0 : Int32)))).1) ?_
    refine XS.aloadN X6.here hx rfl (hb hby d209) rfl rfl ?_
    refine XS.iloadN X6.here hx rfl (hb hby d210) rfl ?_
    refine XS.iloadN X6.here hx rfl (hb hby d211) rfl ?_
    refine st7 _ ?_
    show Steps _ _ _ (T7.setTop (mkF m 39 #[vA a_, vA ch, vI 0, vI 3, .val .null, .unset] [(.ref x7_b)])) _
    refine XS.astore X7.here hx rfl (hb hby d213) rfl rfl (l' := #[vA a_, vA ch, vI 0, vI 3, .val .null, vA x7_b]) rfl ?_
    refine XS.aloadN X7.here hx rfl (hb hby d214) rfl rfl ?_
    refine XS.aload X7.here hx rfl (hb hby d215) rfl rfl ?_
    refine XS.iloadN X7.here hx rfl (hb hby d216) rfl ?_
    refine st9 _ ?_
    show Steps _ _ _ (T9.setTop (mkF m 48 #[vA a_, vA ch, vI 0, vI 3, .val .null, vA x7_b] [(.int 0), (.ref a_)])) _
    refine st10 _ ?_
    show Steps _ _ _ (T10.setTop (mkF m 51 #[vA a_, vA ch, vI 0, vI 3, .val .null, vA x7_b] [])) _
    refine XS.aloadN X10.here hx rfl (hb hby d219) rfl rfl ?_
    refine XS.aload X10.here hx rfl (hb hby d220) rfl rfl ?_
    refine st13 _ ?_
    show Steps _ _ _ (T13.setTop (mkF m 57 #[vA a_, vA ch, vI 0, vI 3, .val .null, vA x7_b] [])) _
    exact X13.returnOut hx hret (hb hby d222) hr
def Q_str3 (Z : State) (a_ : Addr) (ch : Addr) (cd : Int32) (c0 : Int32) (c1 : Int32) (c2 : Int32) (kc : ClassId) (cs : Int32) (h0 : Heap) (n0 : Nat) (v : Option Value) (h : Heap) (L : List Loc) : Prop := (v = none) ∧ (Fr n0 L) ∧ (Keep h0 h [a_]) ∧ (Exa Z h a_ "java/lang/String") ∧ (Old Z n0 h) ∧ ((SL Z h a_ [c0, c1, c2] ∨ SU Z h a_ [c0, c1, c2]))
theorem rm_str3_0 (l : Launch) (Z : State) (a0 : Array Value) (hw : HW Z a0) (ws : List Jvm.Cond) (a_ : Addr) (ch : Addr) (cd : Int32) (c0 : Int32) (c1 : Int32) (c2 : Int32) (kc : ClassId) (cs : Int32) (h0 : Heap) (n0 : Nat) (Z0 : n0 ≤ h0.size) (P0 : Exa Z h0 a_ "java/lang/String") (P1 : fld0 Z h0 a_ .null) (P2 : fld1 Z h0 a_ (.int cd)) (P3 : n0 ≤ a_) (P4 : Arv Z h0 ch kc .char (3 : Int32) [(.int c0), (.int c1), (.int c2)] (.int 0)) (P5 : Old Z n0 h0) (P6 : sta0 Z (.int cs)) (P7 : sta1 Z (.int 1)) (P8 : sta2 Z (.int 0)) (P9 : sta3 Z (.int 8)) (hcs : ¬ (cs = (0 : Int32))) (r0 : ¬ c0 < 0 ∧ ¬ (65535 : Int32) < c0) (r1 : ¬ c1 < 0 ∧ ¬ (65535 : Int32) < c1) (r2 : ¬ c2 < 0 ∧ ¬ (65535 : Int32) < c2) (hgt : (255 : Int32) < c0) :
    MF l Z m_15 jdk_42_method_3_code 2 none ws (oR 5 2 9 74) #[(.ref a_), (.ref ch)] h0 (Q_str3 Z a_ ch cd c0 c1 c2 kc cs h0 n0) := by
  refine own_body (cls := "java/lang/String") (plainFor_of_name pn_5) rfl (fun p e s m below meth c s₁ hx hby hml hown hnm hret hZ X0 e0 => ?_)
  have N0 := Fr.nil n0
  have K0 := Keep.refl h0 [a_]
  have lt1 := own_l P0.lt
  have lt2 := own_l P1.lt
  have lt3 := own_l P2.lt
  have lt4 := own_l P4.lt
  obtain ⟨cl5, Ar5, q5, S5, M5, H5, G5⟩ := id P4
  obtain ⟨_, _, ⟨T6, L6, k6, n6⟩, -, X6, ⟨Lc6, hQ6, l6, y6, z6⟩, st6⟩ := X0.specialBack hx (y := m_14) rfl hown (mvT hZ (w_11 hw)) (mvT hZ (w_12 hw)) (mvT hZ (w_14 hw)) (by decide) (backOf (W := 0) (rm_s149_3_0 l Z a0 hw [] a_ ch cd c0 c1 c2 kc cs h0 n0 (by omega) P0 P1 P2 (by omega) P4 P5 P6 P7 P8 P9 hcs hgt r0) hZ (w_14 hw) (w_6 hw) (by decide) (by decide)) (g := (mkF m 6 #[vA a_, vA ch] [.null, (.int 3), (.int 0), (.ref ch), (.ref a_)])) rfl (by rw [hml]; rfl) (Steps.refl _) (a := a_) (argsL := [(.ref ch), (.int 0), (.int 3), .null]) (rest := []) (lenOf pd_6 rfl) rfl (Nat.le_of_eq rfl) (hb hby d205) (fun _ _ => ⟨rfl, e0, (by decide : 0 + 2 ≤ _), (by decide : 0 + 9 ≤ _)⟩)
  dsimp only [Pt.U, Pt.locs, Pt.cells, Pt.slots] at X6 l6 y6 z6 st6 hQ6
  rw [l6, y6, z6] at X6
  obtain ⟨x6_b, x6_k, rfl, Nq6, Kq6, r6_0, r6_1, r6_2, r6_3, r6_4⟩ := hQ6
  have N6 := Fr.app N0 Nq6
  have z6' := Kq6.1
  have K6 := K0.trans Kq6 (allS (Or.inl (List.mem_of_getElem? (i := 0) rfl)) all0)
  have lt7 := own_l r6_0.lt
  have lt8 := own_l r6_1.lt
  have lt9 := own_l r6_2.lt
  have lt10 := own_l r6_3.lt
  refine ⟨_, _, _, _, none, X6, by decide, by decide, fun _ => rfl, ?_, fun fs hr => castTop (ef_9 m a_ ch) ?_⟩
  · show Q_str3 Z a_ ch cd c0 c1 c2 kc cs h0 n0 _ T6.heap _
    exact ⟨rfl, N6, K6, r6_0, r6_4, (Or.inr ⟨_, _, r6_1, r6_2, r6_3⟩)⟩
  · show Steps _ _ _ (s₁.setTop (mkF m 0 #[vA a_, vA ch] [])) _
    refine XS.aloadN X0.here hx rfl (hb hby d199) rfl rfl ?_
    refine XS.aloadN X0.here hx rfl (hb hby d200) rfl rfl ?_
    refine XS.iconst X0.here hx rfl (hb hby d201) ?_
    refine XS.aloadN X0.here hx rfl (hb hby d202) rfl rfl ?_
    refine X0.arraylength hx (by rw [e0]; exact Ar5.1) (State.isArrayOf_alike hZ.alike Ar5.2.1) (g := (mkF m 4 #[vA a_, vA ch] [(.ref ch), (.int 0), (.ref ch), (.ref a_)])) rfl rfl (hb hby d203) _ ?_
    rw [len_of S5 M5]
    show Steps _ _ _ (s₁.setTop (mkF m 5 #[vA a_, vA ch] [(.int 3), (.int 0), (.ref ch), (.ref a_)])) _
    refine XS.aconstNull X0.here hx rfl (hb hby d204) ?_
    refine st6.trans ?_
    show Steps _ _ _ (T6.setTop (mkF m 9 #[vA a_, vA ch] [])) _
    exact X6.returnOut hx hret (hb hby d206) hr
theorem rm_str3_1 (l : Launch) (Z : State) (a0 : Array Value) (hw : HW Z a0) (ws : List Jvm.Cond) (a_ : Addr) (ch : Addr) (cd : Int32) (c0 : Int32) (c1 : Int32) (c2 : Int32) (kc : ClassId) (cs : Int32) (h0 : Heap) (n0 : Nat) (Z0 : n0 ≤ h0.size) (P0 : Exa Z h0 a_ "java/lang/String") (P1 : fld0 Z h0 a_ .null) (P2 : fld1 Z h0 a_ (.int cd)) (P3 : n0 ≤ a_) (P4 : Arv Z h0 ch kc .char (3 : Int32) [(.int c0), (.int c1), (.int c2)] (.int 0)) (P5 : Old Z n0 h0) (P6 : sta0 Z (.int cs)) (P7 : sta1 Z (.int 1)) (P8 : sta2 Z (.int 0)) (P9 : sta3 Z (.int 8)) (hcs : ¬ (cs = (0 : Int32))) (r0 : ¬ c0 < 0 ∧ ¬ (65535 : Int32) < c0) (r1 : ¬ c1 < 0 ∧ ¬ (65535 : Int32) < c1) (r2 : ¬ c2 < 0 ∧ ¬ (65535 : Int32) < c2) (hl0 : ¬ ((255 : Int32) < c0)) (hgt : (255 : Int32) < c1) :
    MF l Z m_15 jdk_42_method_3_code 2 none ws (oR 5 2 9 74) #[(.ref a_), (.ref ch)] h0 (Q_str3 Z a_ ch cd c0 c1 c2 kc cs h0 n0) := by
  refine own_body (cls := "java/lang/String") (plainFor_of_name pn_5) rfl (fun p e s m below meth c s₁ hx hby hml hown hnm hret hZ X0 e0 => ?_)
  have N0 := Fr.nil n0
  have K0 := Keep.refl h0 [a_]
  have lt1 := own_l P0.lt
  have lt2 := own_l P1.lt
  have lt3 := own_l P2.lt
  have lt4 := own_l P4.lt
  obtain ⟨cl5, Ar5, q5, S5, M5, H5, G5⟩ := id P4
  obtain ⟨_, _, ⟨T6, L6, k6, n6⟩, -, X6, ⟨Lc6, hQ6, l6, y6, z6⟩, st6⟩ := X0.specialBack hx (y := m_14) rfl hown (mvT hZ (w_11 hw)) (mvT hZ (w_12 hw)) (mvT hZ (w_14 hw)) (by decide) (backOf (W := 0) (rm_s149_3_1 l Z a0 hw [] a_ ch cd c0 c1 c2 kc cs h0 n0 (by omega) P0 P1 P2 (by omega) P4 P5 P6 P7 P8 P9 hcs hl0 hgt r1) hZ (w_14 hw) (w_6 hw) (by decide) (by decide)) (g := (mkF m 6 #[vA a_, vA ch] [.null, (.int 3), (.int 0), (.ref ch), (.ref a_)])) rfl (by rw [hml]; rfl) (Steps.refl _) (a := a_) (argsL := [(.ref ch), (.int 0), (.int 3), .null]) (rest := []) (lenOf pd_6 rfl) rfl (Nat.le_of_eq rfl) (hb hby d205) (fun _ _ => ⟨rfl, e0, (by decide : 0 + 2 ≤ _), (by decide : 0 + 9 ≤ _)⟩)
  dsimp only [Pt.U, Pt.locs, Pt.cells, Pt.slots] at X6 l6 y6 z6 st6 hQ6
  rw [l6, y6, z6] at X6
  obtain ⟨x6_b, x6_k, rfl, Nq6, Kq6, r6_0, r6_1, r6_2, r6_3, r6_4⟩ := hQ6
  have N6 := Fr.app N0 Nq6
  have z6' := Kq6.1
  have K6 := K0.trans Kq6 (allS (Or.inl (List.mem_of_getElem? (i := 0) rfl)) all0)
  have lt7 := own_l r6_0.lt
  have lt8 := own_l r6_1.lt
  have lt9 := own_l r6_2.lt
  have lt10 := own_l r6_3.lt
  refine ⟨_, _, _, _, none, X6, by decide, by decide, fun _ => rfl, ?_, fun fs hr => castTop (ef_9 m a_ ch) ?_⟩
  · show Q_str3 Z a_ ch cd c0 c1 c2 kc cs h0 n0 _ T6.heap _
    exact ⟨rfl, N6, K6, r6_0, r6_4, (Or.inr ⟨_, _, r6_1, r6_2, r6_3⟩)⟩
  · show Steps _ _ _ (s₁.setTop (mkF m 0 #[vA a_, vA ch] [])) _
    refine XS.aloadN X0.here hx rfl (hb hby d199) rfl rfl ?_
    refine XS.aloadN X0.here hx rfl (hb hby d200) rfl rfl ?_
    refine XS.iconst X0.here hx rfl (hb hby d201) ?_
    refine XS.aloadN X0.here hx rfl (hb hby d202) rfl rfl ?_
    refine X0.arraylength hx (by rw [e0]; exact Ar5.1) (State.isArrayOf_alike hZ.alike Ar5.2.1) (g := (mkF m 4 #[vA a_, vA ch] [(.ref ch), (.int 0), (.ref ch), (.ref a_)])) rfl rfl (hb hby d203) _ ?_
    rw [len_of S5 M5]
    show Steps _ _ _ (s₁.setTop (mkF m 5 #[vA a_, vA ch] [(.int 3), (.int 0), (.ref ch), (.ref a_)])) _
    refine XS.aconstNull X0.here hx rfl (hb hby d204) ?_
    refine st6.trans ?_
    show Steps _ _ _ (T6.setTop (mkF m 9 #[vA a_, vA ch] [])) _
    exact X6.returnOut hx hret (hb hby d206) hr
theorem rm_str3_2 (l : Launch) (Z : State) (a0 : Array Value) (hw : HW Z a0) (ws : List Jvm.Cond) (a_ : Addr) (ch : Addr) (cd : Int32) (c0 : Int32) (c1 : Int32) (c2 : Int32) (kc : ClassId) (cs : Int32) (h0 : Heap) (n0 : Nat) (Z0 : n0 ≤ h0.size) (P0 : Exa Z h0 a_ "java/lang/String") (P1 : fld0 Z h0 a_ .null) (P2 : fld1 Z h0 a_ (.int cd)) (P3 : n0 ≤ a_) (P4 : Arv Z h0 ch kc .char (3 : Int32) [(.int c0), (.int c1), (.int c2)] (.int 0)) (P5 : Old Z n0 h0) (P6 : sta0 Z (.int cs)) (P7 : sta1 Z (.int 1)) (P8 : sta2 Z (.int 0)) (P9 : sta3 Z (.int 8)) (hcs : ¬ (cs = (0 : Int32))) (r0 : ¬ c0 < 0 ∧ ¬ (65535 : Int32) < c0) (r1 : ¬ c1 < 0 ∧ ¬ (65535 : Int32) < c1) (r2 : ¬ c2 < 0 ∧ ¬ (65535 : Int32) < c2) (hl0 : ¬ ((255 : Int32) < c0)) (hl1 : ¬ ((255 : Int32) < c1)) (hgt : (255 : Int32) < c2) :
    MF l Z m_15 jdk_42_method_3_code 2 none ws (oR 5 2 9 74) #[(.ref a_), (.ref ch)] h0 (Q_str3 Z a_ ch cd c0 c1 c2 kc cs h0 n0) := by
  refine own_body (cls := "java/lang/String") (plainFor_of_name pn_5) rfl (fun p e s m below meth c s₁ hx hby hml hown hnm hret hZ X0 e0 => ?_)
  have N0 := Fr.nil n0
  have K0 := Keep.refl h0 [a_]
  have lt1 := own_l P0.lt
  have lt2 := own_l P1.lt
  have lt3 := own_l P2.lt
  have lt4 := own_l P4.lt
  obtain ⟨cl5, Ar5, q5, S5, M5, H5, G5⟩ := id P4
  obtain ⟨_, _, ⟨T6, L6, k6, n6⟩, -, X6, ⟨Lc6, hQ6, l6, y6, z6⟩, st6⟩ := X0.specialBack hx (y := m_14) rfl hown (mvT hZ (w_11 hw)) (mvT hZ (w_12 hw)) (mvT hZ (w_14 hw)) (by decide) (backOf (W := 0) (rm_s149_3_2 l Z a0 hw [] a_ ch cd c0 c1 c2 kc cs h0 n0 (by omega) P0 P1 P2 (by omega) P4 P5 P6 P7 P8 P9 hcs hl0 hl1 hgt r2) hZ (w_14 hw) (w_6 hw) (by decide) (by decide)) (g := (mkF m 6 #[vA a_, vA ch] [.null, (.int 3), (.int 0), (.ref ch), (.ref a_)])) rfl (by rw [hml]; rfl) (Steps.refl _) (a := a_) (argsL := [(.ref ch), (.int 0), (.int 3), .null]) (rest := []) (lenOf pd_6 rfl) rfl (Nat.le_of_eq rfl) (hb hby d205) (fun _ _ => ⟨rfl, e0, (by decide : 0 + 2 ≤ _), (by decide : 0 + 9 ≤ _)⟩)
  dsimp only [Pt.U, Pt.locs, Pt.cells, Pt.slots] at X6 l6 y6 z6 st6 hQ6
  rw [l6, y6, z6] at X6
  obtain ⟨x6_b, x6_k, rfl, Nq6, Kq6, r6_0, r6_1, r6_2, r6_3, r6_4⟩ := hQ6
  have N6 := Fr.app N0 Nq6
  have z6' := Kq6.1
  have K6 := K0.trans Kq6 (allS (Or.inl (List.mem_of_getElem? (i := 0) rfl)) all0)
  have lt7 := own_l r6_0.lt
  have lt8 := own_l r6_1.lt
  have lt9 := own_l r6_2.lt
  have lt10 := own_l r6_3.lt
  refine ⟨_, _, _, _, none, X6, by decide, by decide, fun _ => rfl, ?_, fun fs hr => castTop (ef_9 m a_ ch) ?_⟩
  · show Q_str3 Z a_ ch cd c0 c1 c2 kc cs h0 n0 _ T6.heap _
    exact ⟨rfl, N6, K6, r6_0, r6_4, (Or.inr ⟨_, _, r6_1, r6_2, r6_3⟩)⟩
  · show Steps _ _ _ (s₁.setTop (mkF m 0 #[vA a_, vA ch] [])) _
    refine XS.aloadN X0.here hx rfl (hb hby d199) rfl rfl ?_
    refine XS.aloadN X0.here hx rfl (hb hby d200) rfl rfl ?_
    refine XS.iconst X0.here hx rfl (hb hby d201) ?_
    refine XS.aloadN X0.here hx rfl (hb hby d202) rfl rfl ?_
    refine X0.arraylength hx (by rw [e0]; exact Ar5.1) (State.isArrayOf_alike hZ.alike Ar5.2.1) (g := (mkF m 4 #[vA a_, vA ch] [(.ref ch), (.int 0), (.ref ch), (.ref a_)])) rfl rfl (hb hby d203) _ ?_
    rw [len_of S5 M5]
    show Steps _ _ _ (s₁.setTop (mkF m 5 #[vA a_, vA ch] [(.int 3), (.int 0), (.ref ch), (.ref a_)])) _
    refine XS.aconstNull X0.here hx rfl (hb hby d204) ?_
    refine st6.trans ?_
    show Steps _ _ _ (T6.setTop (mkF m 9 #[vA a_, vA ch] [])) _
    exact X6.returnOut hx hret (hb hby d206) hr
theorem rm_str3_3 (l : Launch) (Z : State) (a0 : Array Value) (hw : HW Z a0) (ws : List Jvm.Cond) (a_ : Addr) (ch : Addr) (cd : Int32) (c0 : Int32) (c1 : Int32) (c2 : Int32) (kc : ClassId) (cs : Int32) (h0 : Heap) (n0 : Nat) (Z0 : n0 ≤ h0.size) (P0 : Exa Z h0 a_ "java/lang/String") (P1 : fld0 Z h0 a_ .null) (P2 : fld1 Z h0 a_ (.int cd)) (P3 : n0 ≤ a_) (P4 : Arv Z h0 ch kc .char (3 : Int32) [(.int c0), (.int c1), (.int c2)] (.int 0)) (P5 : Old Z n0 h0) (P6 : sta0 Z (.int cs)) (P7 : sta1 Z (.int 1)) (P8 : sta2 Z (.int 0)) (P9 : sta3 Z (.int 8)) (hcs : ¬ (cs = (0 : Int32))) (r0 : ¬ c0 < 0 ∧ ¬ (65535 : Int32) < c0) (r1 : ¬ c1 < 0 ∧ ¬ (65535 : Int32) < c1) (r2 : ¬ c2 < 0 ∧ ¬ (65535 : Int32) < c2) (hl0 : ¬ ((255 : Int32) < c0)) (hl1 : ¬ ((255 : Int32) < c1)) (hl2 : ¬ ((255 : Int32) < c2)) :
    MF l Z m_15 jdk_42_method_3_code 2 none ws (oR 5 2 9 74) #[(.ref a_), (.ref ch)] h0 (Q_str3 Z a_ ch cd c0 c1 c2 kc cs h0 n0) := by
  refine own_body (cls := "java/lang/String") (plainFor_of_name pn_5) rfl (fun p e s m below meth c s₁ hx hby hml hown hnm hret hZ X0 e0 => ?_)
  have N0 := Fr.nil n0
  have K0 := Keep.refl h0 [a_]
  have lt1 := own_l P0.lt
  have lt2 := own_l P1.lt
  have lt3 := own_l P2.lt
  have lt4 := own_l P4.lt
  obtain ⟨cl5, Ar5, q5, S5, M5, H5, G5⟩ := id P4
  obtain ⟨_, _, ⟨T6, L6, k6, n6⟩, -, X6, ⟨Lc6, hQ6, l6, y6, z6⟩, st6⟩ := X0.specialBack hx (y := m_14) rfl hown (mvT hZ (w_11 hw)) (mvT hZ (w_12 hw)) (mvT hZ (w_14 hw)) (by decide) (backOf (W := 0) (rm_s149_3_3 l Z a0 hw [] a_ ch cd c0 c1 c2 kc cs h0 n0 (by omega) P0 P1 P2 (by omega) P4 P5 P6 P7 P8 P9 hcs hl0 hl1 hl2) hZ (w_14 hw) (w_6 hw) (by decide) (by decide)) (g := (mkF m 6 #[vA a_, vA ch] [.null, (.int 3), (.int 0), (.ref ch), (.ref a_)])) rfl (by rw [hml]; rfl) (Steps.refl _) (a := a_) (argsL := [(.ref ch), (.int 0), (.int 3), .null]) (rest := []) (lenOf pd_6 rfl) rfl (Nat.le_of_eq rfl) (hb hby d205) (fun _ _ => ⟨rfl, e0, (by decide : 0 + 1 ≤ _), (by decide : 0 + 3 ≤ _)⟩)
  dsimp only [Pt.U, Pt.locs, Pt.cells, Pt.slots] at X6 l6 y6 z6 st6 hQ6
  rw [l6, y6, z6] at X6
  obtain ⟨x6_b, x6_k, rfl, Nq6, Kq6, r6_0, r6_1, r6_2, r6_3, r6_4⟩ := hQ6
  have N6 := Fr.app N0 Nq6
  have z6' := Kq6.1
  have K6 := K0.trans Kq6 (allS (Or.inl (List.mem_of_getElem? (i := 0) rfl)) all0)
  have lt7 := own_l r6_0.lt
  have lt8 := own_l r6_1.lt
  have lt9 := own_l r6_2.lt
  have lt10 := own_l r6_3.lt
  refine ⟨_, _, _, _, none, X6, by decide, by decide, fun _ => rfl, ?_, fun fs hr => castTop (ef_9 m a_ ch) ?_⟩
  · show Q_str3 Z a_ ch cd c0 c1 c2 kc cs h0 n0 _ T6.heap _
    exact ⟨rfl, N6, K6, r6_0, r6_4, (Or.inl ⟨_, _, r6_1, r6_2, (by intro c hc; simp only [List.mem_cons, List.not_mem_nil, or_false] at hc; rcases hc with rfl | rfl | rfl <;> assumption), r6_3⟩)⟩
  · show Steps _ _ _ (s₁.setTop (mkF m 0 #[vA a_, vA ch] [])) _
    refine XS.aloadN X0.here hx rfl (hb hby d199) rfl rfl ?_
    refine XS.aloadN X0.here hx rfl (hb hby d200) rfl rfl ?_
    refine XS.iconst X0.here hx rfl (hb hby d201) ?_
    refine XS.aloadN X0.here hx rfl (hb hby d202) rfl rfl ?_
    refine X0.arraylength hx (by rw [e0]; exact Ar5.1) (State.isArrayOf_alike hZ.alike Ar5.2.1) (g := (mkF m 4 #[vA a_, vA ch] [(.ref ch), (.int 0), (.ref ch), (.ref a_)])) rfl rfl (hb hby d203) _ ?_
    rw [len_of S5 M5]
    show Steps _ _ _ (s₁.setTop (mkF m 5 #[vA a_, vA ch] [(.int 3), (.int 0), (.ref ch), (.ref a_)])) _
    refine XS.aconstNull X0.here hx rfl (hb hby d204) ?_
    refine st6.trans ?_
    show Steps _ _ _ (T6.setTop (mkF m 9 #[vA a_, vA ch] [])) _
    exact X6.returnOut hx hret (hb hby d206) hr
theorem rm_str3 (l : Launch) (Z : State) (a0 : Array Value) (hw : HW Z a0) (ws : List Jvm.Cond) (a_ : Addr) (ch : Addr) (cd : Int32) (c0 : Int32) (c1 : Int32) (c2 : Int32) (kc : ClassId) (cs : Int32) (h0 : Heap) (n0 : Nat) (Z0 : n0 ≤ h0.size) (P0 : Exa Z h0 a_ "java/lang/String") (P1 : fld0 Z h0 a_ .null) (P2 : fld1 Z h0 a_ (.int cd)) (P3 : n0 ≤ a_) (P4 : Arv Z h0 ch kc .char (3 : Int32) [(.int c0), (.int c1), (.int c2)] (.int 0)) (P5 : Old Z n0 h0) (P6 : sta0 Z (.int cs)) (P7 : sta1 Z (.int 1)) (P8 : sta2 Z (.int 0)) (P9 : sta3 Z (.int 8)) (hcs : ¬ (cs = (0 : Int32))) (r0 : ¬ c0 < 0 ∧ ¬ (65535 : Int32) < c0) (r1 : ¬ c1 < 0 ∧ ¬ (65535 : Int32) < c1) (r2 : ¬ c2 < 0 ∧ ¬ (65535 : Int32) < c2) :
    MF l Z m_15 jdk_42_method_3_code 2 none ws (oR 5 2 9 74) #[(.ref a_), (.ref ch)] h0 (Q_str3 Z a_ ch cd c0 c1 c2 kc cs h0 n0) := by
  by_cases k0 : (255 : Int32) < c0
  · exact rm_str3_0 l Z a0 hw ws a_ ch cd c0 c1 c2 kc cs h0 n0 Z0 P0 P1 P2 P3 P4 P5 P6 P7 P8 P9 hcs r0 r1 r2 k0
  by_cases k1 : (255 : Int32) < c1
  · exact rm_str3_1 l Z a0 hw ws a_ ch cd c0 c1 c2 kc cs h0 n0 Z0 P0 P1 P2 P3 P4 P5 P6 P7 P8 P9 hcs r0 r1 r2 k0 k1
  by_cases k2 : (255 : Int32) < c2
  · exact rm_str3_2 l Z a0 hw ws a_ ch cd c0 c1 c2 kc cs h0 n0 Z0 P0 P1 P2 P3 P4 P5 P6 P7 P8 P9 hcs r0 r1 r2 k0 k1 k2
  exact rm_str3_3 l Z a0 hw ws a_ ch cd c0 c1 c2 kc cs h0 n0 Z0 P0 P1 P2 P3 P4 P5 P6 P7 P8 P9 hcs r0 r1 r2 k0 k1 k2
theorem d223 : decode jdk_43_method_23_code 0 = .ok (.iload_n 1, 1) := by decide +kernel
theorem d224 : decode jdk_43_method_23_code 1 = .ok (.i2b, 1) := by decide +kernel
theorem d225 : decode jdk_43_method_23_code 2 = .ok (.istore 4, 2) := by decide +kernel
theorem d226 : decode jdk_43_method_23_code 4 = .ok (.iload_n 2, 1) := by decide +kernel
theorem d227 : decode jdk_43_method_23_code 5 = .ok (.istore 5, 2) := by decide +kernel
theorem d228 : decode jdk_43_method_23_code 7 = .ok (.iload 5, 2) := by decide +kernel
theorem d229 : decode jdk_43_method_23_code 9 = .ok (.iload_n 3, 1) := by decide +kernel
theorem d230 : decode jdk_43_method_23_code 10 = .ok (.if_icmp .ge 21, 3) := by decide +kernel
theorem d231 : decode jdk_43_method_23_code 13 = .ok (.aload_n 0, 1) := by decide +kernel
theorem d232 : decode jdk_43_method_23_code 14 = .ok (.iload 5, 2) := by decide +kernel
theorem d233 : decode jdk_43_method_23_code 16 = .ok (.baload, 1) := by decide +kernel
theorem d234 : decode jdk_43_method_23_code 17 = .ok (.iload 4, 2) := by decide +kernel
theorem d235 : decode jdk_43_method_23_code 19 = .ok (.if_icmp .ne 6, 3) := by decide +kernel
theorem d236 : decode jdk_43_method_23_code 22 = .ok (.iload 5, 2) := by decide +kernel
theorem d237 : decode jdk_43_method_23_code 24 = .ok (.ireturn, 1) := by decide +kernel
theorem d238 : decode jdk_43_method_23_code 25 = .ok (.iinc 5 1, 3) := by decide +kernel
theorem d239 : decode jdk_43_method_23_code 28 = .ok (.goto (-21), 3) := by decide +kernel
theorem d240 : decode jdk_43_method_23_code 31 = .ok (.iconst (-1), 1) := by decide +kernel
theorem d241 : decode jdk_43_method_23_code 32 = .ok (.ireturn, 1) := by decide +kernel
theorem ef_10 (m : MethodId) (x0 : Addr) (x1 : Int32) (x2 : Int32) (x3 : Int32) : entryFrame m #[(.ref x0), (.int x1), (.int x2), (.int x3)] 6 = mkF m 0 #[vA x0, vI x1, vI x2, vI x3, .unset, .unset] [] := by first | (simp [entryFrame, mkF, argsToLocals, Value.category, maxLocals]; done) | rfl
abbrev m_16 : MethodName := (⟨"java/lang/StringLatin1", "indexOfChar", "([BIII)I"⟩ : MethodName)
def Q_ioc1 (Z : State) (c0 : Int32) (x_ : Int32) (b : Addr) (k : ClassId) (h0 : Heap) (n0 : Nat) (v : Option Value) (h : Heap) (L : List Loc) : Prop := ∃ (r : Int32), (v = some (.int r)) ∧ (Fr n0 L) ∧ (h = h0) ∧ ((r < (0 : Int32)) ↔ (¬ (c0 = x_)))
theorem rm_ioc1_0 (l : Launch) (Z : State) (a0 : Array Value) (hw : HW Z a0) (ws : List Jvm.Cond) (c0 : Int32) (x_ : Int32) (b : Addr) (k : ClassId) (h0 : Heap) (n0 : Nat) (Z0 : n0 ≤ h0.size) (P0 : Arv Z h0 b k .byte (1 : Int32) [(.int (oB c0))] (.int 0)) (hx0 : ¬ (x_ < (0 : Int32))) (hx1 : ¬ ((255 : Int32) < x_)) (r0 : ¬ c0 < 0 ∧ ¬ (65535 : Int32) < c0) (hl0 : ¬ ((255 : Int32) < c0)) (he : c0 = x_) :
    MF l Z m_16 jdk_43_method_23_code 6 (some .int) ws (oR 0 0 0 0) #[(.ref b), (.int x_), (.int 0), (.int 1)] h0 (Q_ioc1 Z c0 x_ b k h0 n0) := by
  refine own_body (cls := "java/lang/StringLatin1") (plainFor_of_name pn_2) rfl (fun p e s m below meth c s₁ hx hby hml hown hnm hret hZ X0 e0 => ?_)
  have N0 := Fr.nil n0
  have lt1 := own_l P0.lt
  obtain ⟨cl2, Ar2, q2, S2, M2, H2, G2⟩ := id P0
  have hin2 : ¬ ((0 : Int32) < 0 ∨ cl2.slots.size ≤ ((0 : Int32)).toNatClampNeg) := inb_of S2 ⟨by decide, by decide⟩
  have hat2 : cl2.slots[((0 : Int32)).toNatClampNeg]? = some (.int (oB c0)) := Has.at H2 hin2 rfl
  refine ⟨_, _, _, _, some (.int 0), X0, by decide, by decide, nofun, ?_, fun fs hr => castTop (ef_10 m b x_ (0 : Int32) (1 : Int32)) ?_⟩
  · show Q_ioc1 Z c0 x_ b k h0 n0 _ s₁.heap _
    rw [(e0 : s₁.heap = h0)]
    exact ⟨(0 : Int32), rfl, N0, rfl, (iff_of_false (by decide) (fun q => q he))⟩
  · show Steps _ _ _ (s₁.setTop (mkF m 0 #[vA b, vI x_, vI 0, vI 1, .unset, .unset] [])) _
    refine XS.iloadN X0.here hx rfl (hb hby d223) rfl ?_
    refine XS.i2b X0.here hx rfl (hb hby d224) rfl ?_
    refine XS.istore X0.here hx rfl (hb hby d225) rfl (l' := #[vA b, vI x_, vI 0, vI 1, .val (.int (x_.toInt8.toInt32)), .unset]) rfl ?_
    refine XS.iloadN X0.here hx rfl (hb hby d226) rfl ?_
    refine XS.istore X0.here hx rfl (hb hby d227) rfl (l' := #[vA b, vI x_, vI 0, vI 1, .val (.int (x_.toInt8.toInt32)), vI 0]) rfl ?_
    refine XS.iload X0.here hx rfl (hb hby d228) rfl ?_
    refine XS.iloadN X0.here hx rfl (hb hby d229) rfl ?_
    refine XS.icmpNo X0.here hx rfl (hb hby d230) rfl (tlt ((by decide) : (0 : Int32) < (1 : Int32))).2.1 ?_
    refine XS.aloadN X0.here hx rfl (hb hby d231) rfl rfl ?_
    refine XS.iload X0.here hx rfl (hb hby d232) rfl ?_
    refine X0.baloadBytes hx (j := (0 : Int32)) (v := (.int (oB c0))) (by rw [e0]; exact Ar2.1) (State.isArrayOf_alike hZ.alike Ar2.2.1) Ar2.2.2 hin2 hat2 (g := (mkF m 16 #[vA b, vI x_, vI 0, vI 1, .val (.int (x_.toInt8.toInt32)), vI 0] [(.int 0), (.ref b)])) rfl rfl (hb hby d233) _ ?_
    show Steps _ _ _ (s₁.setTop (mkF m 17 #[vA b, vI x_, vI 0, vI 1, .val (.int (x_.toInt8.toInt32)), vI 0] [(.int (oB c0))])) _
    refine XS.iload X0.here hx rfl (hb hby d234) rfl ?_
    refine XS.icmpNo X0.here hx rfl (hb hby d235) rfl (teq (((own_beq r0 hl0 hx0 hx1).mpr he) : (oB c0) = (x_.toInt8.toInt32))).2 ?_
    refine XS.iload X0.here hx rfl (hb hby d236) rfl ?_
    exact retI X0 hx hret (hb hby d237) hr
theorem rm_ioc1_1 (l : Launch) (Z : State) (a0 : Array Value) (hw : HW Z a0) (ws : List Jvm.Cond) (c0 : Int32) (x_ : Int32) (b : Addr) (k : ClassId) (h0 : Heap) (n0 : Nat) (Z0 : n0 ≤ h0.size) (P0 : Arv Z h0 b k .byte (1 : Int32) [(.int (oB c0))] (.int 0)) (hx0 : ¬ (x_ < (0 : Int32))) (hx1 : ¬ ((255 : Int32) < x_)) (r0 : ¬ c0 < 0 ∧ ¬ (65535 : Int32) < c0) (hl0 : ¬ ((255 : Int32) < c0)) (hn0 : ¬ (c0 = x_)) :
    MF l Z m_16 jdk_43_method_23_code 6 (some .int) ws (oR 0 0 0 0) #[(.ref b), (.int x_), (.int 0), (.int 1)] h0 (Q_ioc1 Z c0 x_ b k h0 n0) := by
  refine own_body (cls := "java/lang/StringLatin1") (plainFor_of_name pn_2) rfl (fun p e s m below meth c s₁ hx hby hml hown hnm hret hZ X0 e0 => ?_)
  have N0 := Fr.nil n0
  have lt1 := own_l P0.lt
  obtain ⟨cl2, Ar2, q2, S2, M2, H2, G2⟩ := id P0
  have hin2 : ¬ ((0 : Int32) < 0 ∨ cl2.slots.size ≤ ((0 : Int32)).toNatClampNeg) := inb_of S2 ⟨by decide, by decide⟩
  have hat2 : cl2.slots[((0 : Int32)).toNatClampNeg]? = some (.int (oB c0)) := Has.at H2 hin2 rfl
  refine ⟨_, _, _, _, some (.int (-1)), X0, by decide, by decide, nofun, ?_, fun fs hr => castTop (ef_10 m b x_ (0 : Int32) (1 : Int32)) ?_⟩
  · show Q_ioc1 Z c0 x_ b k h0 n0 _ s₁.heap _
    rw [(e0 : s₁.heap = h0)]
    exact ⟨(-1 : Int32), rfl, N0, rfl, (iff_of_true (by decide) hn0)⟩
  · show Steps _ _ _ (s₁.setTop (mkF m 0 #[vA b, vI x_, vI 0, vI 1, .unset, .unset] [])) _
    refine XS.iloadN X0.here hx rfl (hb hby d223) rfl ?_
    refine XS.i2b X0.here hx rfl (hb hby d224) rfl ?_
    refine XS.istore X0.here hx rfl (hb hby d225) rfl (l' := #[vA b, vI x_, vI 0, vI 1, .val (.int (x_.toInt8.toInt32)), .unset]) rfl ?_
    refine XS.iloadN X0.here hx rfl (hb hby d226) rfl ?_
    refine XS.istore X0.here hx rfl (hb hby d227) rfl (l' := #[vA b, vI x_, vI 0, vI 1, .val (.int (x_.toInt8.toInt32)), vI 0]) rfl ?_
    refine XS.iload X0.here hx rfl (hb hby d228) rfl ?_
    refine XS.iloadN X0.here hx rfl (hb hby d229) rfl ?_
    refine XS.icmpNo X0.here hx rfl (hb hby d230) rfl (tlt ((by decide) : (0 : Int32) < (1 : Int32))).2.1 ?_
    refine XS.aloadN X0.here hx rfl (hb hby d231) rfl rfl ?_
    refine XS.iload X0.here hx rfl (hb hby d232) rfl ?_
    refine X0.baloadBytes hx (j := (0 : Int32)) (v := (.int (oB c0))) (by rw [e0]; exact Ar2.1) (State.isArrayOf_alike hZ.alike Ar2.2.1) Ar2.2.2 hin2 hat2 (g := (mkF m 16 #[vA b, vI x_, vI 0, vI 1, .val (.int (x_.toInt8.toInt32)), vI 0] [(.int 0), (.ref b)])) rfl rfl (hb hby d233) _ ?_
    show Steps _ _ _ (s₁.setTop (mkF m 17 #[vA b, vI x_, vI 0, vI 1, .val (.int (x_.toInt8.toInt32)), vI 0] [(.int (oB c0))])) _
    refine XS.iload X0.here hx rfl (hb hby d234) rfl ?_
    refine XS.icmpYes X0.here hx rfl (pc0 := 19) (pc' := 25) rfl (hb hby d235) rfl (feq ((fun q => hn0 ((own_beq r0 hl0 hx0 hx1).mp q)) : ¬ ((oB c0) = (x_.toInt8.toInt32)))).2 (by decide) (by decide) ?_
    refine XS.iinc X0.here hx rfl (hb hby d238) rfl (l' := #[vA b, vI x_, vI 0, vI 1, .val (.int (x_.toInt8.toInt32)), vI 1]) rfl ?_
    refine XS.goto X0.here hx rfl (pc0 := 28) (pc' := 7) rfl (hb hby d239) (by decide) (by decide) ?_
    refine XS.iload X0.here hx rfl (hb hby d228) rfl ?_
    refine XS.iloadN X0.here hx rfl (hb hby d229) rfl ?_
    refine XS.icmpYes X0.here hx rfl (pc0 := 10) (pc' := 31) rfl (hb hby d230) rfl (flt ((by decide) : ¬ ((1 : Int32) < (1 : Int32)))).2.1 (by decide) (by decide) ?_
    refine XS.iconst X0.here hx rfl (hb hby d240) ?_
    exact retI X0 hx hret (hb hby d241) hr
theorem rm_ioc1 (l : Launch) (Z : State) (a0 : Array Value) (hw : HW Z a0) (ws : List Jvm.Cond) (c0 : Int32) (x_ : Int32) (b : Addr) (k : ClassId) (h0 : Heap) (n0 : Nat) (Z0 : n0 ≤ h0.size) (P0 : Arv Z h0 b k .byte (1 : Int32) [(.int (oB c0))] (.int 0)) (hx0 : ¬ (x_ < (0 : Int32))) (hx1 : ¬ ((255 : Int32) < x_)) (r0 : ¬ c0 < 0 ∧ ¬ (65535 : Int32) < c0) (hl0 : ¬ ((255 : Int32) < c0)) :
    MF l Z m_16 jdk_43_method_23_code 6 (some .int) ws (oR 0 0 0 0) #[(.ref b), (.int x_), (.int 0), (.int 1)] h0 (Q_ioc1 Z c0 x_ b k h0 n0) := by
  by_cases k0 : c0 = x_
  · exact rm_ioc1_0 l Z a0 hw ws c0 x_ b k h0 n0 Z0 P0 hx0 hx1 r0 hl0 k0
  exact rm_ioc1_1 l Z a0 hw ws c0 x_ b k h0 n0 Z0 P0 hx0 hx1 r0 hl0 k0
theorem d242 : decode jdk_43_method_22_code 0 = .ok (.iload_n 1, 1) := by decide +kernel
theorem w_60 {Z : State} {a0 : Array Value} (hw : HW Z a0) : (Jvm.Cond.methodLink "java/lang/StringLatin1" (88 : Nat) m_2).before a0 Z = true := hw _ (List.mem_of_getElem? (i := 60) rfl)
theorem w_62 {Z : State} {a0 : Array Value} (hw : HW Z a0) : (Jvm.Cond.code m_2 jdk_43_method_4_code (1 : Nat) (Option.some FieldType.boolean)).before a0 Z = true := hw _ (List.mem_of_getElem? (i := 62) rfl)
theorem w_58 {Z : State} {a0 : Array Value} (hw : HW Z a0) : (Jvm.Cond.initialized "java/lang/StringLatin1").before a0 Z = true := hw _ (List.mem_of_getElem? (i := 58) rfl)
theorem pd_8 : parseMethodDescriptor "(I)Z" = some ⟨[.int], some .boolean⟩ := by decide +kernel
theorem d243 : decode jdk_43_method_22_code 1 = .ok (.invokestatic 88, 3) := by decide +kernel
theorem w_61 {Z : State} {a0 : Array Value} (hw : HW Z a0) : (Jvm.Cond.static m_2).before a0 Z = true := hw _ (List.mem_of_getElem? (i := 61) rfl)
theorem d244 : decode jdk_43_method_22_code 4 = .ok (.ifCond .ne 5, 3) := by decide +kernel
theorem d245 : decode jdk_43_method_22_code 9 = .ok (.iload_n 2, 1) := by decide +kernel
theorem d246 : decode jdk_43_method_22_code 10 = .ok (.iconst 0, 1) := by decide +kernel
theorem w_63 {Z : State} {a0 : Array Value} (hw : HW Z a0) : (Jvm.Cond.methodLink "java/lang/StringLatin1" (92 : Nat) m_0).before a0 Z = true := hw _ (List.mem_of_getElem? (i := 63) rfl)
theorem w_66 {Z : State} {a0 : Array Value} (hw : HW Z a0) : (Jvm.Cond.code m_0 jdk_29_method_65_code (2 : Nat) (Option.some FieldType.int)).before a0 Z = true := hw _ (List.mem_of_getElem? (i := 66) rfl)
theorem w_65 {Z : State} {a0 : Array Value} (hw : HW Z a0) : (Jvm.Cond.initialized "java/lang/Math").before a0 Z = true := hw _ (List.mem_of_getElem? (i := 65) rfl)
theorem pd_9 : parseMethodDescriptor "(II)I" = some ⟨[.int, .int], some .int⟩ := by decide +kernel
theorem d247 : decode jdk_43_method_22_code 11 = .ok (.invokestatic 92, 3) := by decide +kernel
theorem w_64 {Z : State} {a0 : Array Value} (hw : HW Z a0) : (Jvm.Cond.static m_0).before a0 Z = true := hw _ (List.mem_of_getElem? (i := 64) rfl)
theorem d248 : decode jdk_43_method_22_code 14 = .ok (.istore_n 2, 1) := by decide +kernel
theorem d249 : decode jdk_43_method_22_code 15 = .ok (.iload_n 3, 1) := by decide +kernel
theorem d250 : decode jdk_43_method_22_code 16 = .ok (.aload_n 0, 1) := by decide +kernel
theorem d251 : decode jdk_43_method_22_code 17 = .ok (.arraylength, 1) := by decide +kernel
theorem w_67 {Z : State} {a0 : Array Value} (hw : HW Z a0) : (Jvm.Cond.methodLink "java/lang/StringLatin1" (38 : Nat) m_1).before a0 Z = true := hw _ (List.mem_of_getElem? (i := 67) rfl)
theorem w_69 {Z : State} {a0 : Array Value} (hw : HW Z a0) : (Jvm.Cond.code m_1 jdk_29_method_69_code (2 : Nat) (Option.some FieldType.int)).before a0 Z = true := hw _ (List.mem_of_getElem? (i := 69) rfl)
theorem d252 : decode jdk_43_method_22_code 18 = .ok (.invokestatic 38, 3) := by decide +kernel
theorem w_68 {Z : State} {a0 : Array Value} (hw : HW Z a0) : (Jvm.Cond.static m_1).before a0 Z = true := hw _ (List.mem_of_getElem? (i := 68) rfl)
theorem d253 : decode jdk_43_method_22_code 21 = .ok (.istore_n 3, 1) := by decide +kernel
theorem d254 : decode jdk_43_method_22_code 22 = .ok (.iload_n 2, 1) := by decide +kernel
theorem d255 : decode jdk_43_method_22_code 23 = .ok (.iload_n 3, 1) := by decide +kernel
theorem d256 : decode jdk_43_method_22_code 24 = .ok (.if_icmp .lt 5, 3) := by decide +kernel
theorem d257 : decode jdk_43_method_22_code 29 = .ok (.aload_n 0, 1) := by decide +kernel
theorem d258 : decode jdk_43_method_22_code 30 = .ok (.iload_n 1, 1) := by decide +kernel
theorem d259 : decode jdk_43_method_22_code 31 = .ok (.iload_n 2, 1) := by decide +kernel
theorem d260 : decode jdk_43_method_22_code 32 = .ok (.iload_n 3, 1) := by decide +kernel
theorem w_83 {Z : State} {a0 : Array Value} (hw : HW Z a0) : (Jvm.Cond.methodLink "java/lang/StringLatin1" (95 : Nat) m_16).before a0 Z = true := hw _ (List.mem_of_getElem? (i := 83) rfl)
theorem w_85 {Z : State} {a0 : Array Value} (hw : HW Z a0) : (Jvm.Cond.code m_16 jdk_43_method_23_code (6 : Nat) (Option.some FieldType.int)).before a0 Z = true := hw _ (List.mem_of_getElem? (i := 85) rfl)
theorem pd_10 : parseMethodDescriptor "([BIII)I" = some ⟨[(.array .byte), .int, .int, .int], some .int⟩ := by decide +kernel
theorem d261 : decode jdk_43_method_22_code 33 = .ok (.invokestatic 95, 3) := by decide +kernel
theorem w_84 {Z : State} {a0 : Array Value} (hw : HW Z a0) : (Jvm.Cond.static m_16).before a0 Z = true := hw _ (List.mem_of_getElem? (i := 84) rfl)
theorem d262 : decode jdk_43_method_22_code 36 = .ok (.ireturn, 1) := by decide +kernel
theorem ef_11 (m : MethodId) (x0 : Addr) (x1 : Int32) (x2 : Int32) (x3 : Int32) : entryFrame m #[(.ref x0), (.int x1), (.int x2), (.int x3)] 4 = mkF m 0 #[vA x0, vI x1, vI x2, vI x3] [] := by first | (simp [entryFrame, mkF, argsToLocals, Value.category, maxLocals]; done) | rfl
abbrev m_17 : MethodName := (⟨"java/lang/StringLatin1", "indexOf", "([BIII)I"⟩ : MethodName)
def Q_iol1 (Z : State) (c0 : Int32) (x_ : Int32) (b : Addr) (k : ClassId) (h0 : Heap) (n0 : Nat) (v : Option Value) (h : Heap) (L : List Loc) : Prop := ∃ (r : Int32), (v = some (.int r)) ∧ (Fr n0 L) ∧ (h = h0) ∧ ((r < (0 : Int32)) ↔ (¬ (c0 = x_)))
theorem rm_iol1 (l : Launch) (Z : State) (a0 : Array Value) (hw : HW Z a0) (ws : List Jvm.Cond) (c0 : Int32) (x_ : Int32) (b : Addr) (k : ClassId) (h0 : Heap) (n0 : Nat) (Z0 : n0 ≤ h0.size) (P0 : Arv Z h0 b k .byte (1 : Int32) [(.int (oB c0))] (.int 0)) (hx0 : ¬ (x_ < (0 : Int32))) (hx1 : ¬ ((255 : Int32) < x_)) (r0 : ¬ c0 < 0 ∧ ¬ (65535 : Int32) < c0) (hl0 : ¬ ((255 : Int32) < c0)) :
    MF l Z m_17 jdk_43_method_22_code 4 (some .int) ws (oR 1 0 0 17) #[(.ref b), (.int x_), (.int 0), (.int 1)] h0 (Q_iol1 Z c0 x_ b k h0 n0) := by
  refine own_body (cls := "java/lang/StringLatin1") (plainFor_of_name pn_2) rfl (fun p e s m below meth c s₁ hx hby hml hown hnm hret hZ X0 e0 => ?_)
  have N0 := Fr.nil n0
  have lt1 := own_l P0.lt
  obtain ⟨_, _, ⟨T2, L2, k2, n2⟩, -, X2, ⟨Lc2, hQ2, l2, y2, z2⟩, st2⟩ := Jvm.LawKit.callS X0 hx (y := m_2) hown (mvT hZ (w_60 hw)) (mvT hZ (w_61 hw)) (mvT hZ (w_58 hw)) (mvT hZ (w_62 hw)) (by decide) (backOf (W := 0) (rm_canI l Z a0 hw [] x_ h0 n0 (by omega) hx0 hx1) hZ (w_62 hw) (w_58 hw) (by decide) (by decide)) (g := (mkF m 1 #[vA b, vI x_, vI 0, vI 1] [(.int x_)])) rfl (by rw [hml]; rfl) (argsL := [(.int x_)]) (rest := []) (lenOf pd_8 rfl) rfl (Nat.le_of_eq rfl) (hb hby d243) (fun _ _ => ⟨rfl, e0, (by decide : 0 + 0 ≤ _), (by decide : 0 + 0 ≤ _)⟩)
  dsimp only [Pt.U, Pt.locs, Pt.cells, Pt.slots] at X2 l2 y2 z2 st2 hQ2
  rw [l2, y2, z2] at X2
  obtain ⟨rfl, Nq2, Kq2⟩ := hQ2
  have N2 := Fr.app N0 Nq2
  obtain ⟨_, _, ⟨T3, L3, k3, n3⟩, -, X3, ⟨Lc3, hQ3, l3, y3, z3⟩, st3⟩ := Jvm.LawKit.callS X2 hx (y := m_0) hown (mvT hZ (w_63 hw)) (mvT hZ (w_64 hw)) (mvT hZ (w_65 hw)) (mvT hZ (w_66 hw)) (by decide) (backOf (W := 0) (rm_max0 l Z a0 hw []  h0 n0 (by omega) ) hZ (w_66 hw) (w_65 hw) (by decide) (by decide)) (g := (mkF m 11 #[vA b, vI x_, vI 0, vI 1] [(.int 0), (.int 0)])) rfl (by rw [hml]; rfl) (argsL := [(.int 0), (.int 0)]) (rest := []) (lenOf pd_9 rfl) rfl (Nat.le_of_eq rfl) (hb hby d247) (fun _ _ => ⟨rfl, Kq2, (by decide : 0 + 0 ≤ _), (by decide : 0 + 0 ≤ _)⟩)
  dsimp only [Pt.U, Pt.locs, Pt.cells, Pt.slots] at X3 l3 y3 z3 st3 hQ3
  rw [l3, y3, z3] at X3
  obtain ⟨rfl, Nq3, Kq3⟩ := hQ3
  have N3 := Fr.app N2 Nq3
  obtain ⟨cl4, Ar4, q4, S4, M4, H4, G4⟩ := id P0
  obtain ⟨_, _, ⟨T5, L5, k5, n5⟩, -, X5, ⟨Lc5, hQ5, l5, y5, z5⟩, st5⟩ := Jvm.LawKit.callS X3 hx (y := m_1) hown (mvT hZ (w_67 hw)) (mvT hZ (w_68 hw)) (mvT hZ (w_65 hw)) (mvT hZ (w_69 hw)) (by decide) (backOf (W := 0) (rm_min1 l Z a0 hw []  h0 n0 (by omega) ) hZ (w_69 hw) (w_65 hw) (by decide) (by decide)) (g := (mkF m 18 #[vA b, vI x_, vI 0, vI 1] [(.int 1), (.int 1)])) rfl (by rw [hml]; rfl) (argsL := [(.int 1), (.int 1)]) (rest := []) (lenOf pd_9 rfl) rfl (Nat.le_of_eq rfl) (hb hby d252) (fun _ _ => ⟨rfl, Kq3, (by decide : 0 + 0 ≤ _), (by decide : 0 + 0 ≤ _)⟩)
  dsimp only [Pt.U, Pt.locs, Pt.cells, Pt.slots] at X5 l5 y5 z5 st5 hQ5
  rw [l5, y5, z5] at X5
  obtain ⟨rfl, Nq5, Kq5⟩ := hQ5
  have N5 := Fr.app N3 Nq5
  obtain ⟨_, _, ⟨T6, L6, k6, n6⟩, -, X6, ⟨Lc6, hQ6, l6, y6, z6⟩, st6⟩ := Jvm.LawKit.callS X5 hx (y := m_16) hown (mvT hZ (w_83 hw)) (mvT hZ (w_84 hw)) (mvT hZ (w_58 hw)) (mvT hZ (w_85 hw)) (by decide) (backOf (W := 0) (rm_ioc1 l Z a0 hw [] c0 x_ b k h0 n0 (by omega) P0 hx0 hx1 r0 hl0) hZ (w_85 hw) (w_58 hw) (by decide) (by decide)) (g := (mkF m 33 #[vA b, vI x_, vI 0, vI 1] [(.int 1), (.int 0), (.int x_), (.ref b)])) rfl (by rw [hml]; rfl) (argsL := [(.ref b), (.int x_), (.int 0), (.int 1)]) (rest := []) (lenOf pd_10 rfl) rfl (Nat.le_of_eq rfl) (hb hby d261) (fun _ _ => ⟨rfl, Kq5, (by decide : 0 + 0 ≤ _), (by decide : 0 + 0 ≤ _)⟩)
  dsimp only [Pt.U, Pt.locs, Pt.cells, Pt.slots] at X6 l6 y6 z6 st6 hQ6
  rw [l6, y6, z6] at X6
  obtain ⟨x6_r, rfl, Nq6, Kq6, r6_0⟩ := hQ6
  have N6 := Fr.app N5 Nq6
  refine ⟨_, _, _, _, some (.int x6_r), X6, by decide, by decide, nofun, ?_, fun fs hr => castTop (ef_11 m b x_ (0 : Int32) (1 : Int32)) ?_⟩
  · show Q_iol1 Z c0 x_ b k h0 n0 _ T6.heap _
    rw [(Kq6 : T6.heap = h0)]
    exact ⟨x6_r, rfl, N6, rfl, r6_0⟩
  · show Steps _ _ _ (s₁.setTop (mkF m 0 #[vA b, vI x_, vI 0, vI 1] [])) _
    refine XS.iloadN X0.here hx rfl (hb hby d242) rfl ?_
    refine st2 _ ?_
    show Steps _ _ _ (T2.setTop (mkF m 4 #[vA b, vI x_, vI 0, vI 1] [(.int 1)])) _
    refine XS.ifYes X2.here hx rfl (pc0 := 4) (pc' := 9) rfl (hb hby d244) rfl ((if0 _ _).trans (feq ((by decide) : ¬ ((1 : Int32) = (0 : Int32)))).2) (by decide) (by decide) ?_
    refine XS.iloadN X2.here hx rfl (hb hby d245) rfl ?_
    refine XS.iconst X2.here hx rfl (hb hby d246) ?_
    refine st3 _ ?_
    show Steps _ _ _ (T3.setTop (mkF m 14 #[vA b, vI x_, vI 0, vI 1] [(.int 0)])) _
    refine XS.istoreN X3.here hx rfl (hb hby d248) rfl (l' := #[vA b, vI x_, vI 0, vI 1]) rfl ?_
    refine XS.iloadN X3.here hx rfl (hb hby d249) rfl ?_
    refine XS.aloadN X3.here hx rfl (hb hby d250) rfl rfl ?_
    refine X3.arraylength hx (by rw [Kq3]; exact Ar4.1) (State.isArrayOf_alike hZ.alike Ar4.2.1) (g := (mkF m 17 #[vA b, vI x_, vI 0, vI 1] [(.ref b), (.int 1)])) rfl rfl (hb hby d251) _ ?_
    rw [len_of S4 M4]
    show Steps _ _ _ (T3.setTop (mkF m 18 #[vA b, vI x_, vI 0, vI 1] [(.int 1), (.int 1)])) _
    refine st5 _ ?_
    show Steps _ _ _ (T5.setTop (mkF m 21 #[vA b, vI x_, vI 0, vI 1] [(.int 1)])) _
    refine XS.istoreN X5.here hx rfl (hb hby d253) rfl (l' := #[vA b, vI x_, vI 0, vI 1]) rfl ?_
    refine XS.iloadN X5.here hx rfl (hb hby d254) rfl ?_
    refine XS.iloadN X5.here hx rfl (hb hby d255) rfl ?_
    refine XS.icmpYes X5.here hx rfl (pc0 := 24) (pc' := 29) rfl (hb hby d256) rfl (tlt ((by decide) : (0 : Int32) < (1 : Int32))).1 (by decide) (by decide) ?_
    refine XS.aloadN X5.here hx rfl (hb hby d257) rfl rfl ?_
    refine XS.iloadN X5.here hx rfl (hb hby d258) rfl ?_
    refine XS.iloadN X5.here hx rfl (hb hby d259) rfl ?_
    refine XS.iloadN X5.here hx rfl (hb hby d260) rfl ?_
    refine st6 _ ?_
    show Steps _ _ _ (T6.setTop (mkF m 36 #[vA b, vI x_, vI 0, vI 1] [(.int x6_r)])) _
    exact retI X6 hx hret (hb hby d262) hr
def Q_ioc2 (Z : State) (c0 : Int32) (c1 : Int32) (x_ : Int32) (b : Addr) (k : ClassId) (h0 : Heap) (n0 : Nat) (v : Option Value) (h : Heap) (L : List Loc) : Prop := ∃ (r : Int32), (v = some (.int r)) ∧ (Fr n0 L) ∧ (h = h0) ∧ ((r < (0 : Int32)) ↔ (¬ (c0 = x_) ∧ ¬ (c1 = x_)))
theorem rm_ioc2_0 (l : Launch) (Z : State) (a0 : Array Value) (hw : HW Z a0) (ws : List Jvm.Cond) (c0 : Int32) (c1 : Int32) (x_ : Int32) (b : Addr) (k : ClassId) (h0 : Heap) (n0 : Nat) (Z0 : n0 ≤ h0.size) (P0 : Arv Z h0 b k .byte (2 : Int32) [(.int (oB c0)), (.int (oB c1))] (.int 0)) (hx0 : ¬ (x_ < (0 : Int32))) (hx1 : ¬ ((255 : Int32) < x_)) (r0 : ¬ c0 < 0 ∧ ¬ (65535 : Int32) < c0) (r1 : ¬ c1 < 0 ∧ ¬ (65535 : Int32) < c1) (hl0 : ¬ ((255 : Int32) < c0)) (hl1 : ¬ ((255 : Int32) < c1)) (he : c0 = x_) :
    MF l Z m_16 jdk_43_method_23_code 6 (some .int) ws (oR 0 0 0 0) #[(.ref b), (.int x_), (.int 0), (.int 2)] h0 (Q_ioc2 Z c0 c1 x_ b k h0 n0) := by
  refine own_body (cls := "java/lang/StringLatin1") (plainFor_of_name pn_2) rfl (fun p e s m below meth c s₁ hx hby hml hown hnm hret hZ X0 e0 => ?_)
  have N0 := Fr.nil n0
  have lt1 := own_l P0.lt
  obtain ⟨cl2, Ar2, q2, S2, M2, H2, G2⟩ := id P0
  have hin2 : ¬ ((0 : Int32) < 0 ∨ cl2.slots.size ≤ ((0 : Int32)).toNatClampNeg) := inb_of S2 ⟨by decide, by decide⟩
  have hat2 : cl2.slots[((0 : Int32)).toNatClampNeg]? = some (.int (oB c0)) := Has.at H2 hin2 rfl
  refine ⟨_, _, _, _, some (.int 0), X0, by decide, by decide, nofun, ?_, fun fs hr => castTop (ef_10 m b x_ (0 : Int32) (2 : Int32)) ?_⟩
  · show Q_ioc2 Z c0 c1 x_ b k h0 n0 _ s₁.heap _
    rw [(e0 : s₁.heap = h0)]
    exact ⟨(0 : Int32), rfl, N0, rfl, (iff_of_false (by decide) (fun q => q.1 he))⟩
  · show Steps _ _ _ (s₁.setTop (mkF m 0 #[vA b, vI x_, vI 0, vI 2, .unset, .unset] [])) _
    refine XS.iloadN X0.here hx rfl (hb hby d223) rfl ?_
    refine XS.i2b X0.here hx rfl (hb hby d224) rfl ?_
    refine XS.istore X0.here hx rfl (hb hby d225) rfl (l' := #[vA b, vI x_, vI 0, vI 2, .val (.int (x_.toInt8.toInt32)), .unset]) rfl ?_
    refine XS.iloadN X0.here hx rfl (hb hby d226) rfl ?_
    refine XS.istore X0.here hx rfl (hb hby d227) rfl (l' := #[vA b, vI x_, vI 0, vI 2, .val (.int (x_.toInt8.toInt32)), vI 0]) rfl ?_
    refine XS.iload X0.here hx rfl (hb hby d228) rfl ?_
    refine XS.iloadN X0.here hx rfl (hb hby d229) rfl ?_
    refine XS.icmpNo X0.here hx rfl (hb hby d230) rfl (tlt ((by decide) : (0 : Int32) < (2 : Int32))).2.1 ?_
    refine XS.aloadN X0.here hx rfl (hb hby d231) rfl rfl ?_
    refine XS.iload X0.here hx rfl (hb hby d232) rfl ?_
    refine X0.baloadBytes hx (j := (0 : Int32)) (v := (.int (oB c0))) (by rw [e0]; exact Ar2.1) (State.isArrayOf_alike hZ.alike Ar2.2.1) Ar2.2.2 hin2 hat2 (g := (mkF m 16 #[vA b, vI x_, vI 0, vI 2, .val (.int (x_.toInt8.toInt32)), vI 0] [(.int 0), (.ref b)])) rfl rfl (hb hby d233) _ ?_
    show Steps _ _ _ (s₁.setTop (mkF m 17 #[vA b, vI x_, vI 0, vI 2, .val (.int (x_.toInt8.toInt32)), vI 0] [(.int (oB c0))])) _
    refine XS.iload X0.here hx rfl (hb hby d234) rfl ?_
    refine XS.icmpNo X0.here hx rfl (hb hby d235) rfl (teq (((own_beq r0 hl0 hx0 hx1).mpr he) : (oB c0) = (x_.toInt8.toInt32))).2 ?_
    refine XS.iload X0.here hx rfl (hb hby d236) rfl ?_
    exact retI X0 hx hret (hb hby d237) hr
theorem rm_ioc2_1 (l : Launch) (Z : State) (a0 : Array Value) (hw : HW Z a0) (ws : List Jvm.Cond) (c0 : Int32) (c1 : Int32) (x_ : Int32) (b : Addr) (k : ClassId) (h0 : Heap) (n0 : Nat) (Z0 : n0 ≤ h0.size) (P0 : Arv Z h0 b k .byte (2 : Int32) [(.int (oB c0)), (.int (oB c1))] (.int 0)) (hx0 : ¬ (x_ < (0 : Int32))) (hx1 : ¬ ((255 : Int32) < x_)) (r0 : ¬ c0 < 0 ∧ ¬ (65535 : Int32) < c0) (r1 : ¬ c1 < 0 ∧ ¬ (65535 : Int32) < c1) (hl0 : ¬ ((255 : Int32) < c0)) (hl1 : ¬ ((255 : Int32) < c1)) (hn0 : ¬ (c0 = x_)) (he : c1 = x_) :
    MF l Z m_16 jdk_43_method_23_code 6 (some .int) ws (oR 0 0 0 0) #[(.ref b), (.int x_), (.int 0), (.int 2)] h0 (Q_ioc2 Z c0 c1 x_ b k h0 n0) := by
  refine own_body (cls := "java/lang/StringLatin1") (plainFor_of_name pn_2) rfl (fun p e s m below meth c s₁ hx hby hml hown hnm hret hZ X0 e0 => ?_)
  have N0 := Fr.nil n0
  have lt1 := own_l P0.lt
  obtain ⟨cl2, Ar2, q2, S2, M2, H2, G2⟩ := id P0
  have hin2 : ¬ ((0 : Int32) < 0 ∨ cl2.slots.size ≤ ((0 : Int32)).toNatClampNeg) := inb_of S2 ⟨by decide, by decide⟩
  have hat2 : cl2.slots[((0 : Int32)).toNatClampNeg]? = some (.int (oB c0)) := Has.at H2 hin2 rfl
  obtain ⟨cl3, Ar3, q3, S3, M3, H3, G3⟩ := id P0
  have hin3 : ¬ ((1 : Int32) < 0 ∨ cl3.slots.size ≤ ((1 : Int32)).toNatClampNeg) := inb_of S3 ⟨by decide, by decide⟩
  have hat3 : cl3.slots[((1 : Int32)).toNatClampNeg]? = some (.int (oB c1)) := Has.at H3 hin3 rfl
  refine ⟨_, _, _, _, some (.int 1), X0, by decide, by decide, nofun, ?_, fun fs hr => castTop (ef_10 m b x_ (0 : Int32) (2 : Int32)) ?_⟩
  · show Q_ioc2 Z c0 c1 x_ b k h0 n0 _ s₁.heap _
    rw [(e0 : s₁.heap = h0)]
    exact ⟨(1 : Int32), rfl, N0, rfl, (iff_of_false (by decide) (fun q => q.2 he))⟩
  · show Steps _ _ _ (s₁.setTop (mkF m 0 #[vA b, vI x_, vI 0, vI 2, .unset, .unset] [])) _
    refine XS.iloadN X0.here hx rfl (hb hby d223) rfl ?_
    refine XS.i2b X0.here hx rfl (hb hby d224) rfl ?_
    refine XS.istore X0.here hx rfl (hb hby d225) rfl (l' := #[vA b, vI x_, vI 0, vI 2, .val (.int (x_.toInt8.toInt32)), .unset]) rfl ?_
    refine XS.iloadN X0.here hx rfl (hb hby d226) rfl ?_
    refine XS.istore X0.here hx rfl (hb hby d227) rfl (l' := #[vA b, vI x_, vI 0, vI 2, .val (.int (x_.toInt8.toInt32)), vI 0]) rfl ?_
    refine XS.iload X0.here hx rfl (hb hby d228) rfl ?_
    refine XS.iloadN X0.here hx rfl (hb hby d229) rfl ?_
    refine XS.icmpNo X0.here hx rfl (hb hby d230) rfl (tlt ((by decide) : (0 : Int32) < (2 : Int32))).2.1 ?_
    refine XS.aloadN X0.here hx rfl (hb hby d231) rfl rfl ?_
    refine XS.iload X0.here hx rfl (hb hby d232) rfl ?_
    refine X0.baloadBytes hx (j := (0 : Int32)) (v := (.int (oB c0))) (by rw [e0]; exact Ar2.1) (State.isArrayOf_alike hZ.alike Ar2.2.1) Ar2.2.2 hin2 hat2 (g := (mkF m 16 #[vA b, vI x_, vI 0, vI 2, .val (.int (x_.toInt8.toInt32)), vI 0] [(.int 0), (.ref b)])) rfl rfl (hb hby d233) _ ?_
    show Steps _ _ _ (s₁.setTop (mkF m 17 #[vA b, vI x_, vI 0, vI 2, .val (.int (x_.toInt8.toInt32)), vI 0] [(.int (oB c0))])) _
    refine XS.iload X0.here hx rfl (hb hby d234) rfl ?_
    refine XS.icmpYes X0.here hx rfl (pc0 := 19) (pc' := 25) rfl (hb hby d235) rfl (feq ((fun q => hn0 ((own_beq r0 hl0 hx0 hx1).mp q)) : ¬ ((oB c0) = (x_.toInt8.toInt32)))).2 (by decide) (by decide) ?_
    refine XS.iinc X0.here hx rfl (hb hby d238) rfl (l' := #[vA b, vI x_, vI 0, vI 2, .val (.int (x_.toInt8.toInt32)), vI 1]) rfl ?_
    refine XS.goto X0.here hx rfl (pc0 := 28) (pc' := 7) rfl (hb hby d239) (by decide) (by decide) ?_
    refine XS.iload X0.here hx rfl (hb hby d228) rfl ?_
    refine XS.iloadN X0.here hx rfl (hb hby d229) rfl ?_
    refine XS.icmpNo X0.here hx rfl (hb hby d230) rfl (tlt ((by decide) : (1 : Int32) < (2 : Int32))).2.1 ?_
    refine XS.aloadN X0.here hx rfl (hb hby d231) rfl rfl ?_
    refine XS.iload X0.here hx rfl (hb hby d232) rfl ?_
    refine X0.baloadBytes hx (j := (1 : Int32)) (v := (.int (oB c1))) (by rw [e0]; exact Ar3.1) (State.isArrayOf_alike hZ.alike Ar3.2.1) Ar3.2.2 hin3 hat3 (g := (mkF m 16 #[vA b, vI x_, vI 0, vI 2, .val (.int (x_.toInt8.toInt32)), vI 1] [(.int 1), (.ref b)])) rfl rfl (hb hby d233) _ ?_
    show Steps _ _ _ (s₁.setTop (mkF m 17 #[vA b, vI x_, vI 0, vI 2, .val (.int (x_.toInt8.toInt32)), vI 1] [(.int (oB c1))])) _
    refine XS.iload X0.here hx rfl (hb hby d234) rfl ?_
    refine XS.icmpNo X0.here hx rfl (hb hby d235) rfl (teq (((own_beq r1 hl1 hx0 hx1).mpr he) : (oB c1) = (x_.toInt8.toInt32))).2 ?_
    refine XS.iload X0.here hx rfl (hb hby d236) rfl ?_
    exact retI X0 hx hret (hb hby d237) hr
theorem rm_ioc2_2 (l : Launch) (Z : State) (a0 : Array Value) (hw : HW Z a0) (ws : List Jvm.Cond) (c0 : Int32) (c1 : Int32) (x_ : Int32) (b : Addr) (k : ClassId) (h0 : Heap) (n0 : Nat) (Z0 : n0 ≤ h0.size) (P0 : Arv Z h0 b k .byte (2 : Int32) [(.int (oB c0)), (.int (oB c1))] (.int 0)) (hx0 : ¬ (x_ < (0 : Int32))) (hx1 : ¬ ((255 : Int32) < x_)) (r0 : ¬ c0 < 0 ∧ ¬ (65535 : Int32) < c0) (r1 : ¬ c1 < 0 ∧ ¬ (65535 : Int32) < c1) (hl0 : ¬ ((255 : Int32) < c0)) (hl1 : ¬ ((255 : Int32) < c1)) (hn0 : ¬ (c0 = x_)) (hn1 : ¬ (c1 = x_)) :
    MF l Z m_16 jdk_43_method_23_code 6 (some .int) ws (oR 0 0 0 0) #[(.ref b), (.int x_), (.int 0), (.int 2)] h0 (Q_ioc2 Z c0 c1 x_ b k h0 n0) := by
  refine own_body (cls := "java/lang/StringLatin1") (plainFor_of_name pn_2) rfl (fun p e s m below meth c s₁ hx hby hml hown hnm hret hZ X0 e0 => ?_)
  have N0 := Fr.nil n0
  have lt1 := own_l P0.lt
  obtain ⟨cl2, Ar2, q2, S2, M2, H2, G2⟩ := id P0
  have hin2 : ¬ ((0 : Int32) < 0 ∨ cl2.slots.size ≤ ((0 : Int32)).toNatClampNeg) := inb_of S2 ⟨by decide, by decide⟩
  have hat2 : cl2.slots[((0 : Int32)).toNatClampNeg]? = some (.int (oB c0)) := Has.at H2 hin2 rfl
  obtain ⟨cl3, Ar3, q3, S3, M3, H3, G3⟩ := id P0
  have hin3 : ¬ ((1 : Int32) < 0 ∨ cl3.slots.size ≤ ((1 : Int32)).toNatClampNeg) := inb_of S3 ⟨by decide, by decide⟩
  have hat3 : cl3.slots[((1 : Int32)).toNatClampNeg]? = some (.int (oB c1)) := Has.at H3 hin3 rfl
  refine ⟨_, _, _, _, some (.int (-1)), X0, by decide, by decide, nofun, ?_, fun fs hr => castTop (ef_10 m b x_ (0 : Int32) (2 : Int32)) ?_⟩
  · show Q_ioc2 Z c0 c1 x_ b k h0 n0 _ s₁.heap _
    rw [(e0 : s₁.heap = h0)]
    exact ⟨(-1 : Int32), rfl, N0, rfl, (iff_of_true (by decide) ⟨hn0, hn1⟩)⟩
  · show Steps _ _ _ (s₁.setTop (mkF m 0 #[vA b, vI x_, vI 0, vI 2, .unset, .unset] [])) _
    refine XS.iloadN X0.here hx rfl (hb hby d223) rfl ?_
    refine XS.i2b X0.here hx rfl (hb hby d224) rfl ?_
    refine XS.istore X0.here hx rfl (hb hby d225) rfl (l' := #[vA b, vI x_, vI 0, vI 2, .val (.int (x_.toInt8.toInt32)), .unset]) rfl ?_
    refine XS.iloadN X0.here hx rfl (hb hby d226) rfl ?_
    refine XS.istore X0.here hx rfl (hb hby d227) rfl (l' := #[vA b, vI x_, vI 0, vI 2, .val (.int (x_.toInt8.toInt32)), vI 0]) rfl ?_
    refine XS.iload X0.here hx rfl (hb hby d228) rfl ?_
    refine XS.iloadN X0.here hx rfl (hb hby d229) rfl ?_
    refine XS.icmpNo X0.here hx rfl (hb hby d230) rfl (tlt ((by decide) : (0 : Int32) < (2 : Int32))).2.1 ?_
    refine XS.aloadN X0.here hx rfl (hb hby d231) rfl rfl ?_
    refine XS.iload X0.here hx rfl (hb hby d232) rfl ?_
    refine X0.baloadBytes hx (j := (0 : Int32)) (v := (.int (oB c0))) (by rw [e0]; exact Ar2.1) (State.isArrayOf_alike hZ.alike Ar2.2.1) Ar2.2.2 hin2 hat2 (g := (mkF m 16 #[vA b, vI x_, vI 0, vI 2, .val (.int (x_.toInt8.toInt32)), vI 0] [(.int 0), (.ref b)])) rfl rfl (hb hby d233) _ ?_
    show Steps _ _ _ (s₁.setTop (mkF m 17 #[vA b, vI x_, vI 0, vI 2, .val (.int (x_.toInt8.toInt32)), vI 0] [(.int (oB c0))])) _
    refine XS.iload X0.here hx rfl (hb hby d234) rfl ?_
    refine XS.icmpYes X0.here hx rfl (pc0 := 19) (pc' := 25) rfl (hb hby d235) rfl (feq ((fun q => hn0 ((own_beq r0 hl0 hx0 hx1).mp q)) : ¬ ((oB c0) = (x_.toInt8.toInt32)))).2 (by decide) (by decide) ?_
    refine XS.iinc X0.here hx rfl (hb hby d238) rfl (l' := #[vA b, vI x_, vI 0, vI 2, .val (.int (x_.toInt8.toInt32)), vI 1]) rfl ?_
    refine XS.goto X0.here hx rfl (pc0 := 28) (pc' := 7) rfl (hb hby d239) (by decide) (by decide) ?_
    refine XS.iload X0.here hx rfl (hb hby d228) rfl ?_
    refine XS.iloadN X0.here hx rfl (hb hby d229) rfl ?_
    refine XS.icmpNo X0.here hx rfl (hb hby d230) rfl (tlt ((by decide) : (1 : Int32) < (2 : Int32))).2.1 ?_
    refine XS.aloadN X0.here hx rfl (hb hby d231) rfl rfl ?_
    refine XS.iload X0.here hx rfl (hb hby d232) rfl ?_
    refine X0.baloadBytes hx (j := (1 : Int32)) (v := (.int (oB c1))) (by rw [e0]; exact Ar3.1) (State.isArrayOf_alike hZ.alike Ar3.2.1) Ar3.2.2 hin3 hat3 (g := (mkF m 16 #[vA b, vI x_, vI 0, vI 2, .val (.int (x_.toInt8.toInt32)), vI 1] [(.int 1), (.ref b)])) rfl rfl (hb hby d233) _ ?_
    show Steps _ _ _ (s₁.setTop (mkF m 17 #[vA b, vI x_, vI 0, vI 2, .val (.int (x_.toInt8.toInt32)), vI 1] [(.int (oB c1))])) _
    refine XS.iload X0.here hx rfl (hb hby d234) rfl ?_
    refine XS.icmpYes X0.here hx rfl (pc0 := 19) (pc' := 25) rfl (hb hby d235) rfl (feq ((fun q => hn1 ((own_beq r1 hl1 hx0 hx1).mp q)) : ¬ ((oB c1) = (x_.toInt8.toInt32)))).2 (by decide) (by decide) ?_
    refine XS.iinc X0.here hx rfl (hb hby d238) rfl (l' := #[vA b, vI x_, vI 0, vI 2, .val (.int (x_.toInt8.toInt32)), vI 2]) rfl ?_
    refine XS.goto X0.here hx rfl (pc0 := 28) (pc' := 7) rfl (hb hby d239) (by decide) (by decide) ?_
    refine XS.iload X0.here hx rfl (hb hby d228) rfl ?_
    refine XS.iloadN X0.here hx rfl (hb hby d229) rfl ?_
    refine XS.icmpYes X0.here hx rfl (pc0 := 10) (pc' := 31) rfl (hb hby d230) rfl (flt ((by decide) : ¬ ((2 : Int32) < (2 : Int32)))).2.1 (by decide) (by decide) ?_
    refine XS.iconst X0.here hx rfl (hb hby d240) ?_
    exact retI X0 hx hret (hb hby d241) hr
theorem rm_ioc2 (l : Launch) (Z : State) (a0 : Array Value) (hw : HW Z a0) (ws : List Jvm.Cond) (c0 : Int32) (c1 : Int32) (x_ : Int32) (b : Addr) (k : ClassId) (h0 : Heap) (n0 : Nat) (Z0 : n0 ≤ h0.size) (P0 : Arv Z h0 b k .byte (2 : Int32) [(.int (oB c0)), (.int (oB c1))] (.int 0)) (hx0 : ¬ (x_ < (0 : Int32))) (hx1 : ¬ ((255 : Int32) < x_)) (r0 : ¬ c0 < 0 ∧ ¬ (65535 : Int32) < c0) (r1 : ¬ c1 < 0 ∧ ¬ (65535 : Int32) < c1) (hl0 : ¬ ((255 : Int32) < c0)) (hl1 : ¬ ((255 : Int32) < c1)) :
    MF l Z m_16 jdk_43_method_23_code 6 (some .int) ws (oR 0 0 0 0) #[(.ref b), (.int x_), (.int 0), (.int 2)] h0 (Q_ioc2 Z c0 c1 x_ b k h0 n0) := by
  by_cases k0 : c0 = x_
  · exact rm_ioc2_0 l Z a0 hw ws c0 c1 x_ b k h0 n0 Z0 P0 hx0 hx1 r0 r1 hl0 hl1 k0
  by_cases k1 : c1 = x_
  · exact rm_ioc2_1 l Z a0 hw ws c0 c1 x_ b k h0 n0 Z0 P0 hx0 hx1 r0 r1 hl0 hl1 k0 k1
  exact rm_ioc2_2 l Z a0 hw ws c0 c1 x_ b k h0 n0 Z0 P0 hx0 hx1 r0 r1 hl0 hl1 k0 k1
def Q_iol2 (Z : State) (c0 : Int32) (c1 : Int32) (x_ : Int32) (b : Addr) (k : ClassId) (h0 : Heap) (n0 : Nat) (v : Option Value) (h : Heap) (L : List Loc) : Prop := ∃ (r : Int32), (v = some (.int r)) ∧ (Fr n0 L) ∧ (h = h0) ∧ ((r < (0 : Int32)) ↔ (¬ (c0 = x_) ∧ ¬ (c1 = x_)))
theorem rm_iol2 (l : Launch) (Z : State) (a0 : Array Value) (hw : HW Z a0) (ws : List Jvm.Cond) (c0 : Int32) (c1 : Int32) (x_ : Int32) (b : Addr) (k : ClassId) (h0 : Heap) (n0 : Nat) (Z0 : n0 ≤ h0.size) (P0 : Arv Z h0 b k .byte (2 : Int32) [(.int (oB c0)), (.int (oB c1))] (.int 0)) (hx0 : ¬ (x_ < (0 : Int32))) (hx1 : ¬ ((255 : Int32) < x_)) (r0 : ¬ c0 < 0 ∧ ¬ (65535 : Int32) < c0) (r1 : ¬ c1 < 0 ∧ ¬ (65535 : Int32) < c1) (hl0 : ¬ ((255 : Int32) < c0)) (hl1 : ¬ ((255 : Int32) < c1)) :
    MF l Z m_17 jdk_43_method_22_code 4 (some .int) ws (oR 1 0 0 17) #[(.ref b), (.int x_), (.int 0), (.int 2)] h0 (Q_iol2 Z c0 c1 x_ b k h0 n0) := by
  refine own_body (cls := "java/lang/StringLatin1") (plainFor_of_name pn_2) rfl (fun p e s m below meth c s₁ hx hby hml hown hnm hret hZ X0 e0 => ?_)
  have N0 := Fr.nil n0
  have lt1 := own_l P0.lt
  obtain ⟨_, _, ⟨T2, L2, k2, n2⟩, -, X2, ⟨Lc2, hQ2, l2, y2, z2⟩, st2⟩ := Jvm.LawKit.callS X0 hx (y := m_2) hown (mvT hZ (w_60 hw)) (mvT hZ (w_61 hw)) (mvT hZ (w_58 hw)) (mvT hZ (w_62 hw)) (by decide) (backOf (W := 0) (rm_canI l Z a0 hw [] x_ h0 n0 (by omega) hx0 hx1) hZ (w_62 hw) (w_58 hw) (by decide) (by decide)) (g := (mkF m 1 #[vA b, vI x_, vI 0, vI 2] [(.int x_)])) rfl (by rw [hml]; rfl) (argsL := [(.int x_)]) (rest := []) (lenOf pd_8 rfl) rfl (Nat.le_of_eq rfl) (hb hby d243) (fun _ _ => ⟨rfl, e0, (by decide : 0 + 0 ≤ _), (by decide : 0 + 0 ≤ _)⟩)
  dsimp only [Pt.U, Pt.locs, Pt.cells, Pt.slots] at X2 l2 y2 z2 st2 hQ2
  rw [l2, y2, z2] at X2
  obtain ⟨rfl, Nq2, Kq2⟩ := hQ2
  have N2 := Fr.app N0 Nq2
  obtain ⟨_, _, ⟨T3, L3, k3, n3⟩, -, X3, ⟨Lc3, hQ3, l3, y3, z3⟩, st3⟩ := Jvm.LawKit.callS X2 hx (y := m_0) hown (mvT hZ (w_63 hw)) (mvT hZ (w_64 hw)) (mvT hZ (w_65 hw)) (mvT hZ (w_66 hw)) (by decide) (backOf (W := 0) (rm_max0 l Z a0 hw []  h0 n0 (by omega) ) hZ (w_66 hw) (w_65 hw) (by decide) (by decide)) (g := (mkF m 11 #[vA b, vI x_, vI 0, vI 2] [(.int 0), (.int 0)])) rfl (by rw [hml]; rfl) (argsL := [(.int 0), (.int 0)]) (rest := []) (lenOf pd_9 rfl) rfl (Nat.le_of_eq rfl) (hb hby d247) (fun _ _ => ⟨rfl, Kq2, (by decide : 0 + 0 ≤ _), (by decide : 0 + 0 ≤ _)⟩)
  dsimp only [Pt.U, Pt.locs, Pt.cells, Pt.slots] at X3 l3 y3 z3 st3 hQ3
  rw [l3, y3, z3] at X3
  obtain ⟨rfl, Nq3, Kq3⟩ := hQ3
  have N3 := Fr.app N2 Nq3
  obtain ⟨cl4, Ar4, q4, S4, M4, H4, G4⟩ := id P0
  obtain ⟨_, _, ⟨T5, L5, k5, n5⟩, -, X5, ⟨Lc5, hQ5, l5, y5, z5⟩, st5⟩ := Jvm.LawKit.callS X3 hx (y := m_1) hown (mvT hZ (w_67 hw)) (mvT hZ (w_68 hw)) (mvT hZ (w_65 hw)) (mvT hZ (w_69 hw)) (by decide) (backOf (W := 0) (rm_min2 l Z a0 hw []  h0 n0 (by omega) ) hZ (w_69 hw) (w_65 hw) (by decide) (by decide)) (g := (mkF m 18 #[vA b, vI x_, vI 0, vI 2] [(.int 2), (.int 2)])) rfl (by rw [hml]; rfl) (argsL := [(.int 2), (.int 2)]) (rest := []) (lenOf pd_9 rfl) rfl (Nat.le_of_eq rfl) (hb hby d252) (fun _ _ => ⟨rfl, Kq3, (by decide : 0 + 0 ≤ _), (by decide : 0 + 0 ≤ _)⟩)
  dsimp only [Pt.U, Pt.locs, Pt.cells, Pt.slots] at X5 l5 y5 z5 st5 hQ5
  rw [l5, y5, z5] at X5
  obtain ⟨rfl, Nq5, Kq5⟩ := hQ5
  have N5 := Fr.app N3 Nq5
  obtain ⟨_, _, ⟨T6, L6, k6, n6⟩, -, X6, ⟨Lc6, hQ6, l6, y6, z6⟩, st6⟩ := Jvm.LawKit.callS X5 hx (y := m_16) hown (mvT hZ (w_83 hw)) (mvT hZ (w_84 hw)) (mvT hZ (w_58 hw)) (mvT hZ (w_85 hw)) (by decide) (backOf (W := 0) (rm_ioc2 l Z a0 hw [] c0 c1 x_ b k h0 n0 (by omega) P0 hx0 hx1 r0 r1 hl0 hl1) hZ (w_85 hw) (w_58 hw) (by decide) (by decide)) (g := (mkF m 33 #[vA b, vI x_, vI 0, vI 2] [(.int 2), (.int 0), (.int x_), (.ref b)])) rfl (by rw [hml]; rfl) (argsL := [(.ref b), (.int x_), (.int 0), (.int 2)]) (rest := []) (lenOf pd_10 rfl) rfl (Nat.le_of_eq rfl) (hb hby d261) (fun _ _ => ⟨rfl, Kq5, (by decide : 0 + 0 ≤ _), (by decide : 0 + 0 ≤ _)⟩)
  dsimp only [Pt.U, Pt.locs, Pt.cells, Pt.slots] at X6 l6 y6 z6 st6 hQ6
  rw [l6, y6, z6] at X6
  obtain ⟨x6_r, rfl, Nq6, Kq6, r6_0⟩ := hQ6
  have N6 := Fr.app N5 Nq6
  refine ⟨_, _, _, _, some (.int x6_r), X6, by decide, by decide, nofun, ?_, fun fs hr => castTop (ef_11 m b x_ (0 : Int32) (2 : Int32)) ?_⟩
  · show Q_iol2 Z c0 c1 x_ b k h0 n0 _ T6.heap _
    rw [(Kq6 : T6.heap = h0)]
    exact ⟨x6_r, rfl, N6, rfl, r6_0⟩
  · show Steps _ _ _ (s₁.setTop (mkF m 0 #[vA b, vI x_, vI 0, vI 2] [])) _
    refine XS.iloadN X0.here hx rfl (hb hby d242) rfl ?_
    refine st2 _ ?_
    show Steps _ _ _ (T2.setTop (mkF m 4 #[vA b, vI x_, vI 0, vI 2] [(.int 1)])) _
    refine XS.ifYes X2.here hx rfl (pc0 := 4) (pc' := 9) rfl (hb hby d244) rfl ((if0 _ _).trans (feq ((by decide) : ¬ ((1 : Int32) = (0 : Int32)))).2) (by decide) (by decide) ?_
    refine XS.iloadN X2.here hx rfl (hb hby d245) rfl ?_
    refine XS.iconst X2.here hx rfl (hb hby d246) ?_
    refine st3 _ ?_
    show Steps _ _ _ (T3.setTop (mkF m 14 #[vA b, vI x_, vI 0, vI 2] [(.int 0)])) _
    refine XS.istoreN X3.here hx rfl (hb hby d248) rfl (l' := #[vA b, vI x_, vI 0, vI 2]) rfl ?_
    refine XS.iloadN X3.here hx rfl (hb hby d249) rfl ?_
    refine XS.aloadN X3.here hx rfl (hb hby d250) rfl rfl ?_
    refine X3.arraylength hx (by rw [Kq3]; exact Ar4.1) (State.isArrayOf_alike hZ.alike Ar4.2.1) (g := (mkF m 17 #[vA b, vI x_, vI 0, vI 2] [(.ref b), (.int 2)])) rfl rfl (hb hby d251) _ ?_
    rw [len_of S4 M4]
    show Steps _ _ _ (T3.setTop (mkF m 18 #[vA b, vI x_, vI 0, vI 2] [(.int 2), (.int 2)])) _
    refine st5 _ ?_
    show Steps _ _ _ (T5.setTop (mkF m 21 #[vA b, vI x_, vI 0, vI 2] [(.int 2)])) _
    refine XS.istoreN X5.here hx rfl (hb hby d253) rfl (l' := #[vA b, vI x_, vI 0, vI 2]) rfl ?_
    refine XS.iloadN X5.here hx rfl (hb hby d254) rfl ?_
    refine XS.iloadN X5.here hx rfl (hb hby d255) rfl ?_
    refine XS.icmpYes X5.here hx rfl (pc0 := 24) (pc' := 29) rfl (hb hby d256) rfl (tlt ((by decide) : (0 : Int32) < (2 : Int32))).1 (by decide) (by decide) ?_
    refine XS.aloadN X5.here hx rfl (hb hby d257) rfl rfl ?_
    refine XS.iloadN X5.here hx rfl (hb hby d258) rfl ?_
    refine XS.iloadN X5.here hx rfl (hb hby d259) rfl ?_
    refine XS.iloadN X5.here hx rfl (hb hby d260) rfl ?_
    refine st6 _ ?_
    show Steps _ _ _ (T6.setTop (mkF m 36 #[vA b, vI x_, vI 0, vI 2] [(.int x6_r)])) _
    exact retI X6 hx hret (hb hby d262) hr
def Q_ioc3 (Z : State) (c0 : Int32) (c1 : Int32) (c2 : Int32) (x_ : Int32) (b : Addr) (k : ClassId) (h0 : Heap) (n0 : Nat) (v : Option Value) (h : Heap) (L : List Loc) : Prop := ∃ (r : Int32), (v = some (.int r)) ∧ (Fr n0 L) ∧ (h = h0) ∧ ((r < (0 : Int32)) ↔ (¬ (c0 = x_) ∧ ¬ (c1 = x_) ∧ ¬ (c2 = x_)))
theorem rm_ioc3_0 (l : Launch) (Z : State) (a0 : Array Value) (hw : HW Z a0) (ws : List Jvm.Cond) (c0 : Int32) (c1 : Int32) (c2 : Int32) (x_ : Int32) (b : Addr) (k : ClassId) (h0 : Heap) (n0 : Nat) (Z0 : n0 ≤ h0.size) (P0 : Arv Z h0 b k .byte (3 : Int32) [(.int (oB c0)), (.int (oB c1)), (.int (oB c2))] (.int 0)) (hx0 : ¬ (x_ < (0 : Int32))) (hx1 : ¬ ((255 : Int32) < x_)) (r0 : ¬ c0 < 0 ∧ ¬ (65535 : Int32) < c0) (r1 : ¬ c1 < 0 ∧ ¬ (65535 : Int32) < c1) (r2 : ¬ c2 < 0 ∧ ¬ (65535 : Int32) < c2) (hl0 : ¬ ((255 : Int32) < c0)) (hl1 : ¬ ((255 : Int32) < c1)) (hl2 : ¬ ((255 : Int32) < c2)) (he : c0 = x_) :
    MF l Z m_16 jdk_43_method_23_code 6 (some .int) ws (oR 0 0 0 0) #[(.ref b), (.int x_), (.int 0), (.int 3)] h0 (Q_ioc3 Z c0 c1 c2 x_ b k h0 n0) := by
  refine own_body (cls := "java/lang/StringLatin1") (plainFor_of_name pn_2) rfl (fun p e s m below meth c s₁ hx hby hml hown hnm hret hZ X0 e0 => ?_)
  have N0 := Fr.nil n0
  have lt1 := own_l P0.lt
  obtain ⟨cl2, Ar2, q2, S2, M2, H2, G2⟩ := id P0
  have hin2 : ¬ ((0 : Int32) < 0 ∨ cl2.slots.size ≤ ((0 : Int32)).toNatClampNeg) := inb_of S2 ⟨by decide, by decide⟩
  have hat2 : cl2.slots[((0 : Int32)).toNatClampNeg]? = some (.int (oB c0)) := Has.at H2 hin2 rfl
  refine ⟨_, _, _, _, some (.int 0), X0, by decide, by decide, nofun, ?_, fun fs hr => castTop (ef_10 m b x_ (0 : Int32) (3 : Int32)) ?_⟩
  · show Q_ioc3 Z c0 c1 c2 x_ b k h0 n0 _ s₁.heap _
    rw [(e0 : s₁.heap = h0)]
    exact ⟨(0 : Int32), rfl, N0, rfl, (iff_of_false (by decide) (fun q => q.1 he))⟩
  · show Steps _ _ _ (s₁.setTop (mkF m 0 #[vA b, vI x_, vI 0, vI 3, .unset, .unset] [])) _
    refine XS.iloadN X0.here hx rfl (hb hby d223) rfl ?_
    refine XS.i2b X0.here hx rfl (hb hby d224) rfl ?_
    refine XS.istore X0.here hx rfl (hb hby d225) rfl (l' := #[vA b, vI x_, vI 0, vI 3, .val (.int (x_.toInt8.toInt32)), .unset]) rfl ?_
    refine XS.iloadN X0.here hx rfl (hb hby d226) rfl ?_
    refine XS.istore X0.here hx rfl (hb hby d227) rfl (l' := #[vA b, vI x_, vI 0, vI 3, .val (.int (x_.toInt8.toInt32)), vI 0]) rfl ?_
    refine XS.iload X0.here hx rfl (hb hby d228) rfl ?_
    refine XS.iloadN X0.here hx rfl (hb hby d229) rfl ?_
    refine XS.icmpNo X0.here hx rfl (hb hby d230) rfl (tlt ((by decide) : (0 : Int32) < (3 : Int32))).2.1 ?_
    refine XS.aloadN X0.here hx rfl (hb hby d231) rfl rfl ?_
    refine XS.iload X0.here hx rfl (hb hby d232) rfl ?_
    refine X0.baloadBytes hx (j := (0 : Int32)) (v := (.int (oB c0))) (by rw [e0]; exact Ar2.1) (State.isArrayOf_alike hZ.alike Ar2.2.1) Ar2.2.2 hin2 hat2 (g := (mkF m 16 #[vA b, vI x_, vI 0, vI 3, .val (.int (x_.toInt8.toInt32)), vI 0] [(.int 0), (.ref b)])) rfl rfl (hb hby d233) _ ?_
    show Steps _ _ _ (s₁.setTop (mkF m 17 #[vA b, vI x_, vI 0, vI 3, .val (.int (x_.toInt8.toInt32)), vI 0] [(.int (oB c0))])) _
    refine XS.iload X0.here hx rfl (hb hby d234) rfl ?_
    refine XS.icmpNo X0.here hx rfl (hb hby d235) rfl (teq (((own_beq r0 hl0 hx0 hx1).mpr he) : (oB c0) = (x_.toInt8.toInt32))).2 ?_
    refine XS.iload X0.here hx rfl (hb hby d236) rfl ?_
    exact retI X0 hx hret (hb hby d237) hr
theorem rm_ioc3_1 (l : Launch) (Z : State) (a0 : Array Value) (hw : HW Z a0) (ws : List Jvm.Cond) (c0 : Int32) (c1 : Int32) (c2 : Int32) (x_ : Int32) (b : Addr) (k : ClassId) (h0 : Heap) (n0 : Nat) (Z0 : n0 ≤ h0.size) (P0 : Arv Z h0 b k .byte (3 : Int32) [(.int (oB c0)), (.int (oB c1)), (.int (oB c2))] (.int 0)) (hx0 : ¬ (x_ < (0 : Int32))) (hx1 : ¬ ((255 : Int32) < x_)) (r0 : ¬ c0 < 0 ∧ ¬ (65535 : Int32) < c0) (r1 : ¬ c1 < 0 ∧ ¬ (65535 : Int32) < c1) (r2 : ¬ c2 < 0 ∧ ¬ (65535 : Int32) < c2) (hl0 : ¬ ((255 : Int32) < c0)) (hl1 : ¬ ((255 : Int32) < c1)) (hl2 : ¬ ((255 : Int32) < c2)) (hn0 : ¬ (c0 = x_)) (he : c1 = x_) :
    MF l Z m_16 jdk_43_method_23_code 6 (some .int) ws (oR 0 0 0 0) #[(.ref b), (.int x_), (.int 0), (.int 3)] h0 (Q_ioc3 Z c0 c1 c2 x_ b k h0 n0) := by
  refine own_body (cls := "java/lang/StringLatin1") (plainFor_of_name pn_2) rfl (fun p e s m below meth c s₁ hx hby hml hown hnm hret hZ X0 e0 => ?_)
  have N0 := Fr.nil n0
  have lt1 := own_l P0.lt
  obtain ⟨cl2, Ar2, q2, S2, M2, H2, G2⟩ := id P0
  have hin2 : ¬ ((0 : Int32) < 0 ∨ cl2.slots.size ≤ ((0 : Int32)).toNatClampNeg) := inb_of S2 ⟨by decide, by decide⟩
  have hat2 : cl2.slots[((0 : Int32)).toNatClampNeg]? = some (.int (oB c0)) := Has.at H2 hin2 rfl
  obtain ⟨cl3, Ar3, q3, S3, M3, H3, G3⟩ := id P0
  have hin3 : ¬ ((1 : Int32) < 0 ∨ cl3.slots.size ≤ ((1 : Int32)).toNatClampNeg) := inb_of S3 ⟨by decide, by decide⟩
  have hat3 : cl3.slots[((1 : Int32)).toNatClampNeg]? = some (.int (oB c1)) := Has.at H3 hin3 rfl
  refine ⟨_, _, _, _, some (.int 1), X0, by decide, by decide, nofun, ?_, fun fs hr => castTop (ef_10 m b x_ (0 : Int32) (3 : Int32)) ?_⟩
  · show Q_ioc3 Z c0 c1 c2 x_ b k h0 n0 _ s₁.heap _
    rw [(e0 : s₁.heap = h0)]
    exact ⟨(1 : Int32), rfl, N0, rfl, (iff_of_false (by decide) (fun q => q.2.1 he))⟩
  · show Steps _ _ _ (s₁.setTop (mkF m 0 #[vA b, vI x_, vI 0, vI 3, .unset, .unset] [])) _
    refine XS.iloadN X0.here hx rfl (hb hby d223) rfl ?_
    refine XS.i2b X0.here hx rfl (hb hby d224) rfl ?_
    refine XS.istore X0.here hx rfl (hb hby d225) rfl (l' := #[vA b, vI x_, vI 0, vI 3, .val (.int (x_.toInt8.toInt32)), .unset]) rfl ?_
    refine XS.iloadN X0.here hx rfl (hb hby d226) rfl ?_
    refine XS.istore X0.here hx rfl (hb hby d227) rfl (l' := #[vA b, vI x_, vI 0, vI 3, .val (.int (x_.toInt8.toInt32)), vI 0]) rfl ?_
    refine XS.iload X0.here hx rfl (hb hby d228) rfl ?_
    refine XS.iloadN X0.here hx rfl (hb hby d229) rfl ?_
    refine XS.icmpNo X0.here hx rfl (hb hby d230) rfl (tlt ((by decide) : (0 : Int32) < (3 : Int32))).2.1 ?_
    refine XS.aloadN X0.here hx rfl (hb hby d231) rfl rfl ?_
    refine XS.iload X0.here hx rfl (hb hby d232) rfl ?_
    refine X0.baloadBytes hx (j := (0 : Int32)) (v := (.int (oB c0))) (by rw [e0]; exact Ar2.1) (State.isArrayOf_alike hZ.alike Ar2.2.1) Ar2.2.2 hin2 hat2 (g := (mkF m 16 #[vA b, vI x_, vI 0, vI 3, .val (.int (x_.toInt8.toInt32)), vI 0] [(.int 0), (.ref b)])) rfl rfl (hb hby d233) _ ?_
    show Steps _ _ _ (s₁.setTop (mkF m 17 #[vA b, vI x_, vI 0, vI 3, .val (.int (x_.toInt8.toInt32)), vI 0] [(.int (oB c0))])) _
    refine XS.iload X0.here hx rfl (hb hby d234) rfl ?_
    refine XS.icmpYes X0.here hx rfl (pc0 := 19) (pc' := 25) rfl (hb hby d235) rfl (feq ((fun q => hn0 ((own_beq r0 hl0 hx0 hx1).mp q)) : ¬ ((oB c0) = (x_.toInt8.toInt32)))).2 (by decide) (by decide) ?_
    refine XS.iinc X0.here hx rfl (hb hby d238) rfl (l' := #[vA b, vI x_, vI 0, vI 3, .val (.int (x_.toInt8.toInt32)), vI 1]) rfl ?_
    refine XS.goto X0.here hx rfl (pc0 := 28) (pc' := 7) rfl (hb hby d239) (by decide) (by decide) ?_
    refine XS.iload X0.here hx rfl (hb hby d228) rfl ?_
    refine XS.iloadN X0.here hx rfl (hb hby d229) rfl ?_
    refine XS.icmpNo X0.here hx rfl (hb hby d230) rfl (tlt ((by decide) : (1 : Int32) < (3 : Int32))).2.1 ?_
    refine XS.aloadN X0.here hx rfl (hb hby d231) rfl rfl ?_
    refine XS.iload X0.here hx rfl (hb hby d232) rfl ?_
    refine X0.baloadBytes hx (j := (1 : Int32)) (v := (.int (oB c1))) (by rw [e0]; exact Ar3.1) (State.isArrayOf_alike hZ.alike Ar3.2.1) Ar3.2.2 hin3 hat3 (g := (mkF m 16 #[vA b, vI x_, vI 0, vI 3, .val (.int (x_.toInt8.toInt32)), vI 1] [(.int 1), (.ref b)])) rfl rfl (hb hby d233) _ ?_
    show Steps _ _ _ (s₁.setTop (mkF m 17 #[vA b, vI x_, vI 0, vI 3, .val (.int (x_.toInt8.toInt32)), vI 1] [(.int (oB c1))])) _
    refine XS.iload X0.here hx rfl (hb hby d234) rfl ?_
    refine XS.icmpNo X0.here hx rfl (hb hby d235) rfl (teq (((own_beq r1 hl1 hx0 hx1).mpr he) : (oB c1) = (x_.toInt8.toInt32))).2 ?_
    refine XS.iload X0.here hx rfl (hb hby d236) rfl ?_
    exact retI X0 hx hret (hb hby d237) hr
theorem rm_ioc3_2 (l : Launch) (Z : State) (a0 : Array Value) (hw : HW Z a0) (ws : List Jvm.Cond) (c0 : Int32) (c1 : Int32) (c2 : Int32) (x_ : Int32) (b : Addr) (k : ClassId) (h0 : Heap) (n0 : Nat) (Z0 : n0 ≤ h0.size) (P0 : Arv Z h0 b k .byte (3 : Int32) [(.int (oB c0)), (.int (oB c1)), (.int (oB c2))] (.int 0)) (hx0 : ¬ (x_ < (0 : Int32))) (hx1 : ¬ ((255 : Int32) < x_)) (r0 : ¬ c0 < 0 ∧ ¬ (65535 : Int32) < c0) (r1 : ¬ c1 < 0 ∧ ¬ (65535 : Int32) < c1) (r2 : ¬ c2 < 0 ∧ ¬ (65535 : Int32) < c2) (hl0 : ¬ ((255 : Int32) < c0)) (hl1 : ¬ ((255 : Int32) < c1)) (hl2 : ¬ ((255 : Int32) < c2)) (hn0 : ¬ (c0 = x_)) (hn1 : ¬ (c1 = x_)) (he : c2 = x_) :
    MF l Z m_16 jdk_43_method_23_code 6 (some .int) ws (oR 0 0 0 0) #[(.ref b), (.int x_), (.int 0), (.int 3)] h0 (Q_ioc3 Z c0 c1 c2 x_ b k h0 n0) := by
  refine own_body (cls := "java/lang/StringLatin1") (plainFor_of_name pn_2) rfl (fun p e s m below meth c s₁ hx hby hml hown hnm hret hZ X0 e0 => ?_)
  have N0 := Fr.nil n0
  have lt1 := own_l P0.lt
  obtain ⟨cl2, Ar2, q2, S2, M2, H2, G2⟩ := id P0
  have hin2 : ¬ ((0 : Int32) < 0 ∨ cl2.slots.size ≤ ((0 : Int32)).toNatClampNeg) := inb_of S2 ⟨by decide, by decide⟩
  have hat2 : cl2.slots[((0 : Int32)).toNatClampNeg]? = some (.int (oB c0)) := Has.at H2 hin2 rfl
  obtain ⟨cl3, Ar3, q3, S3, M3, H3, G3⟩ := id P0
  have hin3 : ¬ ((1 : Int32) < 0 ∨ cl3.slots.size ≤ ((1 : Int32)).toNatClampNeg) := inb_of S3 ⟨by decide, by decide⟩
  have hat3 : cl3.slots[((1 : Int32)).toNatClampNeg]? = some (.int (oB c1)) := Has.at H3 hin3 rfl
  obtain ⟨cl4, Ar4, q4, S4, M4, H4, G4⟩ := id P0
  have hin4 : ¬ ((2 : Int32) < 0 ∨ cl4.slots.size ≤ ((2 : Int32)).toNatClampNeg) := inb_of S4 ⟨by decide, by decide⟩
  have hat4 : cl4.slots[((2 : Int32)).toNatClampNeg]? = some (.int (oB c2)) := Has.at H4 hin4 rfl
  refine ⟨_, _, _, _, some (.int 2), X0, by decide, by decide, nofun, ?_, fun fs hr => castTop (ef_10 m b x_ (0 : Int32) (3 : Int32)) ?_⟩
  · show Q_ioc3 Z c0 c1 c2 x_ b k h0 n0 _ s₁.heap _
    rw [(e0 : s₁.heap = h0)]
    exact ⟨(2 : Int32), rfl, N0, rfl, (iff_of_false (by decide) (fun q => q.2.2 he))⟩
  · show Steps _ _ _ (s₁.setTop (mkF m 0 #[vA b, vI x_, vI 0, vI 3, .unset, .unset] [])) _
    refine XS.iloadN X0.here hx rfl (hb hby d223) rfl ?_
    refine XS.i2b X0.here hx rfl (hb hby d224) rfl ?_
    refine XS.istore X0.here hx rfl (hb hby d225) rfl (l' := #[vA b, vI x_, vI 0, vI 3, .val (.int (x_.toInt8.toInt32)), .unset]) rfl ?_
    refine XS.iloadN X0.here hx rfl (hb hby d226) rfl ?_
    refine XS.istore X0.here hx rfl (hb hby d227) rfl (l' := #[vA b, vI x_, vI 0, vI 3, .val (.int (x_.toInt8.toInt32)), vI 0]) rfl ?_
    refine XS.iload X0.here hx rfl (hb hby d228) rfl ?_
    refine XS.iloadN X0.here hx rfl (hb hby d229) rfl ?_
    refine XS.icmpNo X0.here hx rfl (hb hby d230) rfl (tlt ((by decide) : (0 : Int32) < (3 : Int32))).2.1 ?_
    refine XS.aloadN X0.here hx rfl (hb hby d231) rfl rfl ?_
    refine XS.iload X0.here hx rfl (hb hby d232) rfl ?_
    refine X0.baloadBytes hx (j := (0 : Int32)) (v := (.int (oB c0))) (by rw [e0]; exact Ar2.1) (State.isArrayOf_alike hZ.alike Ar2.2.1) Ar2.2.2 hin2 hat2 (g := (mkF m 16 #[vA b, vI x_, vI 0, vI 3, .val (.int (x_.toInt8.toInt32)), vI 0] [(.int 0), (.ref b)])) rfl rfl (hb hby d233) _ ?_
    show Steps _ _ _ (s₁.setTop (mkF m 17 #[vA b, vI x_, vI 0, vI 3, .val (.int (x_.toInt8.toInt32)), vI 0] [(.int (oB c0))])) _
    refine XS.iload X0.here hx rfl (hb hby d234) rfl ?_
    refine XS.icmpYes X0.here hx rfl (pc0 := 19) (pc' := 25) rfl (hb hby d235) rfl (feq ((fun q => hn0 ((own_beq r0 hl0 hx0 hx1).mp q)) : ¬ ((oB c0) = (x_.toInt8.toInt32)))).2 (by decide) (by decide) ?_
    refine XS.iinc X0.here hx rfl (hb hby d238) rfl (l' := #[vA b, vI x_, vI 0, vI 3, .val (.int (x_.toInt8.toInt32)), vI 1]) rfl ?_
    refine XS.goto X0.here hx rfl (pc0 := 28) (pc' := 7) rfl (hb hby d239) (by decide) (by decide) ?_
    refine XS.iload X0.here hx rfl (hb hby d228) rfl ?_
    refine XS.iloadN X0.here hx rfl (hb hby d229) rfl ?_
    refine XS.icmpNo X0.here hx rfl (hb hby d230) rfl (tlt ((by decide) : (1 : Int32) < (3 : Int32))).2.1 ?_
    refine XS.aloadN X0.here hx rfl (hb hby d231) rfl rfl ?_
    refine XS.iload X0.here hx rfl (hb hby d232) rfl ?_
    refine X0.baloadBytes hx (j := (1 : Int32)) (v := (.int (oB c1))) (by rw [e0]; exact Ar3.1) (State.isArrayOf_alike hZ.alike Ar3.2.1) Ar3.2.2 hin3 hat3 (g := (mkF m 16 #[vA b, vI x_, vI 0, vI 3, .val (.int (x_.toInt8.toInt32)), vI 1] [(.int 1), (.ref b)])) rfl rfl (hb hby d233) _ ?_
    show Steps _ _ _ (s₁.setTop (mkF m 17 #[vA b, vI x_, vI 0, vI 3, .val (.int (x_.toInt8.toInt32)), vI 1] [(.int (oB c1))])) _
    refine XS.iload X0.here hx rfl (hb hby d234) rfl ?_
    refine XS.icmpYes X0.here hx rfl (pc0 := 19) (pc' := 25) rfl (hb hby d235) rfl (feq ((fun q => hn1 ((own_beq r1 hl1 hx0 hx1).mp q)) : ¬ ((oB c1) = (x_.toInt8.toInt32)))).2 (by decide) (by decide) ?_
    refine XS.iinc X0.here hx rfl (hb hby d238) rfl (l' := #[vA b, vI x_, vI 0, vI 3, .val (.int (x_.toInt8.toInt32)), vI 2]) rfl ?_
    refine XS.goto X0.here hx rfl (pc0 := 28) (pc' := 7) rfl (hb hby d239) (by decide) (by decide) ?_
    refine XS.iload X0.here hx rfl (hb hby d228) rfl ?_
    refine XS.iloadN X0.here hx rfl (hb hby d229) rfl ?_
    refine XS.icmpNo X0.here hx rfl (hb hby d230) rfl (tlt ((by decide) : (2 : Int32) < (3 : Int32))).2.1 ?_
    refine XS.aloadN X0.here hx rfl (hb hby d231) rfl rfl ?_
    refine XS.iload X0.here hx rfl (hb hby d232) rfl ?_
    refine X0.baloadBytes hx (j := (2 : Int32)) (v := (.int (oB c2))) (by rw [e0]; exact Ar4.1) (State.isArrayOf_alike hZ.alike Ar4.2.1) Ar4.2.2 hin4 hat4 (g := (mkF m 16 #[vA b, vI x_, vI 0, vI 3, .val (.int (x_.toInt8.toInt32)), vI 2] [(.int 2), (.ref b)])) rfl rfl (hb hby d233) _ ?_
    show Steps _ _ _ (s₁.setTop (mkF m 17 #[vA b, vI x_, vI 0, vI 3, .val (.int (x_.toInt8.toInt32)), vI 2] [(.int (oB c2))])) _
    refine XS.iload X0.here hx rfl (hb hby d234) rfl ?_
    refine XS.icmpNo X0.here hx rfl (hb hby d235) rfl (teq (((own_beq r2 hl2 hx0 hx1).mpr he) : (oB c2) = (x_.toInt8.toInt32))).2 ?_
    refine XS.iload X0.here hx rfl (hb hby d236) rfl ?_
    exact retI X0 hx hret (hb hby d237) hr
theorem rm_ioc3_3 (l : Launch) (Z : State) (a0 : Array Value) (hw : HW Z a0) (ws : List Jvm.Cond) (c0 : Int32) (c1 : Int32) (c2 : Int32) (x_ : Int32) (b : Addr) (k : ClassId) (h0 : Heap) (n0 : Nat) (Z0 : n0 ≤ h0.size) (P0 : Arv Z h0 b k .byte (3 : Int32) [(.int (oB c0)), (.int (oB c1)), (.int (oB c2))] (.int 0)) (hx0 : ¬ (x_ < (0 : Int32))) (hx1 : ¬ ((255 : Int32) < x_)) (r0 : ¬ c0 < 0 ∧ ¬ (65535 : Int32) < c0) (r1 : ¬ c1 < 0 ∧ ¬ (65535 : Int32) < c1) (r2 : ¬ c2 < 0 ∧ ¬ (65535 : Int32) < c2) (hl0 : ¬ ((255 : Int32) < c0)) (hl1 : ¬ ((255 : Int32) < c1)) (hl2 : ¬ ((255 : Int32) < c2)) (hn0 : ¬ (c0 = x_)) (hn1 : ¬ (c1 = x_)) (hn2 : ¬ (c2 = x_)) :
    MF l Z m_16 jdk_43_method_23_code 6 (some .int) ws (oR 0 0 0 0) #[(.ref b), (.int x_), (.int 0), (.int 3)] h0 (Q_ioc3 Z c0 c1 c2 x_ b k h0 n0) := by
  refine own_body (cls := "java/lang/StringLatin1") (plainFor_of_name pn_2) rfl (fun p e s m below meth c s₁ hx hby hml hown hnm hret hZ X0 e0 => ?_)
  have N0 := Fr.nil n0
  have lt1 := own_l P0.lt
  obtain ⟨cl2, Ar2, q2, S2, M2, H2, G2⟩ := id P0
  have hin2 : ¬ ((0 : Int32) < 0 ∨ cl2.slots.size ≤ ((0 : Int32)).toNatClampNeg) := inb_of S2 ⟨by decide, by decide⟩
  have hat2 : cl2.slots[((0 : Int32)).toNatClampNeg]? = some (.int (oB c0)) := Has.at H2 hin2 rfl
  obtain ⟨cl3, Ar3, q3, S3, M3, H3, G3⟩ := id P0
  have hin3 : ¬ ((1 : Int32) < 0 ∨ cl3.slots.size ≤ ((1 : Int32)).toNatClampNeg) := inb_of S3 ⟨by decide, by decide⟩
  have hat3 : cl3.slots[((1 : Int32)).toNatClampNeg]? = some (.int (oB c1)) := Has.at H3 hin3 rfl
  obtain ⟨cl4, Ar4, q4, S4, M4, H4, G4⟩ := id P0
  have hin4 : ¬ ((2 : Int32) < 0 ∨ cl4.slots.size ≤ ((2 : Int32)).toNatClampNeg) := inb_of S4 ⟨by decide, by decide⟩
  have hat4 : cl4.slots[((2 : Int32)).toNatClampNeg]? = some (.int (oB c2)) := Has.at H4 hin4 rfl
  refine ⟨_, _, _, _, some (.int (-1)), X0, by decide, by decide, nofun, ?_, fun fs hr => castTop (ef_10 m b x_ (0 : Int32) (3 : Int32)) ?_⟩
  · show Q_ioc3 Z c0 c1 c2 x_ b k h0 n0 _ s₁.heap _
    rw [(e0 : s₁.heap = h0)]
    exact ⟨(-1 : Int32), rfl, N0, rfl, (iff_of_true (by decide) ⟨hn0, hn1, hn2⟩)⟩
  · show Steps _ _ _ (s₁.setTop (mkF m 0 #[vA b, vI x_, vI 0, vI 3, .unset, .unset] [])) _
    refine XS.iloadN X0.here hx rfl (hb hby d223) rfl ?_
    refine XS.i2b X0.here hx rfl (hb hby d224) rfl ?_
    refine XS.istore X0.here hx rfl (hb hby d225) rfl (l' := #[vA b, vI x_, vI 0, vI 3, .val (.int (x_.toInt8.toInt32)), .unset]) rfl ?_
    refine XS.iloadN X0.here hx rfl (hb hby d226) rfl ?_
    refine XS.istore X0.here hx rfl (hb hby d227) rfl (l' := #[vA b, vI x_, vI 0, vI 3, .val (.int (x_.toInt8.toInt32)), vI 0]) rfl ?_
    refine XS.iload X0.here hx rfl (hb hby d228) rfl ?_
    refine XS.iloadN X0.here hx rfl (hb hby d229) rfl ?_
    refine XS.icmpNo X0.here hx rfl (hb hby d230) rfl (tlt ((by decide) : (0 : Int32) < (3 : Int32))).2.1 ?_
    refine XS.aloadN X0.here hx rfl (hb hby d231) rfl rfl ?_
    refine XS.iload X0.here hx rfl (hb hby d232) rfl ?_
    refine X0.baloadBytes hx (j := (0 : Int32)) (v := (.int (oB c0))) (by rw [e0]; exact Ar2.1) (State.isArrayOf_alike hZ.alike Ar2.2.1) Ar2.2.2 hin2 hat2 (g := (mkF m 16 #[vA b, vI x_, vI 0, vI 3, .val (.int (x_.toInt8.toInt32)), vI 0] [(.int 0), (.ref b)])) rfl rfl (hb hby d233) _ ?_
    show Steps _ _ _ (s₁.setTop (mkF m 17 #[vA b, vI x_, vI 0, vI 3, .val (.int (x_.toInt8.toInt32)), vI 0] [(.int (oB c0))])) _
    refine XS.iload X0.here hx rfl (hb hby d234) rfl ?_
    refine XS.icmpYes X0.here hx rfl (pc0 := 19) (pc' := 25) rfl (hb hby d235) rfl (feq ((fun q => hn0 ((own_beq r0 hl0 hx0 hx1).mp q)) : ¬ ((oB c0) = (x_.toInt8.toInt32)))).2 (by decide) (by decide) ?_
    refine XS.iinc X0.here hx rfl (hb hby d238) rfl (l' := #[vA b, vI x_, vI 0, vI 3, .val (.int (x_.toInt8.toInt32)), vI 1]) rfl ?_
    refine XS.goto X0.here hx rfl (pc0 := 28) (pc' := 7) rfl (hb hby d239) (by decide) (by decide) ?_
    refine XS.iload X0.here hx rfl (hb hby d228) rfl ?_
    refine XS.iloadN X0.here hx rfl (hb hby d229) rfl ?_
    refine XS.icmpNo X0.here hx rfl (hb hby d230) rfl (tlt ((by decide) : (1 : Int32) < (3 : Int32))).2.1 ?_
    refine XS.aloadN X0.here hx rfl (hb hby d231) rfl rfl ?_
    refine XS.iload X0.here hx rfl (hb hby d232) rfl ?_
    refine X0.baloadBytes hx (j := (1 : Int32)) (v := (.int (oB c1))) (by rw [e0]; exact Ar3.1) (State.isArrayOf_alike hZ.alike Ar3.2.1) Ar3.2.2 hin3 hat3 (g := (mkF m 16 #[vA b, vI x_, vI 0, vI 3, .val (.int (x_.toInt8.toInt32)), vI 1] [(.int 1), (.ref b)])) rfl rfl (hb hby d233) _ ?_
    show Steps _ _ _ (s₁.setTop (mkF m 17 #[vA b, vI x_, vI 0, vI 3, .val (.int (x_.toInt8.toInt32)), vI 1] [(.int (oB c1))])) _
    refine XS.iload X0.here hx rfl (hb hby d234) rfl ?_
    refine XS.icmpYes X0.here hx rfl (pc0 := 19) (pc' := 25) rfl (hb hby d235) rfl (feq ((fun q => hn1 ((own_beq r1 hl1 hx0 hx1).mp q)) : ¬ ((oB c1) = (x_.toInt8.toInt32)))).2 (by decide) (by decide) ?_
    refine XS.iinc X0.here hx rfl (hb hby d238) rfl (l' := #[vA b, vI x_, vI 0, vI 3, .val (.int (x_.toInt8.toInt32)), vI 2]) rfl ?_
    refine XS.goto X0.here hx rfl (pc0 := 28) (pc' := 7) rfl (hb hby d239) (by decide) (by decide) ?_
    refine XS.iload X0.here hx rfl (hb hby d228) rfl ?_
    refine XS.iloadN X0.here hx rfl (hb hby d229) rfl ?_
    refine XS.icmpNo X0.here hx rfl (hb hby d230) rfl (tlt ((by decide) : (2 : Int32) < (3 : Int32))).2.1 ?_
    refine XS.aloadN X0.here hx rfl (hb hby d231) rfl rfl ?_
    refine XS.iload X0.here hx rfl (hb hby d232) rfl ?_
    refine X0.baloadBytes hx (j := (2 : Int32)) (v := (.int (oB c2))) (by rw [e0]; exact Ar4.1) (State.isArrayOf_alike hZ.alike Ar4.2.1) Ar4.2.2 hin4 hat4 (g := (mkF m 16 #[vA b, vI x_, vI 0, vI 3, .val (.int (x_.toInt8.toInt32)), vI 2] [(.int 2), (.ref b)])) rfl rfl (hb hby d233) _ ?_
    show Steps _ _ _ (s₁.setTop (mkF m 17 #[vA b, vI x_, vI 0, vI 3, .val (.int (x_.toInt8.toInt32)), vI 2] [(.int (oB c2))])) _
    refine XS.iload X0.here hx rfl (hb hby d234) rfl ?_
    refine XS.icmpYes X0.here hx rfl (pc0 := 19) (pc' := 25) rfl (hb hby d235) rfl (feq ((fun q => hn2 ((own_beq r2 hl2 hx0 hx1).mp q)) : ¬ ((oB c2) = (x_.toInt8.toInt32)))).2 (by decide) (by decide) ?_
    refine XS.iinc X0.here hx rfl (hb hby d238) rfl (l' := #[vA b, vI x_, vI 0, vI 3, .val (.int (x_.toInt8.toInt32)), vI 3]) rfl ?_
    refine XS.goto X0.here hx rfl (pc0 := 28) (pc' := 7) rfl (hb hby d239) (by decide) (by decide) ?_
    refine XS.iload X0.here hx rfl (hb hby d228) rfl ?_
    refine XS.iloadN X0.here hx rfl (hb hby d229) rfl ?_
    refine XS.icmpYes X0.here hx rfl (pc0 := 10) (pc' := 31) rfl (hb hby d230) rfl (flt ((by decide) : ¬ ((3 : Int32) < (3 : Int32)))).2.1 (by decide) (by decide) ?_
    refine XS.iconst X0.here hx rfl (hb hby d240) ?_
    exact retI X0 hx hret (hb hby d241) hr
theorem rm_ioc3 (l : Launch) (Z : State) (a0 : Array Value) (hw : HW Z a0) (ws : List Jvm.Cond) (c0 : Int32) (c1 : Int32) (c2 : Int32) (x_ : Int32) (b : Addr) (k : ClassId) (h0 : Heap) (n0 : Nat) (Z0 : n0 ≤ h0.size) (P0 : Arv Z h0 b k .byte (3 : Int32) [(.int (oB c0)), (.int (oB c1)), (.int (oB c2))] (.int 0)) (hx0 : ¬ (x_ < (0 : Int32))) (hx1 : ¬ ((255 : Int32) < x_)) (r0 : ¬ c0 < 0 ∧ ¬ (65535 : Int32) < c0) (r1 : ¬ c1 < 0 ∧ ¬ (65535 : Int32) < c1) (r2 : ¬ c2 < 0 ∧ ¬ (65535 : Int32) < c2) (hl0 : ¬ ((255 : Int32) < c0)) (hl1 : ¬ ((255 : Int32) < c1)) (hl2 : ¬ ((255 : Int32) < c2)) :
    MF l Z m_16 jdk_43_method_23_code 6 (some .int) ws (oR 0 0 0 0) #[(.ref b), (.int x_), (.int 0), (.int 3)] h0 (Q_ioc3 Z c0 c1 c2 x_ b k h0 n0) := by
  by_cases k0 : c0 = x_
  · exact rm_ioc3_0 l Z a0 hw ws c0 c1 c2 x_ b k h0 n0 Z0 P0 hx0 hx1 r0 r1 r2 hl0 hl1 hl2 k0
  by_cases k1 : c1 = x_
  · exact rm_ioc3_1 l Z a0 hw ws c0 c1 c2 x_ b k h0 n0 Z0 P0 hx0 hx1 r0 r1 r2 hl0 hl1 hl2 k0 k1
  by_cases k2 : c2 = x_
  · exact rm_ioc3_2 l Z a0 hw ws c0 c1 c2 x_ b k h0 n0 Z0 P0 hx0 hx1 r0 r1 r2 hl0 hl1 hl2 k0 k1 k2
  exact rm_ioc3_3 l Z a0 hw ws c0 c1 c2 x_ b k h0 n0 Z0 P0 hx0 hx1 r0 r1 r2 hl0 hl1 hl2 k0 k1 k2
def Q_iol3 (Z : State) (c0 : Int32) (c1 : Int32) (c2 : Int32) (x_ : Int32) (b : Addr) (k : ClassId) (h0 : Heap) (n0 : Nat) (v : Option Value) (h : Heap) (L : List Loc) : Prop := ∃ (r : Int32), (v = some (.int r)) ∧ (Fr n0 L) ∧ (h = h0) ∧ ((r < (0 : Int32)) ↔ (¬ (c0 = x_) ∧ ¬ (c1 = x_) ∧ ¬ (c2 = x_)))
theorem rm_iol3 (l : Launch) (Z : State) (a0 : Array Value) (hw : HW Z a0) (ws : List Jvm.Cond) (c0 : Int32) (c1 : Int32) (c2 : Int32) (x_ : Int32) (b : Addr) (k : ClassId) (h0 : Heap) (n0 : Nat) (Z0 : n0 ≤ h0.size) (P0 : Arv Z h0 b k .byte (3 : Int32) [(.int (oB c0)), (.int (oB c1)), (.int (oB c2))] (.int 0)) (hx0 : ¬ (x_ < (0 : Int32))) (hx1 : ¬ ((255 : Int32) < x_)) (r0 : ¬ c0 < 0 ∧ ¬ (65535 : Int32) < c0) (r1 : ¬ c1 < 0 ∧ ¬ (65535 : Int32) < c1) (r2 : ¬ c2 < 0 ∧ ¬ (65535 : Int32) < c2) (hl0 : ¬ ((255 : Int32) < c0)) (hl1 : ¬ ((255 : Int32) < c1)) (hl2 : ¬ ((255 : Int32) < c2)) :
    MF l Z m_17 jdk_43_method_22_code 4 (some .int) ws (oR 1 0 0 17) #[(.ref b), (.int x_), (.int 0), (.int 3)] h0 (Q_iol3 Z c0 c1 c2 x_ b k h0 n0) := by
  refine own_body (cls := "java/lang/StringLatin1") (plainFor_of_name pn_2) rfl (fun p e s m below meth c s₁ hx hby hml hown hnm hret hZ X0 e0 => ?_)
  have N0 := Fr.nil n0
  have lt1 := own_l P0.lt
  obtain ⟨_, _, ⟨T2, L2, k2, n2⟩, -, X2, ⟨Lc2, hQ2, l2, y2, z2⟩, st2⟩ := Jvm.LawKit.callS X0 hx (y := m_2) hown (mvT hZ (w_60 hw)) (mvT hZ (w_61 hw)) (mvT hZ (w_58 hw)) (mvT hZ (w_62 hw)) (by decide) (backOf (W := 0) (rm_canI l Z a0 hw [] x_ h0 n0 (by omega) hx0 hx1) hZ (w_62 hw) (w_58 hw) (by decide) (by decide)) (g := (mkF m 1 #[vA b, vI x_, vI 0, vI 3] [(.int x_)])) rfl (by rw [hml]; rfl) (argsL := [(.int x_)]) (rest := []) (lenOf pd_8 rfl) rfl (Nat.le_of_eq rfl) (hb hby d243) (fun _ _ => ⟨rfl, e0, (by decide : 0 + 0 ≤ _), (by decide : 0 + 0 ≤ _)⟩)
  dsimp only [Pt.U, Pt.locs, Pt.cells, Pt.slots] at X2 l2 y2 z2 st2 hQ2
  rw [l2, y2, z2] at X2
  obtain ⟨rfl, Nq2, Kq2⟩ := hQ2
  have N2 := Fr.app N0 Nq2
  obtain ⟨_, _, ⟨T3, L3, k3, n3⟩, -, X3, ⟨Lc3, hQ3, l3, y3, z3⟩, st3⟩ := Jvm.LawKit.callS X2 hx (y := m_0) hown (mvT hZ (w_63 hw)) (mvT hZ (w_64 hw)) (mvT hZ (w_65 hw)) (mvT hZ (w_66 hw)) (by decide) (backOf (W := 0) (rm_max0 l Z a0 hw []  h0 n0 (by omega) ) hZ (w_66 hw) (w_65 hw) (by decide) (by decide)) (g := (mkF m 11 #[vA b, vI x_, vI 0, vI 3] [(.int 0), (.int 0)])) rfl (by rw [hml]; rfl) (argsL := [(.int 0), (.int 0)]) (rest := []) (lenOf pd_9 rfl) rfl (Nat.le_of_eq rfl) (hb hby d247) (fun _ _ => ⟨rfl, Kq2, (by decide : 0 + 0 ≤ _), (by decide : 0 + 0 ≤ _)⟩)
  dsimp only [Pt.U, Pt.locs, Pt.cells, Pt.slots] at X3 l3 y3 z3 st3 hQ3
  rw [l3, y3, z3] at X3
  obtain ⟨rfl, Nq3, Kq3⟩ := hQ3
  have N3 := Fr.app N2 Nq3
  obtain ⟨cl4, Ar4, q4, S4, M4, H4, G4⟩ := id P0
  obtain ⟨_, _, ⟨T5, L5, k5, n5⟩, -, X5, ⟨Lc5, hQ5, l5, y5, z5⟩, st5⟩ := Jvm.LawKit.callS X3 hx (y := m_1) hown (mvT hZ (w_67 hw)) (mvT hZ (w_68 hw)) (mvT hZ (w_65 hw)) (mvT hZ (w_69 hw)) (by decide) (backOf (W := 0) (rm_min3 l Z a0 hw []  h0 n0 (by omega) ) hZ (w_69 hw) (w_65 hw) (by decide) (by decide)) (g := (mkF m 18 #[vA b, vI x_, vI 0, vI 3] [(.int 3), (.int 3)])) rfl (by rw [hml]; rfl) (argsL := [(.int 3), (.int 3)]) (rest := []) (lenOf pd_9 rfl) rfl (Nat.le_of_eq rfl) (hb hby d252) (fun _ _ => ⟨rfl, Kq3, (by decide : 0 + 0 ≤ _), (by decide : 0 + 0 ≤ _)⟩)
  dsimp only [Pt.U, Pt.locs, Pt.cells, Pt.slots] at X5 l5 y5 z5 st5 hQ5
  rw [l5, y5, z5] at X5
  obtain ⟨rfl, Nq5, Kq5⟩ := hQ5
  have N5 := Fr.app N3 Nq5
  obtain ⟨_, _, ⟨T6, L6, k6, n6⟩, -, X6, ⟨Lc6, hQ6, l6, y6, z6⟩, st6⟩ := Jvm.LawKit.callS X5 hx (y := m_16) hown (mvT hZ (w_83 hw)) (mvT hZ (w_84 hw)) (mvT hZ (w_58 hw)) (mvT hZ (w_85 hw)) (by decide) (backOf (W := 0) (rm_ioc3 l Z a0 hw [] c0 c1 c2 x_ b k h0 n0 (by omega) P0 hx0 hx1 r0 r1 r2 hl0 hl1 hl2) hZ (w_85 hw) (w_58 hw) (by decide) (by decide)) (g := (mkF m 33 #[vA b, vI x_, vI 0, vI 3] [(.int 3), (.int 0), (.int x_), (.ref b)])) rfl (by rw [hml]; rfl) (argsL := [(.ref b), (.int x_), (.int 0), (.int 3)]) (rest := []) (lenOf pd_10 rfl) rfl (Nat.le_of_eq rfl) (hb hby d261) (fun _ _ => ⟨rfl, Kq5, (by decide : 0 + 0 ≤ _), (by decide : 0 + 0 ≤ _)⟩)
  dsimp only [Pt.U, Pt.locs, Pt.cells, Pt.slots] at X6 l6 y6 z6 st6 hQ6
  rw [l6, y6, z6] at X6
  obtain ⟨x6_r, rfl, Nq6, Kq6, r6_0⟩ := hQ6
  have N6 := Fr.app N5 Nq6
  refine ⟨_, _, _, _, some (.int x6_r), X6, by decide, by decide, nofun, ?_, fun fs hr => castTop (ef_11 m b x_ (0 : Int32) (3 : Int32)) ?_⟩
  · show Q_iol3 Z c0 c1 c2 x_ b k h0 n0 _ T6.heap _
    rw [(Kq6 : T6.heap = h0)]
    exact ⟨x6_r, rfl, N6, rfl, r6_0⟩
  · show Steps _ _ _ (s₁.setTop (mkF m 0 #[vA b, vI x_, vI 0, vI 3] [])) _
    refine XS.iloadN X0.here hx rfl (hb hby d242) rfl ?_
    refine st2 _ ?_
    show Steps _ _ _ (T2.setTop (mkF m 4 #[vA b, vI x_, vI 0, vI 3] [(.int 1)])) _
    refine XS.ifYes X2.here hx rfl (pc0 := 4) (pc' := 9) rfl (hb hby d244) rfl ((if0 _ _).trans (feq ((by decide) : ¬ ((1 : Int32) = (0 : Int32)))).2) (by decide) (by decide) ?_
    refine XS.iloadN X2.here hx rfl (hb hby d245) rfl ?_
    refine XS.iconst X2.here hx rfl (hb hby d246) ?_
    refine st3 _ ?_
    show Steps _ _ _ (T3.setTop (mkF m 14 #[vA b, vI x_, vI 0, vI 3] [(.int 0)])) _
    refine XS.istoreN X3.here hx rfl (hb hby d248) rfl (l' := #[vA b, vI x_, vI 0, vI 3]) rfl ?_
    refine XS.iloadN X3.here hx rfl (hb hby d249) rfl ?_
    refine XS.aloadN X3.here hx rfl (hb hby d250) rfl rfl ?_
    refine X3.arraylength hx (by rw [Kq3]; exact Ar4.1) (State.isArrayOf_alike hZ.alike Ar4.2.1) (g := (mkF m 17 #[vA b, vI x_, vI 0, vI 3] [(.ref b), (.int 3)])) rfl rfl (hb hby d251) _ ?_
    rw [len_of S4 M4]
    show Steps _ _ _ (T3.setTop (mkF m 18 #[vA b, vI x_, vI 0, vI 3] [(.int 3), (.int 3)])) _
    refine st5 _ ?_
    show Steps _ _ _ (T5.setTop (mkF m 21 #[vA b, vI x_, vI 0, vI 3] [(.int 3)])) _
    refine XS.istoreN X5.here hx rfl (hb hby d253) rfl (l' := #[vA b, vI x_, vI 0, vI 3]) rfl ?_
    refine XS.iloadN X5.here hx rfl (hb hby d254) rfl ?_
    refine XS.iloadN X5.here hx rfl (hb hby d255) rfl ?_
    refine XS.icmpYes X5.here hx rfl (pc0 := 24) (pc' := 29) rfl (hb hby d256) rfl (tlt ((by decide) : (0 : Int32) < (3 : Int32))).1 (by decide) (by decide) ?_
    refine XS.aloadN X5.here hx rfl (hb hby d257) rfl rfl ?_
    refine XS.iloadN X5.here hx rfl (hb hby d258) rfl ?_
    refine XS.iloadN X5.here hx rfl (hb hby d259) rfl ?_
    refine XS.iloadN X5.here hx rfl (hb hby d260) rfl ?_
    refine st6 _ ?_
    show Steps _ _ _ (T6.setTop (mkF m 36 #[vA b, vI x_, vI 0, vI 3] [(.int x6_r)])) _
    exact retI X6 hx hret (hb hby d262) hr
theorem d263 : decode jdk_43_method_22_code 27 = .ok (.iconst (-1), 1) := by decide +kernel
theorem d264 : decode jdk_43_method_22_code 28 = .ok (.ireturn, 1) := by decide +kernel
def Q_iol0 (Z : State) (x_ : Int32) (b : Addr) (k : ClassId) (vs : List Value) (dv : Value) (h0 : Heap) (n0 : Nat) (v : Option Value) (h : Heap) (L : List Loc) : Prop := (v = some (.int (-1))) ∧ (Fr n0 L) ∧ (h = h0)
theorem rm_iol0 (l : Launch) (Z : State) (a0 : Array Value) (hw : HW Z a0) (ws : List Jvm.Cond) (x_ : Int32) (b : Addr) (k : ClassId) (vs : List Value) (dv : Value) (h0 : Heap) (n0 : Nat) (Z0 : n0 ≤ h0.size) (P0 : Arv Z h0 b k .byte (0 : Int32) vs dv) (hx0 : ¬ (x_ < (0 : Int32))) (hx1 : ¬ ((255 : Int32) < x_)) :
    MF l Z m_17 jdk_43_method_22_code 4 (some .int) ws (oR 1 0 0 13) #[(.ref b), (.int x_), (.int 0), (.int 0)] h0 (Q_iol0 Z x_ b k vs dv h0 n0) := by
  refine own_body (cls := "java/lang/StringLatin1") (plainFor_of_name pn_2) rfl (fun p e s m below meth c s₁ hx hby hml hown hnm hret hZ X0 e0 => ?_)
  have N0 := Fr.nil n0
  have lt1 := own_l P0.lt
  obtain ⟨_, _, ⟨T2, L2, k2, n2⟩, -, X2, ⟨Lc2, hQ2, l2, y2, z2⟩, st2⟩ := Jvm.LawKit.callS X0 hx (y := m_2) hown (mvT hZ (w_60 hw)) (mvT hZ (w_61 hw)) (mvT hZ (w_58 hw)) (mvT hZ (w_62 hw)) (by decide) (backOf (W := 0) (rm_canI l Z a0 hw [] x_ h0 n0 (by omega) hx0 hx1) hZ (w_62 hw) (w_58 hw) (by decide) (by decide)) (g := (mkF m 1 #[vA b, vI x_, vI 0, vI 0] [(.int x_)])) rfl (by rw [hml]; rfl) (argsL := [(.int x_)]) (rest := []) (lenOf pd_8 rfl) rfl (Nat.le_of_eq rfl) (hb hby d243) (fun _ _ => ⟨rfl, e0, (by decide : 0 + 0 ≤ _), (by decide : 0 + 0 ≤ _)⟩)
  dsimp only [Pt.U, Pt.locs, Pt.cells, Pt.slots] at X2 l2 y2 z2 st2 hQ2
  rw [l2, y2, z2] at X2
  obtain ⟨rfl, Nq2, Kq2⟩ := hQ2
  have N2 := Fr.app N0 Nq2
  obtain ⟨_, _, ⟨T3, L3, k3, n3⟩, -, X3, ⟨Lc3, hQ3, l3, y3, z3⟩, st3⟩ := Jvm.LawKit.callS X2 hx (y := m_0) hown (mvT hZ (w_63 hw)) (mvT hZ (w_64 hw)) (mvT hZ (w_65 hw)) (mvT hZ (w_66 hw)) (by decide) (backOf (W := 0) (rm_max0 l Z a0 hw []  h0 n0 (by omega) ) hZ (w_66 hw) (w_65 hw) (by decide) (by decide)) (g := (mkF m 11 #[vA b, vI x_, vI 0, vI 0] [(.int 0), (.int 0)])) rfl (by rw [hml]; rfl) (argsL := [(.int 0), (.int 0)]) (rest := []) (lenOf pd_9 rfl) rfl (Nat.le_of_eq rfl) (hb hby d247) (fun _ _ => ⟨rfl, Kq2, (by decide : 0 + 0 ≤ _), (by decide : 0 + 0 ≤ _)⟩)
  dsimp only [Pt.U, Pt.locs, Pt.cells, Pt.slots] at X3 l3 y3 z3 st3 hQ3
  rw [l3, y3, z3] at X3
  obtain ⟨rfl, Nq3, Kq3⟩ := hQ3
  have N3 := Fr.app N2 Nq3
  obtain ⟨cl4, Ar4, q4, S4, M4, H4, G4⟩ := id P0
  obtain ⟨_, _, ⟨T5, L5, k5, n5⟩, -, X5, ⟨Lc5, hQ5, l5, y5, z5⟩, st5⟩ := Jvm.LawKit.callS X3 hx (y := m_1) hown (mvT hZ (w_67 hw)) (mvT hZ (w_68 hw)) (mvT hZ (w_65 hw)) (mvT hZ (w_69 hw)) (by decide) (backOf (W := 0) (rm_min0 l Z a0 hw []  h0 n0 (by omega) ) hZ (w_69 hw) (w_65 hw) (by decide) (by decide)) (g := (mkF m 18 #[vA b, vI x_, vI 0, vI 0] [(.int 0), (.int 0)])) rfl (by rw [hml]; rfl) (argsL := [(.int 0), (.int 0)]) (rest := []) (lenOf pd_9 rfl) rfl (Nat.le_of_eq rfl) (hb hby d252) (fun _ _ => ⟨rfl, Kq3, (by decide : 0 + 0 ≤ _), (by decide : 0 + 0 ≤ _)⟩)
  dsimp only [Pt.U, Pt.locs, Pt.cells, Pt.slots] at X5 l5 y5 z5 st5 hQ5
  rw [l5, y5, z5] at X5
  obtain ⟨rfl, Nq5, Kq5⟩ := hQ5
  have N5 := Fr.app N3 Nq5
  refine ⟨_, _, _, _, some (.int (-1)), X5, by decide, by decide, nofun, ?_, fun fs hr => castTop (ef_11 m b x_ (0 : Int32) (0 : Int32)) ?_⟩
  · show Q_iol0 Z x_ b k vs dv h0 n0 _ T5.heap _
    rw [(Kq5 : T5.heap = h0)]
    exact ⟨rfl, N5, rfl⟩
  · show Steps _ _ _ (s₁.setTop (mkF m 0 #[vA b, vI x_, vI 0, vI 0] [])) _
    refine XS.iloadN X0.here hx rfl (hb hby d242) rfl ?_
    refine st2 _ ?_
    show Steps _ _ _ (T2.setTop (mkF m 4 #[vA b, vI x_, vI 0, vI 0] [(.int 1)])) _
    refine XS.ifYes X2.here hx rfl (pc0 := 4) (pc' := 9) rfl (hb hby d244) rfl ((if0 _ _).trans (feq ((by decide) : ¬ ((1 : Int32) = (0 : Int32)))).2) (by decide) (by decide) ?_
    refine XS.iloadN X2.here hx rfl (hb hby d245) rfl ?_
    refine XS.iconst X2.here hx rfl (hb hby d246) ?_
    refine st3 _ ?_
    show Steps _ _ _ (T3.setTop (mkF m 14 #[vA b, vI x_, vI 0, vI 0] [(.int 0)])) _
    refine XS.istoreN X3.here hx rfl (hb hby d248) rfl (l' := #[vA b, vI x_, vI 0, vI 0]) rfl ?_
    refine XS.iloadN X3.here hx rfl (hb hby d249) rfl ?_
    refine XS.aloadN X3.here hx rfl (hb hby d250) rfl rfl ?_
    refine X3.arraylength hx (by rw [Kq3]; exact Ar4.1) (State.isArrayOf_alike hZ.alike Ar4.2.1) (g := (mkF m 17 #[vA b, vI x_, vI 0, vI 0] [(.ref b), (.int 0)])) rfl rfl (hb hby d251) _ ?_
    rw [len_of S4 M4]
    show Steps _ _ _ (T3.setTop (mkF m 18 #[vA b, vI x_, vI 0, vI 0] [(.int 0), (.int 0)])) _
    refine st5 _ ?_
    show Steps _ _ _ (T5.setTop (mkF m 21 #[vA b, vI x_, vI 0, vI 0] [(.int 0)])) _
    refine XS.istoreN X5.here hx rfl (hb hby d253) rfl (l' := #[vA b, vI x_, vI 0, vI 0]) rfl ?_
    refine XS.iloadN X5.here hx rfl (hb hby d254) rfl ?_
    refine XS.iloadN X5.here hx rfl (hb hby d255) rfl ?_
    refine XS.icmpNo X5.here hx rfl (hb hby d256) rfl (flt ((by decide) : ¬ ((0 : Int32) < (0 : Int32)))).1 ?_
    refine XS.iconst X5.here hx rfl (hb hby d263) ?_
    exact retI X5 hx hret (hb hby d264) hr
theorem d265 : decode jdk_52_method_6_code 0 = .ok (.aload_n 0, 1) := by decide +kernel
theorem d266 : decode jdk_52_method_6_code 1 = .ok (.arraylength, 1) := by decide +kernel
theorem d267 : decode jdk_52_method_6_code 2 = .ok (.iconst 1, 1) := by decide +kernel
theorem d268 : decode jdk_52_method_6_code 3 = .ok (.ishr, 1) := by decide +kernel
theorem d269 : decode jdk_52_method_6_code 4 = .ok (.ireturn, 1) := by decide +kernel
theorem ef_12 (m : MethodId) (x0 : Addr) : entryFrame m #[(.ref x0)] 1 = mkF m 0 #[vA x0] [] := by first | (simp [entryFrame, mkF, argsToLocals, Value.category, maxLocals]; done) | rfl
abbrev m_18 : MethodName := (⟨"java/lang/StringUTF16", "length", "([B)I"⟩ : MethodName)
def Q_u16len1 (Z : State) (b : Addr) (k : ClassId) (vs : List Value) (h0 : Heap) (n0 : Nat) (v : Option Value) (h : Heap) (L : List Loc) : Prop := (v = some (.int 1)) ∧ (Fr n0 L) ∧ (h = h0)
theorem rm_u16len1 (l : Launch) (Z : State) (a0 : Array Value) (hw : HW Z a0) (ws : List Jvm.Cond) (b : Addr) (k : ClassId) (vs : List Value) (h0 : Heap) (n0 : Nat) (Z0 : n0 ≤ h0.size) (P0 : Arv Z h0 b k .byte (2 : Int32) vs (.int 0)) :
    MF l Z m_18 jdk_52_method_6_code 1 (some .int) ws (oR 0 0 0 0) #[(.ref b)] h0 (Q_u16len1 Z b k vs h0 n0) := by
  refine own_body (cls := "java/lang/StringUTF16") (plainFor_of_name pn_4) rfl (fun p e s m below meth c s₁ hx hby hml hown hnm hret hZ X0 e0 => ?_)
  have N0 := Fr.nil n0
  have lt1 := own_l P0.lt
  obtain ⟨cl2, Ar2, q2, S2, M2, H2, G2⟩ := id P0
  refine ⟨_, _, _, _, some (.int 1), X0, by decide, by decide, nofun, ?_, fun fs hr => castTop (ef_12 m b) ?_⟩
  · show Q_u16len1 Z b k vs h0 n0 _ s₁.heap _
    rw [(e0 : s₁.heap = h0)]
    exact ⟨rfl, N0, rfl⟩
  · show Steps _ _ _ (s₁.setTop (mkF m 0 #[vA b] [])) _
    refine XS.aloadN X0.here hx rfl (hb hby d265) rfl rfl ?_
    refine X0.arraylength hx (by rw [e0]; exact Ar2.1) (State.isArrayOf_alike hZ.alike Ar2.2.1) (g := (mkF m 1 #[vA b] [(.ref b)])) rfl rfl (hb hby d266) _ ?_
    rw [len_of S2 M2]
    show Steps _ _ _ (s₁.setTop (mkF m 2 #[vA b] [(.int 2)])) _
    refine XS.iconst X0.here hx rfl (hb hby d267) ?_
    refine XS.ishr X0.here hx rfl (hb hby d268) rfl ?_
    exact retI X0 hx hret (hb hby d269) hr
def Q_u16len2 (Z : State) (b : Addr) (k : ClassId) (vs : List Value) (h0 : Heap) (n0 : Nat) (v : Option Value) (h : Heap) (L : List Loc) : Prop := (v = some (.int 2)) ∧ (Fr n0 L) ∧ (h = h0)
theorem rm_u16len2 (l : Launch) (Z : State) (a0 : Array Value) (hw : HW Z a0) (ws : List Jvm.Cond) (b : Addr) (k : ClassId) (vs : List Value) (h0 : Heap) (n0 : Nat) (Z0 : n0 ≤ h0.size) (P0 : Arv Z h0 b k .byte (4 : Int32) vs (.int 0)) :
    MF l Z m_18 jdk_52_method_6_code 1 (some .int) ws (oR 0 0 0 0) #[(.ref b)] h0 (Q_u16len2 Z b k vs h0 n0) := by
  refine own_body (cls := "java/lang/StringUTF16") (plainFor_of_name pn_4) rfl (fun p e s m below meth c s₁ hx hby hml hown hnm hret hZ X0 e0 => ?_)
  have N0 := Fr.nil n0
  have lt1 := own_l P0.lt
  obtain ⟨cl2, Ar2, q2, S2, M2, H2, G2⟩ := id P0
  refine ⟨_, _, _, _, some (.int 2), X0, by decide, by decide, nofun, ?_, fun fs hr => castTop (ef_12 m b) ?_⟩
  · show Q_u16len2 Z b k vs h0 n0 _ s₁.heap _
    rw [(e0 : s₁.heap = h0)]
    exact ⟨rfl, N0, rfl⟩
  · show Steps _ _ _ (s₁.setTop (mkF m 0 #[vA b] [])) _
    refine XS.aloadN X0.here hx rfl (hb hby d265) rfl rfl ?_
    refine X0.arraylength hx (by rw [e0]; exact Ar2.1) (State.isArrayOf_alike hZ.alike Ar2.2.1) (g := (mkF m 1 #[vA b] [(.ref b)])) rfl rfl (hb hby d266) _ ?_
    rw [len_of S2 M2]
    show Steps _ _ _ (s₁.setTop (mkF m 2 #[vA b] [(.int 4)])) _
    refine XS.iconst X0.here hx rfl (hb hby d267) ?_
    refine XS.ishr X0.here hx rfl (hb hby d268) rfl ?_
    exact retI X0 hx hret (hb hby d269) hr
def Q_u16len3 (Z : State) (b : Addr) (k : ClassId) (vs : List Value) (h0 : Heap) (n0 : Nat) (v : Option Value) (h : Heap) (L : List Loc) : Prop := (v = some (.int 3)) ∧ (Fr n0 L) ∧ (h = h0)
theorem rm_u16len3 (l : Launch) (Z : State) (a0 : Array Value) (hw : HW Z a0) (ws : List Jvm.Cond) (b : Addr) (k : ClassId) (vs : List Value) (h0 : Heap) (n0 : Nat) (Z0 : n0 ≤ h0.size) (P0 : Arv Z h0 b k .byte (6 : Int32) vs (.int 0)) :
    MF l Z m_18 jdk_52_method_6_code 1 (some .int) ws (oR 0 0 0 0) #[(.ref b)] h0 (Q_u16len3 Z b k vs h0 n0) := by
  refine own_body (cls := "java/lang/StringUTF16") (plainFor_of_name pn_4) rfl (fun p e s m below meth c s₁ hx hby hml hown hnm hret hZ X0 e0 => ?_)
  have N0 := Fr.nil n0
  have lt1 := own_l P0.lt
  obtain ⟨cl2, Ar2, q2, S2, M2, H2, G2⟩ := id P0
  refine ⟨_, _, _, _, some (.int 3), X0, by decide, by decide, nofun, ?_, fun fs hr => castTop (ef_12 m b) ?_⟩
  · show Q_u16len3 Z b k vs h0 n0 _ s₁.heap _
    rw [(e0 : s₁.heap = h0)]
    exact ⟨rfl, N0, rfl⟩
  · show Steps _ _ _ (s₁.setTop (mkF m 0 #[vA b] [])) _
    refine XS.aloadN X0.here hx rfl (hb hby d265) rfl rfl ?_
    refine X0.arraylength hx (by rw [e0]; exact Ar2.1) (State.isArrayOf_alike hZ.alike Ar2.2.1) (g := (mkF m 1 #[vA b] [(.ref b)])) rfl rfl (hb hby d266) _ ?_
    rw [len_of S2 M2]
    show Steps _ _ _ (s₁.setTop (mkF m 2 #[vA b] [(.int 6)])) _
    refine XS.iconst X0.here hx rfl (hb hby d267) ?_
    refine XS.ishr X0.here hx rfl (hb hby d268) rfl ?_
    exact retI X0 hx hret (hb hby d269) hr
theorem d270 : decode jdk_41_method_12_code 0 = .ok (.iload_n 0, 1) := by decide +kernel
theorem d271 : decode jdk_41_method_12_code 1 = .ok (.ifCond .lt 13, 3) := by decide +kernel
theorem d272 : decode jdk_41_method_12_code 4 = .ok (.iload_n 0, 1) := by decide +kernel
theorem d273 : decode jdk_41_method_12_code 5 = .ok (.iload_n 1, 1) := by decide +kernel
theorem d274 : decode jdk_41_method_12_code 6 = .ok (.if_icmp .gt 8, 3) := by decide +kernel
theorem d275 : decode jdk_41_method_12_code 9 = .ok (.iload_n 1, 1) := by decide +kernel
theorem d276 : decode jdk_41_method_12_code 10 = .ok (.iload_n 2, 1) := by decide +kernel
theorem d277 : decode jdk_41_method_12_code 11 = .ok (.if_icmp .le 11, 3) := by decide +kernel
theorem d278 : decode jdk_41_method_12_code 22 = .ok (.iload_n 0, 1) := by decide +kernel
theorem d279 : decode jdk_41_method_12_code 23 = .ok (.ireturn, 1) := by decide +kernel
theorem pn_6 : plainName "jdk/internal/util/Preconditions" = true := by first | (simp [plainName, overriddenIn]; done) | decide +kernel
theorem ef_13 (m : MethodId) (x0 : Int32) (x1 : Int32) (x2 : Int32) (x3 : Value) (hx3 : x3.isRef = true) : entryFrame m #[(.int x0), (.int x1), (.int x2), x3] 4 = mkF m 0 #[vI x0, vI x1, vI x2, .val x3] [] := by
  rcases ref_cases hx3 with rfl | ⟨_, rfl⟩ <;> (first | (simp [entryFrame, mkF, argsToLocals, Value.category, maxLocals]; done) | rfl)
abbrev m_19 : MethodName := (⟨"jdk/internal/util/Preconditions", "checkFromToIndex", "(IIILjava/util/function/BiFunction;)I"⟩ : MethodName)
def Q_cft1 (Z : State) (sf : Value) (h0 : Heap) (n0 : Nat) (v : Option Value) (h : Heap) (L : List Loc) : Prop := (v = some (.int 0)) ∧ (Fr n0 L) ∧ (h = h0)
theorem rm_cft1 (l : Launch) (Z : State) (a0 : Array Value) (hw : HW Z a0) (ws : List Jvm.Cond) (sf : Value) (h0 : Heap) (n0 : Nat) (Z0 : n0 ≤ h0.size) (hsf : sf.isRef = true) :
    MF l Z m_19 jdk_41_method_12_code 4 (some .int) ws (oR 0 0 0 0) #[(.int 0), (.int 1), (.int 1), sf] h0 (Q_cft1 Z sf h0 n0) := by
  refine own_body (cls := "jdk/internal/util/Preconditions") (plainFor_of_name pn_6) rfl (fun p e s m below meth c s₁ hx hby hml hown hnm hret hZ X0 e0 => ?_)
  have N0 := Fr.nil n0
  refine ⟨_, _, _, _, some (.int 0), X0, by decide, by decide, nofun, ?_, fun fs hr => castTop (ef_13 m (0 : Int32) (1 : Int32) (1 : Int32) sf hsf) ?_⟩
  · show Q_cft1 Z sf h0 n0 _ s₁.heap _
    rw [(e0 : s₁.heap = h0)]
    exact ⟨rfl, N0, rfl⟩
  · show Steps _ _ _ (s₁.setTop (mkF m 0 #[vI 0, vI 1, vI 1, .val sf] [])) _
    refine XS.iloadN X0.here hx rfl (hb hby d270) rfl ?_
    refine XS.ifNo X0.here hx rfl (hb hby d271) rfl ((if0 _ _).trans (flt ((by decide) : ¬ ((0 : Int32) < (0 : Int32)))).1) ?_
    refine XS.iloadN X0.here hx rfl (hb hby d272) rfl ?_
    refine XS.iloadN X0.here hx rfl (hb hby d273) rfl ?_
    refine XS.icmpNo X0.here hx rfl (hb hby d274) rfl (flt ((by decide) : ¬ ((1 : Int32) < (0 : Int32)))).2.2.1 ?_
    refine XS.iloadN X0.here hx rfl (hb hby d275) rfl ?_
    refine XS.iloadN X0.here hx rfl (hb hby d276) rfl ?_
    refine XS.icmpYes X0.here hx rfl (pc0 := 11) (pc' := 22) rfl (hb hby d277) rfl (flt ((by decide) : ¬ ((1 : Int32) < (1 : Int32)))).2.2.2 (by decide) (by decide) ?_
    refine XS.iloadN X0.here hx rfl (hb hby d278) rfl ?_
    exact retI X0 hx hret (hb hby d279) hr
theorem d280 : decode jdk_42_method_158_code 0 = .ok (.iload_n 0, 1) := by decide +kernel
theorem d281 : decode jdk_42_method_158_code 1 = .ok (.iload_n 1, 1) := by decide +kernel
theorem d282 : decode jdk_42_method_158_code 2 = .ok (.iload_n 2, 1) := by decide +kernel
theorem w_123 {Z : State} {a0 : Array Value} (hw : HW Z a0) : (Jvm.Cond.fieldLink "java/lang/String" (1053 : Nat) "jdk/internal/util/Preconditions" "SIOOBE_FORMATTER" "Ljava/util/function/BiFunction;").before a0 Z = true := hw _ (List.mem_of_getElem? (i := 123) rfl)
theorem d283 : decode jdk_42_method_158_code 3 = .ok (.getstatic 1053, 3) := by decide +kernel
theorem w_125 {Z : State} {a0 : Array Value} (hw : HW Z a0) : (Jvm.Cond.methodLink "java/lang/String" (1062 : Nat) m_19).before a0 Z = true := hw _ (List.mem_of_getElem? (i := 125) rfl)
theorem w_127 {Z : State} {a0 : Array Value} (hw : HW Z a0) : (Jvm.Cond.code m_19 jdk_41_method_12_code (4 : Nat) (Option.some FieldType.int)).before a0 Z = true := hw _ (List.mem_of_getElem? (i := 127) rfl)
theorem w_124 {Z : State} {a0 : Array Value} (hw : HW Z a0) : (Jvm.Cond.initialized "jdk/internal/util/Preconditions").before a0 Z = true := hw _ (List.mem_of_getElem? (i := 124) rfl)
theorem pd_11 : parseMethodDescriptor "(IIILjava/util/function/BiFunction;)I" = some ⟨[.int, .int, .int, (.object "java/util/function/BiFunction")], some .int⟩ := by decide +kernel
theorem d284 : decode jdk_42_method_158_code 6 = .ok (.invokestatic 1062, 3) := by decide +kernel
theorem w_126 {Z : State} {a0 : Array Value} (hw : HW Z a0) : (Jvm.Cond.static m_19).before a0 Z = true := hw _ (List.mem_of_getElem? (i := 126) rfl)
theorem d285 : decode jdk_42_method_158_code 9 = .ok (.pop, 1) := by decide +kernel
theorem d286 : decode jdk_42_method_158_code 10 = .ok (.return_, 1) := by decide +kernel
theorem ef_14 (m : MethodId) (x0 : Int32) (x1 : Int32) (x2 : Int32) : entryFrame m #[(.int x0), (.int x1), (.int x2)] 3 = mkF m 0 #[vI x0, vI x1, vI x2] [] := by first | (simp [entryFrame, mkF, argsToLocals, Value.category, maxLocals]; done) | rfl
abbrev m_20 : MethodName := (⟨"java/lang/String", "checkBoundsBeginEnd", "(III)V"⟩ : MethodName)
def Q_scb1 (Z : State) (sf : Value) (h0 : Heap) (n0 : Nat) (v : Option Value) (h : Heap) (L : List Loc) : Prop := (v = none) ∧ (Fr n0 L) ∧ (h = h0)
theorem rm_scb1 (l : Launch) (Z : State) (a0 : Array Value) (hw : HW Z a0) (ws : List Jvm.Cond) (sf : Value) (h0 : Heap) (n0 : Nat) (Z0 : n0 ≤ h0.size) (P0 : Old Z n0 h0) (P1 : sta4 Z sf) (hsf : sf.isRef = true) :
    MF l Z m_20 jdk_42_method_158_code 3 none ws (oR 1 0 0 15) #[(.int 0), (.int 1), (.int 1)] h0 (Q_scb1 Z sf h0 n0) := by
  refine own_body (cls := "java/lang/String") (plainFor_of_name pn_5) rfl (fun p e s m below meth c s₁ hx hby hml hown hnm hret hZ X0 e0 => ?_)
  have N0 := Fr.nil n0
  obtain ⟨T1, X1, e1, st1⟩ := getS2 X0 hx hZ hown (host := "") (Or.inl (w_123 hw)) Via.refl e0 (P1.ext P0.2) (g := (mkF m 3 #[vI 0, vI 1, vI 1] [(.int 1), (.int 1), (.int 0)])) rfl (hb hby d283)
  obtain ⟨_, _, ⟨T2, L2, k2, n2⟩, -, X2, ⟨Lc2, hQ2, l2, y2, z2⟩, st2⟩ := Jvm.LawKit.callS X1 hx (y := m_19) hown (mvT hZ (w_125 hw)) (mvT hZ (w_126 hw)) (mvT hZ (w_124 hw)) (mvT hZ (w_127 hw)) (by decide) (backOf (W := 0) (rm_cft1 l Z a0 hw [] sf h0 n0 (by omega) hsf) hZ (w_127 hw) (w_124 hw) (by decide) (by decide)) (g := (mkF m 6 #[vI 0, vI 1, vI 1] [sf, (.int 1), (.int 1), (.int 0)])) rfl (by rw [hml]; rfl) (argsL := [(.int 0), (.int 1), (.int 1), sf]) (rest := []) (lenOf pd_11 rfl) rfl (Nat.le_of_eq rfl) (hb hby d284) (fun _ _ => ⟨rfl, e1, (by decide : 0 + 0 ≤ _), (by decide : 0 + 0 ≤ _)⟩)
  dsimp only [Pt.U, Pt.locs, Pt.cells, Pt.slots] at X2 l2 y2 z2 st2 hQ2
  rw [l2, y2, z2] at X2
  obtain ⟨rfl, Nq2, Kq2⟩ := hQ2
  have N2 := Fr.app N0 Nq2
  refine ⟨_, _, _, _, none, X2, by decide, by decide, fun _ => rfl, ?_, fun fs hr => castTop (ef_14 m (0 : Int32) (1 : Int32) (1 : Int32)) ?_⟩
  · show Q_scb1 Z sf h0 n0 _ T2.heap _
    rw [(Kq2 : T2.heap = h0)]
    exact ⟨rfl, N2, rfl⟩
  · show Steps _ _ _ (s₁.setTop (mkF m 0 #[vI 0, vI 1, vI 1] [])) _
    refine XS.iloadN X0.here hx rfl (hb hby d280) rfl ?_
    refine XS.iloadN X0.here hx rfl (hb hby d281) rfl ?_
    refine XS.iloadN X0.here hx rfl (hb hby d282) rfl ?_
    refine st1 _ ?_
    show Steps _ _ _ (T1.setTop (mkF m 6 #[vI 0, vI 1, vI 1] [sf, (.int 1), (.int 1), (.int 0)])) _
    refine st2 _ ?_
    show Steps _ _ _ (T2.setTop (mkF m 9 #[vI 0, vI 1, vI 1] [(.int 0)])) _
    refine XS.pop X2.here hx rfl (hb hby d285) rfl rfl ?_
    exact X2.returnOut hx hret (hb hby d286) hr
theorem d287 : decode jdk_52_method_93_code 0 = .ok (.iload_n 0, 1) := by decide +kernel
theorem d288 : decode jdk_52_method_93_code 1 = .ok (.iload_n 1, 1) := by decide +kernel
theorem d289 : decode jdk_52_method_93_code 2 = .ok (.aload_n 2, 1) := by decide +kernel
theorem w_117 {Z : State} {a0 : Array Value} (hw : HW Z a0) : (Jvm.Cond.methodLink "java/lang/StringUTF16" (48 : Nat) m_18).before a0 Z = true := hw _ (List.mem_of_getElem? (i := 117) rfl)
theorem w_119 {Z : State} {a0 : Array Value} (hw : HW Z a0) : (Jvm.Cond.code m_18 jdk_52_method_6_code (1 : Nat) (Option.some FieldType.int)).before a0 Z = true := hw _ (List.mem_of_getElem? (i := 119) rfl)
theorem pd_12 : parseMethodDescriptor "([B)I" = some ⟨[(.array .byte)], some .int⟩ := by decide +kernel
theorem d290 : decode jdk_52_method_93_code 3 = .ok (.invokestatic 48, 3) := by decide +kernel
theorem w_118 {Z : State} {a0 : Array Value} (hw : HW Z a0) : (Jvm.Cond.static m_18).before a0 Z = true := hw _ (List.mem_of_getElem? (i := 118) rfl)
theorem w_120 {Z : State} {a0 : Array Value} (hw : HW Z a0) : (Jvm.Cond.methodLink "java/lang/StringUTF16" (241 : Nat) m_20).before a0 Z = true := hw _ (List.mem_of_getElem? (i := 120) rfl)
theorem w_122 {Z : State} {a0 : Array Value} (hw : HW Z a0) : (Jvm.Cond.code m_20 jdk_42_method_158_code (3 : Nat) (Option.none : Option Jvm.ClassFile.FieldType)).before a0 Z = true := hw _ (List.mem_of_getElem? (i := 122) rfl)
theorem pd_13 : parseMethodDescriptor "(III)V" = some ⟨[.int, .int, .int], none⟩ := by decide +kernel
theorem d291 : decode jdk_52_method_93_code 6 = .ok (.invokestatic 241, 3) := by decide +kernel
theorem w_121 {Z : State} {a0 : Array Value} (hw : HW Z a0) : (Jvm.Cond.static m_20).before a0 Z = true := hw _ (List.mem_of_getElem? (i := 121) rfl)
theorem d292 : decode jdk_52_method_93_code 9 = .ok (.return_, 1) := by decide +kernel
theorem ef_15 (m : MethodId) (x0 : Int32) (x1 : Int32) (x2 : Addr) : entryFrame m #[(.int x0), (.int x1), (.ref x2)] 3 = mkF m 0 #[vI x0, vI x1, vA x2] [] := by first | (simp [entryFrame, mkF, argsToLocals, Value.category, maxLocals]; done) | rfl
abbrev m_21 : MethodName := (⟨"java/lang/StringUTF16", "checkBoundsBeginEnd", "(II[B)V"⟩ : MethodName)
def Q_ucb1 (Z : State) (b : Addr) (k : ClassId) (vs : List Value) (sf : Value) (h0 : Heap) (n0 : Nat) (v : Option Value) (h : Heap) (L : List Loc) : Prop := (v = none) ∧ (Fr n0 L) ∧ (h = h0)
theorem rm_ucb1 (l : Launch) (Z : State) (a0 : Array Value) (hw : HW Z a0) (ws : List Jvm.Cond) (b : Addr) (k : ClassId) (vs : List Value) (sf : Value) (h0 : Heap) (n0 : Nat) (Z0 : n0 ≤ h0.size) (P0 : Old Z n0 h0) (P1 : Arv Z h0 b k .byte (2 : Int32) vs (.int 0)) (P2 : sta4 Z sf) (hsf : sf.isRef = true) :
    MF l Z m_21 jdk_52_method_93_code 3 none ws (oR 2 0 0 29) #[(.int 0), (.int 1), (.ref b)] h0 (Q_ucb1 Z b k vs sf h0 n0) := by
  refine own_body (cls := "java/lang/StringUTF16") (plainFor_of_name pn_4) rfl (fun p e s m below meth c s₁ hx hby hml hown hnm hret hZ X0 e0 => ?_)
  have N0 := Fr.nil n0
  have lt1 := own_l P1.lt
  obtain ⟨_, _, ⟨T2, L2, k2, n2⟩, -, X2, ⟨Lc2, hQ2, l2, y2, z2⟩, st2⟩ := Jvm.LawKit.callS X0 hx (y := m_18) hown (mvT hZ (w_117 hw)) (mvT hZ (w_118 hw)) (mvT hZ (w_72 hw)) (mvT hZ (w_119 hw)) (by decide) (backOf (W := 2) (rm_u16len1 l Z a0 hw [] b k vs h0 n0 (by omega) P1) hZ (w_119 hw) (w_72 hw) (by decide) (by decide)) (g := (mkF m 3 #[vI 0, vI 1, vA b] [(.ref b), (.int 1), (.int 0)])) rfl (by rw [hml]; rfl) (argsL := [(.ref b)]) (rest := [(.int 1), (.int 0)]) (lenOf pd_12 rfl) rfl (Nat.le_of_eq rfl) (hb hby d290) (fun _ _ => ⟨rfl, e0, (by decide : 0 + 0 ≤ _), (by decide : 0 + 0 ≤ _)⟩)
  dsimp only [Pt.U, Pt.locs, Pt.cells, Pt.slots] at X2 l2 y2 z2 st2 hQ2
  rw [l2, y2, z2] at X2
  obtain ⟨rfl, Nq2, Kq2⟩ := hQ2
  have N2 := Fr.app N0 Nq2
  obtain ⟨_, _, ⟨T3, L3, k3, n3⟩, -, X3, ⟨Lc3, hQ3, l3, y3, z3⟩, st3⟩ := Jvm.LawKit.callS X2 hx (y := m_20) hown (mvT hZ (w_120 hw)) (mvT hZ (w_121 hw)) (mvT hZ (w_6 hw)) (mvT hZ (w_122 hw)) (by decide) (backOf (W := 0) (rm_scb1 l Z a0 hw [] sf h0 n0 (by omega) P0 P2 hsf) hZ (w_122 hw) (w_6 hw) (by decide) (by decide)) (g := (mkF m 6 #[vI 0, vI 1, vA b] [(.int 1), (.int 1), (.int 0)])) rfl (by rw [hml]; rfl) (argsL := [(.int 0), (.int 1), (.int 1)]) (rest := []) (lenOf pd_13 rfl) rfl (Nat.le_of_eq rfl) (hb hby d291) (fun _ _ => ⟨rfl, Kq2, (by decide : 0 + 0 ≤ _), (by decide : 0 + 0 ≤ _)⟩)
  dsimp only [Pt.U, Pt.locs, Pt.cells, Pt.slots] at X3 l3 y3 z3 st3 hQ3
  rw [l3, y3, z3] at X3
  obtain ⟨rfl, Nq3, Kq3⟩ := hQ3
  have N3 := Fr.app N2 Nq3
  refine ⟨_, _, _, _, none, X3, by decide, by decide, fun _ => rfl, ?_, fun fs hr => castTop (ef_15 m (0 : Int32) (1 : Int32) b) ?_⟩
  · show Q_ucb1 Z b k vs sf h0 n0 _ T3.heap _
    rw [(Kq3 : T3.heap = h0)]
    exact ⟨rfl, N3, rfl⟩
  · show Steps _ _ _ (s₁.setTop (mkF m 0 #[vI 0, vI 1, vA b] [])) _
    refine XS.iloadN X0.here hx rfl (hb hby d287) rfl ?_
    refine XS.iloadN X0.here hx rfl (hb hby d288) rfl ?_
    refine XS.aloadN X0.here hx rfl (hb hby d289) rfl rfl ?_
    refine st2 _ ?_
    show Steps _ _ _ (T2.setTop (mkF m 6 #[vI 0, vI 1, vA b] [(.int 1), (.int 1), (.int 0)])) _
    refine st3 _ ?_
    show Steps _ _ _ (T3.setTop (mkF m 9 #[vI 0, vI 1, vA b] [])) _
    exact X3.returnOut hx hret (hb hby d292) hr
theorem d293 : decode jdk_52_method_48_code 0 = .ok (.iload_n 2, 1) := by decide +kernel
theorem d294 : decode jdk_52_method_48_code 1 = .ok (.istore 4, 2) := by decide +kernel
theorem d295 : decode jdk_52_method_48_code 3 = .ok (.iload 4, 2) := by decide +kernel
theorem d296 : decode jdk_52_method_48_code 5 = .ok (.iload_n 3, 1) := by decide +kernel
theorem d297 : decode jdk_52_method_48_code 6 = .ok (.if_icmp .ge 22, 3) := by decide +kernel
theorem d298 : decode jdk_52_method_48_code 9 = .ok (.aload_n 0, 1) := by decide +kernel
theorem d299 : decode jdk_52_method_48_code 10 = .ok (.iload 4, 2) := by decide +kernel
theorem d300 : decode jdk_52_method_48_code 12 = .ok (.invokestatic 71, 3) := by decide +kernel
theorem d301 : decode jdk_52_method_48_code 15 = .ok (.iload_n 1, 1) := by decide +kernel
theorem d302 : decode jdk_52_method_48_code 16 = .ok (.if_icmp .ne 6, 3) := by decide +kernel
theorem d303 : decode jdk_52_method_48_code 19 = .ok (.iload 4, 2) := by decide +kernel
theorem d304 : decode jdk_52_method_48_code 21 = .ok (.ireturn, 1) := by decide +kernel
theorem d305 : decode jdk_52_method_48_code 22 = .ok (.iinc 4 1, 3) := by decide +kernel
theorem d306 : decode jdk_52_method_48_code 25 = .ok (.goto (-22), 3) := by decide +kernel
theorem d307 : decode jdk_52_method_48_code 28 = .ok (.iconst (-1), 1) := by decide +kernel
theorem d308 : decode jdk_52_method_48_code 29 = .ok (.ireturn, 1) := by decide +kernel
theorem ef_16 (m : MethodId) (x0 : Addr) (x1 : Int32) (x2 : Int32) (x3 : Int32) : entryFrame m #[(.ref x0), (.int x1), (.int x2), (.int x3)] 5 = mkF m 0 #[vA x0, vI x1, vI x2, vI x3, .unset] [] := by first | (simp [entryFrame, mkF, argsToLocals, Value.category, maxLocals]; done) | rfl
abbrev m_22 : MethodName := (⟨"java/lang/StringUTF16", "indexOfCharUnsafe", "([BIII)I"⟩ : MethodName)
def Q_icu1 (Z : State) (c0 : Int32) (x_ : Int32) (b : Addr) (k : ClassId) (h0 : Heap) (n0 : Nat) (v : Option Value) (h : Heap) (L : List Loc) : Prop := ∃ (r : Int32), (v = some (.int r)) ∧ (Fr n0 L) ∧ (h = h0) ∧ ((r < (0 : Int32)) ↔ (¬ (c0 = x_)))
theorem rm_icu1_0 (l : Launch) (Z : State) (a0 : Array Value) (hw : HW Z a0) (ws : List Jvm.Cond) (c0 : Int32) (x_ : Int32) (b : Addr) (k : ClassId) (h0 : Heap) (n0 : Nat) (Z0 : n0 ≤ h0.size) (P0 : Old Z n0 h0) (P1 : Arv Z h0 b k .byte (2 : Int32) [(.int (oL c0)), (.int (oH c0))] (.int 0)) (P2 : sta1 Z (.int 1)) (P3 : sta2 Z (.int 0)) (P4 : sta3 Z (.int 8)) (r0 : ¬ c0 < 0 ∧ ¬ (65535 : Int32) < c0) (he : c0 = x_) :
    MF l Z m_22 jdk_52_method_48_code 5 (some .int) ws (oR 1 0 0 13) #[(.ref b), (.int x_), (.int 0), (.int 1)] h0 (Q_icu1 Z c0 x_ b k h0 n0) := by
  refine own_body (cls := "java/lang/StringUTF16") (plainFor_of_name pn_4) rfl (fun p e s m below meth c s₁ hx hby hml hown hnm hret hZ X0 e0 => ?_)
  have N0 := Fr.nil n0
  have lt1 := own_l P1.lt
  obtain ⟨_, _, ⟨T2, L2, k2, n2⟩, -, X2, ⟨Lc2, hQ2, l2, y2, z2⟩, st2⟩ := Jvm.LawKit.callS X0 hx (y := m_5) hown (mvT hZ (w_102 hw)) (mvT hZ (w_103 hw)) (mvT hZ (w_72 hw)) (mvT hZ (w_104 hw)) (by decide) (backOf (W := 0) (rm_get1_0 l Z a0 hw [] c0 b k h0 n0 (by omega) P0 P1 P2 P3 P4 r0) hZ (w_104 hw) (w_72 hw) (by decide) (by decide)) (g := (mkF m 12 #[vA b, vI x_, vI 0, vI 1, vI 0] [(.int 0), (.ref b)])) rfl (by rw [hml]; rfl) (argsL := [(.ref b), (.int 0)]) (rest := []) (lenOf pd_5 rfl) rfl (Nat.le_of_eq rfl) (hb hby d300) (fun _ _ => ⟨rfl, e0, (by decide : 0 + 0 ≤ _), (by decide : 0 + 0 ≤ _)⟩)
  dsimp only [Pt.U, Pt.locs, Pt.cells, Pt.slots] at X2 l2 y2 z2 st2 hQ2
  rw [l2, y2, z2] at X2
  obtain ⟨rfl, Nq2, Kq2⟩ := hQ2
  have N2 := Fr.app N0 Nq2
  refine ⟨_, _, _, _, some (.int 0), X2, by decide, by decide, nofun, ?_, fun fs hr => castTop (ef_16 m b x_ (0 : Int32) (1 : Int32)) ?_⟩
  · show Q_icu1 Z c0 x_ b k h0 n0 _ T2.heap _
    rw [(Kq2 : T2.heap = h0)]
    exact ⟨(0 : Int32), rfl, N2, rfl, (iff_of_false (by decide) (fun q => q he))⟩
  · show Steps _ _ _ (s₁.setTop (mkF m 0 #[vA b, vI x_, vI 0, vI 1, .unset] [])) _
    refine XS.iloadN X0.here hx rfl (hb hby d293) rfl ?_
    refine XS.istore X0.here hx rfl (hb hby d294) rfl (l' := #[vA b, vI x_, vI 0, vI 1, vI 0]) rfl ?_
    refine XS.iload X0.here hx rfl (hb hby d295) rfl ?_
    refine XS.iloadN X0.here hx rfl (hb hby d296) rfl ?_
    refine XS.icmpNo X0.here hx rfl (hb hby d297) rfl (tlt ((by decide) : (0 : Int32) < (1 : Int32))).2.1 ?_
    refine XS.aloadN X0.here hx rfl (hb hby d298) rfl rfl ?_
    refine XS.iload X0.here hx rfl (hb hby d299) rfl ?_
    refine st2 _ ?_
    show Steps _ _ _ (T2.setTop (mkF m 15 #[vA b, vI x_, vI 0, vI 1, vI 0] [(.int c0)])) _
    refine XS.iloadN X2.here hx rfl (hb hby d301) rfl ?_
    refine XS.icmpNo X2.here hx rfl (hb hby d302) rfl (teq (he : c0 = x_)).2 ?_
    refine XS.iload X2.here hx rfl (hb hby d303) rfl ?_
    exact retI X2 hx hret (hb hby d304) hr
theorem rm_icu1_1 (l : Launch) (Z : State) (a0 : Array Value) (hw : HW Z a0) (ws : List Jvm.Cond) (c0 : Int32) (x_ : Int32) (b : Addr) (k : ClassId) (h0 : Heap) (n0 : Nat) (Z0 : n0 ≤ h0.size) (P0 : Old Z n0 h0) (P1 : Arv Z h0 b k .byte (2 : Int32) [(.int (oL c0)), (.int (oH c0))] (.int 0)) (P2 : sta1 Z (.int 1)) (P3 : sta2 Z (.int 0)) (P4 : sta3 Z (.int 8)) (r0 : ¬ c0 < 0 ∧ ¬ (65535 : Int32) < c0) (hn0 : ¬ (c0 = x_)) :
    MF l Z m_22 jdk_52_method_48_code 5 (some .int) ws (oR 1 0 0 13) #[(.ref b), (.int x_), (.int 0), (.int 1)] h0 (Q_icu1 Z c0 x_ b k h0 n0) := by
  refine own_body (cls := "java/lang/StringUTF16") (plainFor_of_name pn_4) rfl (fun p e s m below meth c s₁ hx hby hml hown hnm hret hZ X0 e0 => ?_)
  have N0 := Fr.nil n0
  have lt1 := own_l P1.lt
  obtain ⟨_, _, ⟨T2, L2, k2, n2⟩, -, X2, ⟨Lc2, hQ2, l2, y2, z2⟩, st2⟩ := Jvm.LawKit.callS X0 hx (y := m_5) hown (mvT hZ (w_102 hw)) (mvT hZ (w_103 hw)) (mvT hZ (w_72 hw)) (mvT hZ (w_104 hw)) (by decide) (backOf (W := 0) (rm_get1_0 l Z a0 hw [] c0 b k h0 n0 (by omega) P0 P1 P2 P3 P4 r0) hZ (w_104 hw) (w_72 hw) (by decide) (by decide)) (g := (mkF m 12 #[vA b, vI x_, vI 0, vI 1, vI 0] [(.int 0), (.ref b)])) rfl (by rw [hml]; rfl) (argsL := [(.ref b), (.int 0)]) (rest := []) (lenOf pd_5 rfl) rfl (Nat.le_of_eq rfl) (hb hby d300) (fun _ _ => ⟨rfl, e0, (by decide : 0 + 0 ≤ _), (by decide : 0 + 0 ≤ _)⟩)
  dsimp only [Pt.U, Pt.locs, Pt.cells, Pt.slots] at X2 l2 y2 z2 st2 hQ2
  rw [l2, y2, z2] at X2
  obtain ⟨rfl, Nq2, Kq2⟩ := hQ2
  have N2 := Fr.app N0 Nq2
  refine ⟨_, _, _, _, some (.int (-1)), X2, by decide, by decide, nofun, ?_, fun fs hr => castTop (ef_16 m b x_ (0 : Int32) (1 : Int32)) ?_⟩
  · show Q_icu1 Z c0 x_ b k h0 n0 _ T2.heap _
    rw [(Kq2 : T2.heap = h0)]
    exact ⟨(-1 : Int32), rfl, N2, rfl, (iff_of_true (by decide) hn0)⟩
  · show Steps _ _ _ (s₁.setTop (mkF m 0 #[vA b, vI x_, vI 0, vI 1, .unset] [])) _
    refine XS.iloadN X0.here hx rfl (hb hby d293) rfl ?_
    refine XS.istore X0.here hx rfl (hb hby d294) rfl (l' := #[vA b, vI x_, vI 0, vI 1, vI 0]) rfl ?_
    refine XS.iload X0.here hx rfl (hb hby d295) rfl ?_
    refine XS.iloadN X0.here hx rfl (hb hby d296) rfl ?_
    refine XS.icmpNo X0.here hx rfl (hb hby d297) rfl (tlt ((by decide) : (0 : Int32) < (1 : Int32))).2.1 ?_
    refine XS.aloadN X0.here hx rfl (hb hby d298) rfl rfl ?_
    refine XS.iload X0.here hx rfl (hb hby d299) rfl ?_
    refine st2 _ ?_
    show Steps _ _ _ (T2.setTop (mkF m 15 #[vA b, vI x_, vI 0, vI 1, vI 0] [(.int c0)])) _
    refine XS.iloadN X2.here hx rfl (hb hby d301) rfl ?_
    refine XS.icmpYes X2.here hx rfl (pc0 := 16) (pc' := 22) rfl (hb hby d302) rfl (feq (hn0 : ¬ (c0 = x_))).2 (by decide) (by decide) ?_
    refine XS.iinc X2.here hx rfl (hb hby d305) rfl (l' := #[vA b, vI x_, vI 0, vI 1, vI 1]) rfl ?_
    refine XS.goto X2.here hx rfl (pc0 := 25) (pc' := 3) rfl (hb hby d306) (by decide) (by decide) ?_
    refine XS.iload X2.here hx rfl (hb hby d295) rfl ?_
    refine XS.iloadN X2.here hx rfl (hb hby d296) rfl ?_
    refine XS.icmpYes X2.here hx rfl (pc0 := 6) (pc' := 28) rfl (hb hby d297) rfl (flt ((by decide) : ¬ ((1 : Int32) < (1 : Int32)))).2.1 (by decide) (by decide) ?_
    refine XS.iconst X2.here hx rfl (hb hby d307) ?_
    exact retI X2 hx hret (hb hby d308) hr
theorem rm_icu1 (l : Launch) (Z : State) (a0 : Array Value) (hw : HW Z a0) (ws : List Jvm.Cond) (c0 : Int32) (x_ : Int32) (b : Addr) (k : ClassId) (h0 : Heap) (n0 : Nat) (Z0 : n0 ≤ h0.size) (P0 : Old Z n0 h0) (P1 : Arv Z h0 b k .byte (2 : Int32) [(.int (oL c0)), (.int (oH c0))] (.int 0)) (P2 : sta1 Z (.int 1)) (P3 : sta2 Z (.int 0)) (P4 : sta3 Z (.int 8)) (r0 : ¬ c0 < 0 ∧ ¬ (65535 : Int32) < c0) :
    MF l Z m_22 jdk_52_method_48_code 5 (some .int) ws (oR 1 0 0 13) #[(.ref b), (.int x_), (.int 0), (.int 1)] h0 (Q_icu1 Z c0 x_ b k h0 n0) := by
  by_cases k0 : c0 = x_
  · exact rm_icu1_0 l Z a0 hw ws c0 x_ b k h0 n0 Z0 P0 P1 P2 P3 P4 r0 k0
  exact rm_icu1_1 l Z a0 hw ws c0 x_ b k h0 n0 Z0 P0 P1 P2 P3 P4 r0 k0
theorem d309 : decode jdk_52_method_47_code 0 = .ok (.iload_n 2, 1) := by decide +kernel
theorem d310 : decode jdk_52_method_47_code 1 = .ok (.iload_n 3, 1) := by decide +kernel
theorem d311 : decode jdk_52_method_47_code 2 = .ok (.aload_n 0, 1) := by decide +kernel
theorem w_114 {Z : State} {a0 : Array Value} (hw : HW Z a0) : (Jvm.Cond.methodLink "java/lang/StringUTF16" (96 : Nat) m_21).before a0 Z = true := hw _ (List.mem_of_getElem? (i := 114) rfl)
theorem w_116 {Z : State} {a0 : Array Value} (hw : HW Z a0) : (Jvm.Cond.code m_21 jdk_52_method_93_code (3 : Nat) (Option.none : Option Jvm.ClassFile.FieldType)).before a0 Z = true := hw _ (List.mem_of_getElem? (i := 116) rfl)
theorem pd_14 : parseMethodDescriptor "(II[B)V" = some ⟨[.int, .int, (.array .byte)], none⟩ := by decide +kernel
theorem d312 : decode jdk_52_method_47_code 3 = .ok (.invokestatic 96, 3) := by decide +kernel
theorem w_115 {Z : State} {a0 : Array Value} (hw : HW Z a0) : (Jvm.Cond.static m_21).before a0 Z = true := hw _ (List.mem_of_getElem? (i := 115) rfl)
theorem d313 : decode jdk_52_method_47_code 6 = .ok (.aload_n 0, 1) := by decide +kernel
theorem d314 : decode jdk_52_method_47_code 7 = .ok (.iload_n 1, 1) := by decide +kernel
theorem d315 : decode jdk_52_method_47_code 8 = .ok (.iload_n 2, 1) := by decide +kernel
theorem d316 : decode jdk_52_method_47_code 9 = .ok (.iload_n 3, 1) := by decide +kernel
theorem w_128 {Z : State} {a0 : Array Value} (hw : HW Z a0) : (Jvm.Cond.methodLink "java/lang/StringUTF16" (244 : Nat) m_22).before a0 Z = true := hw _ (List.mem_of_getElem? (i := 128) rfl)
theorem w_130 {Z : State} {a0 : Array Value} (hw : HW Z a0) : (Jvm.Cond.code m_22 jdk_52_method_48_code (5 : Nat) (Option.some FieldType.int)).before a0 Z = true := hw _ (List.mem_of_getElem? (i := 130) rfl)
theorem d317 : decode jdk_52_method_47_code 10 = .ok (.invokestatic 244, 3) := by decide +kernel
theorem w_129 {Z : State} {a0 : Array Value} (hw : HW Z a0) : (Jvm.Cond.static m_22).before a0 Z = true := hw _ (List.mem_of_getElem? (i := 129) rfl)
theorem d318 : decode jdk_52_method_47_code 13 = .ok (.ireturn, 1) := by decide +kernel
abbrev m_23 : MethodName := (⟨"java/lang/StringUTF16", "indexOfChar", "([BIII)I"⟩ : MethodName)
def Q_icc1 (Z : State) (c0 : Int32) (x_ : Int32) (b : Addr) (k : ClassId) (sf : Value) (h0 : Heap) (n0 : Nat) (v : Option Value) (h : Heap) (L : List Loc) : Prop := ∃ (r : Int32), (v = some (.int r)) ∧ (Fr n0 L) ∧ (h = h0) ∧ ((r < (0 : Int32)) ↔ (¬ (c0 = x_)))
theorem rm_icc1 (l : Launch) (Z : State) (a0 : Array Value) (hw : HW Z a0) (ws : List Jvm.Cond) (c0 : Int32) (x_ : Int32) (b : Addr) (k : ClassId) (sf : Value) (h0 : Heap) (n0 : Nat) (Z0 : n0 ≤ h0.size) (P0 : Old Z n0 h0) (P1 : Arv Z h0 b k .byte (2 : Int32) [(.int (oL c0)), (.int (oH c0))] (.int 0)) (P2 : sta1 Z (.int 1)) (P3 : sta2 Z (.int 0)) (P4 : sta3 Z (.int 8)) (P5 : sta4 Z sf) (r0 : ¬ c0 < 0 ∧ ¬ (65535 : Int32) < c0) (hsf : sf.isRef = true) :
    MF l Z m_23 jdk_52_method_47_code 4 (some .int) ws (oR 3 0 0 43) #[(.ref b), (.int x_), (.int 0), (.int 1)] h0 (Q_icc1 Z c0 x_ b k sf h0 n0) := by
  refine own_body (cls := "java/lang/StringUTF16") (plainFor_of_name pn_4) rfl (fun p e s m below meth c s₁ hx hby hml hown hnm hret hZ X0 e0 => ?_)
  have N0 := Fr.nil n0
  have lt1 := own_l P1.lt
  obtain ⟨_, _, ⟨T2, L2, k2, n2⟩, -, X2, ⟨Lc2, hQ2, l2, y2, z2⟩, st2⟩ := Jvm.LawKit.callS X0 hx (y := m_21) hown (mvT hZ (w_114 hw)) (mvT hZ (w_115 hw)) (mvT hZ (w_72 hw)) (mvT hZ (w_116 hw)) (by decide) (backOf (W := 0) (rm_ucb1 l Z a0 hw [] b k ([(.int (oL c0)), (.int (oH c0))]) sf h0 n0 (by omega) P0 P1 P5 hsf) hZ (w_116 hw) (w_72 hw) (by decide) (by decide)) (g := (mkF m 3 #[vA b, vI x_, vI 0, vI 1] [(.ref b), (.int 1), (.int 0)])) rfl (by rw [hml]; rfl) (argsL := [(.int 0), (.int 1), (.ref b)]) (rest := []) (lenOf pd_14 rfl) rfl (Nat.le_of_eq rfl) (hb hby d312) (fun _ _ => ⟨rfl, e0, (by decide : 0 + 0 ≤ _), (by decide : 0 + 0 ≤ _)⟩)
  dsimp only [Pt.U, Pt.locs, Pt.cells, Pt.slots] at X2 l2 y2 z2 st2 hQ2
  rw [l2, y2, z2] at X2
  obtain ⟨rfl, Nq2, Kq2⟩ := hQ2
  have N2 := Fr.app N0 Nq2
  obtain ⟨_, _, ⟨T3, L3, k3, n3⟩, -, X3, ⟨Lc3, hQ3, l3, y3, z3⟩, st3⟩ := Jvm.LawKit.callS X2 hx (y := m_22) hown (mvT hZ (w_128 hw)) (mvT hZ (w_129 hw)) (mvT hZ (w_72 hw)) (mvT hZ (w_130 hw)) (by decide) (backOf (W := 0) (rm_icu1 l Z a0 hw [] c0 x_ b k h0 n0 (by omega) P0 P1 P2 P3 P4 r0) hZ (w_130 hw) (w_72 hw) (by decide) (by decide)) (g := (mkF m 10 #[vA b, vI x_, vI 0, vI 1] [(.int 1), (.int 0), (.int x_), (.ref b)])) rfl (by rw [hml]; rfl) (argsL := [(.ref b), (.int x_), (.int 0), (.int 1)]) (rest := []) (lenOf pd_10 rfl) rfl (Nat.le_of_eq rfl) (hb hby d317) (fun _ _ => ⟨rfl, Kq2, (by decide : 0 + 0 ≤ _), (by decide : 0 + 0 ≤ _)⟩)
  dsimp only [Pt.U, Pt.locs, Pt.cells, Pt.slots] at X3 l3 y3 z3 st3 hQ3
  rw [l3, y3, z3] at X3
  obtain ⟨x3_r, rfl, Nq3, Kq3, r3_0⟩ := hQ3
  have N3 := Fr.app N2 Nq3
  refine ⟨_, _, _, _, some (.int x3_r), X3, by decide, by decide, nofun, ?_, fun fs hr => castTop (ef_11 m b x_ (0 : Int32) (1 : Int32)) ?_⟩
  · show Q_icc1 Z c0 x_ b k sf h0 n0 _ T3.heap _
    rw [(Kq3 : T3.heap = h0)]
    exact ⟨x3_r, rfl, N3, rfl, r3_0⟩
  · show Steps _ _ _ (s₁.setTop (mkF m 0 #[vA b, vI x_, vI 0, vI 1] [])) _
    refine XS.iloadN X0.here hx rfl (hb hby d309) rfl ?_
    refine XS.iloadN X0.here hx rfl (hb hby d310) rfl ?_
    refine XS.aloadN X0.here hx rfl (hb hby d311) rfl rfl ?_
    refine st2 _ ?_
    show Steps _ _ _ (T2.setTop (mkF m 6 #[vA b, vI x_, vI 0, vI 1] [])) _
    refine XS.aloadN X2.here hx rfl (hb hby d313) rfl rfl ?_
    refine XS.iloadN X2.here hx rfl (hb hby d314) rfl ?_
    refine XS.iloadN X2.here hx rfl (hb hby d315) rfl ?_
    refine XS.iloadN X2.here hx rfl (hb hby d316) rfl ?_
    refine st3 _ ?_
    show Steps _ _ _ (T3.setTop (mkF m 13 #[vA b, vI x_, vI 0, vI 1] [(.int x3_r)])) _
    exact retI X3 hx hret (hb hby d318) hr
theorem d319 : decode jdk_52_method_40_code 0 = .ok (.iload_n 2, 1) := by decide +kernel
theorem d320 : decode jdk_52_method_40_code 1 = .ok (.iconst 0, 1) := by decide +kernel
theorem w_108 {Z : State} {a0 : Array Value} (hw : HW Z a0) : (Jvm.Cond.methodLink "java/lang/StringUTF16" (224 : Nat) m_0).before a0 Z = true := hw _ (List.mem_of_getElem? (i := 108) rfl)
theorem d321 : decode jdk_52_method_40_code 2 = .ok (.invokestatic 224, 3) := by decide +kernel
theorem d322 : decode jdk_52_method_40_code 5 = .ok (.istore_n 2, 1) := by decide +kernel
theorem d323 : decode jdk_52_method_40_code 6 = .ok (.iload_n 3, 1) := by decide +kernel
theorem d324 : decode jdk_52_method_40_code 7 = .ok (.aload_n 0, 1) := by decide +kernel
theorem d325 : decode jdk_52_method_40_code 8 = .ok (.arraylength, 1) := by decide +kernel
theorem d326 : decode jdk_52_method_40_code 9 = .ok (.iconst 1, 1) := by decide +kernel
theorem d327 : decode jdk_52_method_40_code 10 = .ok (.ishr, 1) := by decide +kernel
theorem w_109 {Z : State} {a0 : Array Value} (hw : HW Z a0) : (Jvm.Cond.methodLink "java/lang/StringUTF16" (183 : Nat) m_1).before a0 Z = true := hw _ (List.mem_of_getElem? (i := 109) rfl)
theorem d328 : decode jdk_52_method_40_code 11 = .ok (.invokestatic 183, 3) := by decide +kernel
theorem d329 : decode jdk_52_method_40_code 14 = .ok (.istore_n 3, 1) := by decide +kernel
theorem d330 : decode jdk_52_method_40_code 15 = .ok (.iload_n 2, 1) := by decide +kernel
theorem d331 : decode jdk_52_method_40_code 16 = .ok (.iload_n 3, 1) := by decide +kernel
theorem d332 : decode jdk_52_method_40_code 17 = .ok (.if_icmp .lt 5, 3) := by decide +kernel
theorem d333 : decode jdk_52_method_40_code 22 = .ok (.iload_n 1, 1) := by decide +kernel
theorem w_110 {Z : State} {a0 : Array Value} (hw : HW Z a0) : (Jvm.Cond.constant "java/lang/StringUTF16" (227 : Nat) (65536 : Int32)).before a0 Z = true := hw _ (List.mem_of_getElem? (i := 110) rfl)
theorem d334 : decode jdk_52_method_40_code 23 = .ok (.ldc 227, 2) := by decide +kernel
theorem d335 : decode jdk_52_method_40_code 25 = .ok (.if_icmp .ge 11, 3) := by decide +kernel
theorem d336 : decode jdk_52_method_40_code 28 = .ok (.aload_n 0, 1) := by decide +kernel
theorem d337 : decode jdk_52_method_40_code 29 = .ok (.iload_n 1, 1) := by decide +kernel
theorem d338 : decode jdk_52_method_40_code 30 = .ok (.iload_n 2, 1) := by decide +kernel
theorem d339 : decode jdk_52_method_40_code 31 = .ok (.iload_n 3, 1) := by decide +kernel
theorem w_111 {Z : State} {a0 : Array Value} (hw : HW Z a0) : (Jvm.Cond.methodLink "java/lang/StringUTF16" (228 : Nat) m_23).before a0 Z = true := hw _ (List.mem_of_getElem? (i := 111) rfl)
theorem w_113 {Z : State} {a0 : Array Value} (hw : HW Z a0) : (Jvm.Cond.code m_23 jdk_52_method_47_code (4 : Nat) (Option.some FieldType.int)).before a0 Z = true := hw _ (List.mem_of_getElem? (i := 113) rfl)
theorem d340 : decode jdk_52_method_40_code 32 = .ok (.invokestatic 228, 3) := by decide +kernel
theorem w_112 {Z : State} {a0 : Array Value} (hw : HW Z a0) : (Jvm.Cond.static m_23).before a0 Z = true := hw _ (List.mem_of_getElem? (i := 112) rfl)
theorem d341 : decode jdk_52_method_40_code 35 = .ok (.ireturn, 1) := by decide +kernel
abbrev m_24 : MethodName := (⟨"java/lang/StringUTF16", "indexOf", "([BIII)I"⟩ : MethodName)
def Q_iou1 (Z : State) (c0 : Int32) (x_ : Int32) (b : Addr) (k : ClassId) (sf : Value) (h0 : Heap) (n0 : Nat) (v : Option Value) (h : Heap) (L : List Loc) : Prop := ∃ (r : Int32), (v = some (.int r)) ∧ (Fr n0 L) ∧ (h = h0) ∧ ((r < (0 : Int32)) ↔ (¬ (c0 = x_)))
theorem rm_iou1 (l : Launch) (Z : State) (a0 : Array Value) (hw : HW Z a0) (ws : List Jvm.Cond) (c0 : Int32) (x_ : Int32) (b : Addr) (k : ClassId) (sf : Value) (h0 : Heap) (n0 : Nat) (Z0 : n0 ≤ h0.size) (P0 : Old Z n0 h0) (P1 : Arv Z h0 b k .byte (2 : Int32) [(.int (oL c0)), (.int (oH c0))] (.int 0)) (P2 : sta1 Z (.int 1)) (P3 : sta2 Z (.int 0)) (P4 : sta3 Z (.int 8)) (P5 : sta4 Z sf) (r0 : ¬ c0 < 0 ∧ ¬ (65535 : Int32) < c0) (hsf : sf.isRef = true) (hx2 : x_ < (65536 : Int32)) :
    MF l Z m_24 jdk_52_method_40_code 4 (some .int) ws (oR 4 0 0 58) #[(.ref b), (.int x_), (.int 0), (.int 1)] h0 (Q_iou1 Z c0 x_ b k sf h0 n0) := by
  refine own_body (cls := "java/lang/StringUTF16") (plainFor_of_name pn_4) rfl (fun p e s m below meth c s₁ hx hby hml hown hnm hret hZ X0 e0 => ?_)
  have N0 := Fr.nil n0
  have lt1 := own_l P1.lt
  obtain ⟨_, _, ⟨T2, L2, k2, n2⟩, -, X2, ⟨Lc2, hQ2, l2, y2, z2⟩, st2⟩ := Jvm.LawKit.callS X0 hx (y := m_0) hown (mvT hZ (w_108 hw)) (mvT hZ (w_64 hw)) (mvT hZ (w_65 hw)) (mvT hZ (w_66 hw)) (by decide) (backOf (W := 0) (rm_max0 l Z a0 hw []  h0 n0 (by omega) ) hZ (w_66 hw) (w_65 hw) (by decide) (by decide)) (g := (mkF m 2 #[vA b, vI x_, vI 0, vI 1] [(.int 0), (.int 0)])) rfl (by rw [hml]; rfl) (argsL := [(.int 0), (.int 0)]) (rest := []) (lenOf pd_9 rfl) rfl (Nat.le_of_eq rfl) (hb hby d321) (fun _ _ => ⟨rfl, e0, (by decide : 0 + 0 ≤ _), (by decide : 0 + 0 ≤ _)⟩)
  dsimp only [Pt.U, Pt.locs, Pt.cells, Pt.slots] at X2 l2 y2 z2 st2 hQ2
  rw [l2, y2, z2] at X2
  obtain ⟨rfl, Nq2, Kq2⟩ := hQ2
  have N2 := Fr.app N0 Nq2
  obtain ⟨cl3, Ar3, q3, S3, M3, H3, G3⟩ := id P1
  obtain ⟨_, _, ⟨T4, L4, k4, n4⟩, -, X4, ⟨Lc4, hQ4, l4, y4, z4⟩, st4⟩ := Jvm.LawKit.callS X2 hx (y := m_1) hown (mvT hZ (w_109 hw)) (mvT hZ (w_68 hw)) (mvT hZ (w_65 hw)) (mvT hZ (w_69 hw)) (by decide) (backOf (W := 0) (rm_min1 l Z a0 hw []  h0 n0 (by omega) ) hZ (w_69 hw) (w_65 hw) (by decide) (by decide)) (g := (mkF m 11 #[vA b, vI x_, vI 0, vI 1] [(.int 1), (.int 1)])) rfl (by rw [hml]; rfl) (argsL := [(.int 1), (.int 1)]) (rest := []) (lenOf pd_9 rfl) rfl (Nat.le_of_eq rfl) (hb hby d328) (fun _ _ => ⟨rfl, Kq2, (by decide : 0 + 0 ≤ _), (by decide : 0 + 0 ≤ _)⟩)
  dsimp only [Pt.U, Pt.locs, Pt.cells, Pt.slots] at X4 l4 y4 z4 st4 hQ4
  rw [l4, y4, z4] at X4
  obtain ⟨rfl, Nq4, Kq4⟩ := hQ4
  have N4 := Fr.app N2 Nq4
  obtain ⟨_, _, ⟨T6, L6, k6, n6⟩, -, X6, ⟨Lc6, hQ6, l6, y6, z6⟩, st6⟩ := Jvm.LawKit.callS X4 hx (y := m_23) hown (mvT hZ (w_111 hw)) (mvT hZ (w_112 hw)) (mvT hZ (w_72 hw)) (mvT hZ (w_113 hw)) (by decide) (backOf (W := 0) (rm_icc1 l Z a0 hw [] c0 x_ b k sf h0 n0 (by omega) P0 P1 P2 P3 P4 P5 r0 hsf) hZ (w_113 hw) (w_72 hw) (by decide) (by decide)) (g := (mkF m 32 #[vA b, vI x_, vI 0, vI 1] [(.int 1), (.int 0), (.int x_), (.ref b)])) rfl (by rw [hml]; rfl) (argsL := [(.ref b), (.int x_), (.int 0), (.int 1)]) (rest := []) (lenOf pd_10 rfl) rfl (Nat.le_of_eq rfl) (hb hby d340) (fun _ _ => ⟨rfl, Kq4, (by decide : 0 + 0 ≤ _), (by decide : 0 + 0 ≤ _)⟩)
  dsimp only [Pt.U, Pt.locs, Pt.cells, Pt.slots] at X6 l6 y6 z6 st6 hQ6
  rw [l6, y6, z6] at X6
  obtain ⟨x6_r, rfl, Nq6, Kq6, r6_0⟩ := hQ6
  have N6 := Fr.app N4 Nq6
  refine ⟨_, _, _, _, some (.int x6_r), X6, by decide, by decide, nofun, ?_, fun fs hr => castTop (ef_11 m b x_ (0 : Int32) (1 : Int32)) ?_⟩
  · show Q_iou1 Z c0 x_ b k sf h0 n0 _ T6.heap _
    rw [(Kq6 : T6.heap = h0)]
    exact ⟨x6_r, rfl, N6, rfl, r6_0⟩
  · show Steps _ _ _ (s₁.setTop (mkF m 0 #[vA b, vI x_, vI 0, vI 1] [])) _
    refine XS.iloadN X0.here hx rfl (hb hby d319) rfl ?_
    refine XS.iconst X0.here hx rfl (hb hby d320) ?_
    refine st2 _ ?_
    show Steps _ _ _ (T2.setTop (mkF m 5 #[vA b, vI x_, vI 0, vI 1] [(.int 0)])) _
    refine XS.istoreN X2.here hx rfl (hb hby d322) rfl (l' := #[vA b, vI x_, vI 0, vI 1]) rfl ?_
    refine XS.iloadN X2.here hx rfl (hb hby d323) rfl ?_
    refine XS.aloadN X2.here hx rfl (hb hby d324) rfl rfl ?_
    refine X2.arraylength hx (by rw [Kq2]; exact Ar3.1) (State.isArrayOf_alike hZ.alike Ar3.2.1) (g := (mkF m 8 #[vA b, vI x_, vI 0, vI 1] [(.ref b), (.int 1)])) rfl rfl (hb hby d325) _ ?_
    rw [len_of S3 M3]
    show Steps _ _ _ (T2.setTop (mkF m 9 #[vA b, vI x_, vI 0, vI 1] [(.int 2), (.int 1)])) _
    refine XS.iconst X2.here hx rfl (hb hby d326) ?_
    refine XS.ishr X2.here hx rfl (hb hby d327) rfl ?_
    refine st4 _ ?_
    show Steps _ _ _ (T4.setTop (mkF m 14 #[vA b, vI x_, vI 0, vI 1] [(.int 1)])) _
    refine XS.istoreN X4.here hx rfl (hb hby d329) rfl (l' := #[vA b, vI x_, vI 0, vI 1]) rfl ?_
    refine XS.iloadN X4.here hx rfl (hb hby d330) rfl ?_
    refine XS.iloadN X4.here hx rfl (hb hby d331) rfl ?_
    refine XS.icmpYes X4.here hx rfl (pc0 := 17) (pc' := 22) rfl (hb hby d332) rfl (tlt ((by decide) : (0 : Int32) < (1 : Int32))).1 (by decide) (by decide) ?_
    refine XS.iloadN X4.here hx rfl (hb hby d333) rfl ?_
    refine X4.ldcInt hx hown (mvT hZ (w_110 hw)) (g := (mkF m 23 #[vA b, vI x_, vI 0, vI 1] [(.int x_)])) rfl (hb hby d334) _ ?_
    show Steps _ _ _ (T4.setTop (mkF m 25 #[vA b, vI x_, vI 0, vI 1] [(.int 65536), (.int x_)])) _
    refine XS.icmpNo X4.here hx rfl (hb hby d335) rfl (tlt (hx2 : x_ < (65536 : Int32))).2.1 ?_
    refine XS.aloadN X4.here hx rfl (hb hby d336) rfl rfl ?_
    refine XS.iloadN X4.here hx rfl (hb hby d337) rfl ?_
    refine XS.iloadN X4.here hx rfl (hb hby d338) rfl ?_
    refine XS.iloadN X4.here hx rfl (hb hby d339) rfl ?_
    refine st6 _ ?_
    show Steps _ _ _ (T6.setTop (mkF m 35 #[vA b, vI x_, vI 0, vI 1] [(.int x6_r)])) _
    exact retI X6 hx hret (hb hby d341) hr
def Q_cft2 (Z : State) (sf : Value) (h0 : Heap) (n0 : Nat) (v : Option Value) (h : Heap) (L : List Loc) : Prop := (v = some (.int 0)) ∧ (Fr n0 L) ∧ (h = h0)
theorem rm_cft2 (l : Launch) (Z : State) (a0 : Array Value) (hw : HW Z a0) (ws : List Jvm.Cond) (sf : Value) (h0 : Heap) (n0 : Nat) (Z0 : n0 ≤ h0.size) (hsf : sf.isRef = true) :
    MF l Z m_19 jdk_41_method_12_code 4 (some .int) ws (oR 0 0 0 0) #[(.int 0), (.int 2), (.int 2), sf] h0 (Q_cft2 Z sf h0 n0) := by
  refine own_body (cls := "jdk/internal/util/Preconditions") (plainFor_of_name pn_6) rfl (fun p e s m below meth c s₁ hx hby hml hown hnm hret hZ X0 e0 => ?_)
  have N0 := Fr.nil n0
  refine ⟨_, _, _, _, some (.int 0), X0, by decide, by decide, nofun, ?_, fun fs hr => castTop (ef_13 m (0 : Int32) (2 : Int32) (2 : Int32) sf hsf) ?_⟩
  · show Q_cft2 Z sf h0 n0 _ s₁.heap _
    rw [(e0 : s₁.heap = h0)]
    exact ⟨rfl, N0, rfl⟩
  · show Steps _ _ _ (s₁.setTop (mkF m 0 #[vI 0, vI 2, vI 2, .val sf] [])) _
    refine XS.iloadN X0.here hx rfl (hb hby d270) rfl ?_
    refine XS.ifNo X0.here hx rfl (hb hby d271) rfl ((if0 _ _).trans (flt ((by decide) : ¬ ((0 : Int32) < (0 : Int32)))).1) ?_
    refine XS.iloadN X0.here hx rfl (hb hby d272) rfl ?_
    refine XS.iloadN X0.here hx rfl (hb hby d273) rfl ?_
    refine XS.icmpNo X0.here hx rfl (hb hby d274) rfl (flt ((by decide) : ¬ ((2 : Int32) < (0 : Int32)))).2.2.1 ?_
    refine XS.iloadN X0.here hx rfl (hb hby d275) rfl ?_
    refine XS.iloadN X0.here hx rfl (hb hby d276) rfl ?_
    refine XS.icmpYes X0.here hx rfl (pc0 := 11) (pc' := 22) rfl (hb hby d277) rfl (flt ((by decide) : ¬ ((2 : Int32) < (2 : Int32)))).2.2.2 (by decide) (by decide) ?_
    refine XS.iloadN X0.here hx rfl (hb hby d278) rfl ?_
    exact retI X0 hx hret (hb hby d279) hr
def Q_scb2 (Z : State) (sf : Value) (h0 : Heap) (n0 : Nat) (v : Option Value) (h : Heap) (L : List Loc) : Prop := (v = none) ∧ (Fr n0 L) ∧ (h = h0)
theorem rm_scb2 (l : Launch) (Z : State) (a0 : Array Value) (hw : HW Z a0) (ws : List Jvm.Cond) (sf : Value) (h0 : Heap) (n0 : Nat) (Z0 : n0 ≤ h0.size) (P0 : Old Z n0 h0) (P1 : sta4 Z sf) (hsf : sf.isRef = true) :
    MF l Z m_20 jdk_42_method_158_code 3 none ws (oR 1 0 0 15) #[(.int 0), (.int 2), (.int 2)] h0 (Q_scb2 Z sf h0 n0) := by
  refine own_body (cls := "java/lang/String") (plainFor_of_name pn_5) rfl (fun p e s m below meth c s₁ hx hby hml hown hnm hret hZ X0 e0 => ?_)
  have N0 := Fr.nil n0
  obtain ⟨T1, X1, e1, st1⟩ := getS2 X0 hx hZ hown (host := "") (Or.inl (w_123 hw)) Via.refl e0 (P1.ext P0.2) (g := (mkF m 3 #[vI 0, vI 2, vI 2] [(.int 2), (.int 2), (.int 0)])) rfl (hb hby d283)
  obtain ⟨_, _, ⟨T2, L2, k2, n2⟩, -, X2, ⟨Lc2, hQ2, l2, y2, z2⟩, st2⟩ := Jvm.LawKit.callS X1 hx (y := m_19) hown (mvT hZ (w_125 hw)) (mvT hZ (w_126 hw)) (mvT hZ (w_124 hw)) (mvT hZ (w_127 hw)) (by decide) (backOf (W := 0) (rm_cft2 l Z a0 hw [] sf h0 n0 (by omega) hsf) hZ (w_127 hw) (w_124 hw) (by decide) (by decide)) (g := (mkF m 6 #[vI 0, vI 2, vI 2] [sf, (.int 2), (.int 2), (.int 0)])) rfl (by rw [hml]; rfl) (argsL := [(.int 0), (.int 2), (.int 2), sf]) (rest := []) (lenOf pd_11 rfl) rfl (Nat.le_of_eq rfl) (hb hby d284) (fun _ _ => ⟨rfl, e1, (by decide : 0 + 0 ≤ _), (by decide : 0 + 0 ≤ _)⟩)
  dsimp only [Pt.U, Pt.locs, Pt.cells, Pt.slots] at X2 l2 y2 z2 st2 hQ2
  rw [l2, y2, z2] at X2
  obtain ⟨rfl, Nq2, Kq2⟩ := hQ2
  have N2 := Fr.app N0 Nq2
  refine ⟨_, _, _, _, none, X2, by decide, by decide, fun _ => rfl, ?_, fun fs hr => castTop (ef_14 m (0 : Int32) (2 : Int32) (2 : Int32)) ?_⟩
  · show Q_scb2 Z sf h0 n0 _ T2.heap _
    rw [(Kq2 : T2.heap = h0)]
    exact ⟨rfl, N2, rfl⟩
  · show Steps _ _ _ (s₁.setTop (mkF m 0 #[vI 0, vI 2, vI 2] [])) _
    refine XS.iloadN X0.here hx rfl (hb hby d280) rfl ?_
    refine XS.iloadN X0.here hx rfl (hb hby d281) rfl ?_
    refine XS.iloadN X0.here hx rfl (hb hby d282) rfl ?_
    refine st1 _ ?_
    show Steps _ _ _ (T1.setTop (mkF m 6 #[vI 0, vI 2, vI 2] [sf, (.int 2), (.int 2), (.int 0)])) _
    refine st2 _ ?_
    show Steps _ _ _ (T2.setTop (mkF m 9 #[vI 0, vI 2, vI 2] [(.int 0)])) _
    refine XS.pop X2.here hx rfl (hb hby d285) rfl rfl ?_
    exact X2.returnOut hx hret (hb hby d286) hr
def Q_ucb2 (Z : State) (b : Addr) (k : ClassId) (vs : List Value) (sf : Value) (h0 : Heap) (n0 : Nat) (v : Option Value) (h : Heap) (L : List Loc) : Prop := (v = none) ∧ (Fr n0 L) ∧ (h = h0)
theorem rm_ucb2 (l : Launch) (Z : State) (a0 : Array Value) (hw : HW Z a0) (ws : List Jvm.Cond) (b : Addr) (k : ClassId) (vs : List Value) (sf : Value) (h0 : Heap) (n0 : Nat) (Z0 : n0 ≤ h0.size) (P0 : Old Z n0 h0) (P1 : Arv Z h0 b k .byte (4 : Int32) vs (.int 0)) (P2 : sta4 Z sf) (hsf : sf.isRef = true) :
    MF l Z m_21 jdk_52_method_93_code 3 none ws (oR 2 0 0 29) #[(.int 0), (.int 2), (.ref b)] h0 (Q_ucb2 Z b k vs sf h0 n0) := by
  refine own_body (cls := "java/lang/StringUTF16") (plainFor_of_name pn_4) rfl (fun p e s m below meth c s₁ hx hby hml hown hnm hret hZ X0 e0 => ?_)
  have N0 := Fr.nil n0
  have lt1 := own_l P1.lt
  obtain ⟨_, _, ⟨T2, L2, k2, n2⟩, -, X2, ⟨Lc2, hQ2, l2, y2, z2⟩, st2⟩ := Jvm.LawKit.callS X0 hx (y := m_18) hown (mvT hZ (w_117 hw)) (mvT hZ (w_118 hw)) (mvT hZ (w_72 hw)) (mvT hZ (w_119 hw)) (by decide) (backOf (W := 2) (rm_u16len2 l Z a0 hw [] b k vs h0 n0 (by omega) P1) hZ (w_119 hw) (w_72 hw) (by decide) (by decide)) (g := (mkF m 3 #[vI 0, vI 2, vA b] [(.ref b), (.int 2), (.int 0)])) rfl (by rw [hml]; rfl) (argsL := [(.ref b)]) (rest := [(.int 2), (.int 0)]) (lenOf pd_12 rfl) rfl (Nat.le_of_eq rfl) (hb hby d290) (fun _ _ => ⟨rfl, e0, (by decide : 0 + 0 ≤ _), (by decide : 0 + 0 ≤ _)⟩)
  dsimp only [Pt.U, Pt.locs, Pt.cells, Pt.slots] at X2 l2 y2 z2 st2 hQ2
  rw [l2, y2, z2] at X2
  obtain ⟨rfl, Nq2, Kq2⟩ := hQ2
  have N2 := Fr.app N0 Nq2
  obtain ⟨_, _, ⟨T3, L3, k3, n3⟩, -, X3, ⟨Lc3, hQ3, l3, y3, z3⟩, st3⟩ := Jvm.LawKit.callS X2 hx (y := m_20) hown (mvT hZ (w_120 hw)) (mvT hZ (w_121 hw)) (mvT hZ (w_6 hw)) (mvT hZ (w_122 hw)) (by decide) (backOf (W := 0) (rm_scb2 l Z a0 hw [] sf h0 n0 (by omega) P0 P2 hsf) hZ (w_122 hw) (w_6 hw) (by decide) (by decide)) (g := (mkF m 6 #[vI 0, vI 2, vA b] [(.int 2), (.int 2), (.int 0)])) rfl (by rw [hml]; rfl) (argsL := [(.int 0), (.int 2), (.int 2)]) (rest := []) (lenOf pd_13 rfl) rfl (Nat.le_of_eq rfl) (hb hby d291) (fun _ _ => ⟨rfl, Kq2, (by decide : 0 + 0 ≤ _), (by decide : 0 + 0 ≤ _)⟩)
  dsimp only [Pt.U, Pt.locs, Pt.cells, Pt.slots] at X3 l3 y3 z3 st3 hQ3
  rw [l3, y3, z3] at X3
  obtain ⟨rfl, Nq3, Kq3⟩ := hQ3
  have N3 := Fr.app N2 Nq3
  refine ⟨_, _, _, _, none, X3, by decide, by decide, fun _ => rfl, ?_, fun fs hr => castTop (ef_15 m (0 : Int32) (2 : Int32) b) ?_⟩
  · show Q_ucb2 Z b k vs sf h0 n0 _ T3.heap _
    rw [(Kq3 : T3.heap = h0)]
    exact ⟨rfl, N3, rfl⟩
  · show Steps _ _ _ (s₁.setTop (mkF m 0 #[vI 0, vI 2, vA b] [])) _
    refine XS.iloadN X0.here hx rfl (hb hby d287) rfl ?_
    refine XS.iloadN X0.here hx rfl (hb hby d288) rfl ?_
    refine XS.aloadN X0.here hx rfl (hb hby d289) rfl rfl ?_
    refine st2 _ ?_
    show Steps _ _ _ (T2.setTop (mkF m 6 #[vI 0, vI 2, vA b] [(.int 2), (.int 2), (.int 0)])) _
    refine st3 _ ?_
    show Steps _ _ _ (T3.setTop (mkF m 9 #[vI 0, vI 2, vA b] [])) _
    exact X3.returnOut hx hret (hb hby d292) hr
def Q_icu2 (Z : State) (c0 : Int32) (c1 : Int32) (x_ : Int32) (b : Addr) (k : ClassId) (h0 : Heap) (n0 : Nat) (v : Option Value) (h : Heap) (L : List Loc) : Prop := ∃ (r : Int32), (v = some (.int r)) ∧ (Fr n0 L) ∧ (h = h0) ∧ ((r < (0 : Int32)) ↔ (¬ (c0 = x_) ∧ ¬ (c1 = x_)))
theorem rm_icu2_0 (l : Launch) (Z : State) (a0 : Array Value) (hw : HW Z a0) (ws : List Jvm.Cond) (c0 : Int32) (c1 : Int32) (x_ : Int32) (b : Addr) (k : ClassId) (h0 : Heap) (n0 : Nat) (Z0 : n0 ≤ h0.size) (P0 : Old Z n0 h0) (P1 : Arv Z h0 b k .byte (4 : Int32) [(.int (oL c0)), (.int (oH c0)), (.int (oL c1)), (.int (oH c1))] (.int 0)) (P2 : sta1 Z (.int 1)) (P3 : sta2 Z (.int 0)) (P4 : sta3 Z (.int 8)) (r0 : ¬ c0 < 0 ∧ ¬ (65535 : Int32) < c0) (r1 : ¬ c1 < 0 ∧ ¬ (65535 : Int32) < c1) (he : c0 = x_) :
    MF l Z m_22 jdk_52_method_48_code 5 (some .int) ws (oR 1 0 0 13) #[(.ref b), (.int x_), (.int 0), (.int 2)] h0 (Q_icu2 Z c0 c1 x_ b k h0 n0) := by
  refine own_body (cls := "java/lang/StringUTF16") (plainFor_of_name pn_4) rfl (fun p e s m below meth c s₁ hx hby hml hown hnm hret hZ X0 e0 => ?_)
  have N0 := Fr.nil n0
  have lt1 := own_l P1.lt
  obtain ⟨_, _, ⟨T2, L2, k2, n2⟩, -, X2, ⟨Lc2, hQ2, l2, y2, z2⟩, st2⟩ := Jvm.LawKit.callS X0 hx (y := m_5) hown (mvT hZ (w_102 hw)) (mvT hZ (w_103 hw)) (mvT hZ (w_72 hw)) (mvT hZ (w_104 hw)) (by decide) (backOf (W := 0) (rm_get2_0 l Z a0 hw [] c0 c1 b k h0 n0 (by omega) P0 P1 P2 P3 P4 r0) hZ (w_104 hw) (w_72 hw) (by decide) (by decide)) (g := (mkF m 12 #[vA b, vI x_, vI 0, vI 2, vI 0] [(.int 0), (.ref b)])) rfl (by rw [hml]; rfl) (argsL := [(.ref b), (.int 0)]) (rest := []) (lenOf pd_5 rfl) rfl (Nat.le_of_eq rfl) (hb hby d300) (fun _ _ => ⟨rfl, e0, (by decide : 0 + 0 ≤ _), (by decide : 0 + 0 ≤ _)⟩)
  dsimp only [Pt.U, Pt.locs, Pt.cells, Pt.slots] at X2 l2 y2 z2 st2 hQ2
  rw [l2, y2, z2] at X2
  obtain ⟨rfl, Nq2, Kq2⟩ := hQ2
  have N2 := Fr.app N0 Nq2
  refine ⟨_, _, _, _, some (.int 0), X2, by decide, by decide, nofun, ?_, fun fs hr => castTop (ef_16 m b x_ (0 : Int32) (2 : Int32)) ?_⟩
  · show Q_icu2 Z c0 c1 x_ b k h0 n0 _ T2.heap _
    rw [(Kq2 : T2.heap = h0)]
    exact ⟨(0 : Int32), rfl, N2, rfl, (iff_of_false (by decide) (fun q => q.1 he))⟩
  · show Steps _ _ _ (s₁.setTop (mkF m 0 #[vA b, vI x_, vI 0, vI 2, .unset] [])) _
    refine XS.iloadN X0.here hx rfl (hb hby d293) rfl ?_
    refine XS.istore X0.here hx rfl (hb hby d294) rfl (l' := #[vA b, vI x_, vI 0, vI 2, vI 0]) rfl ?_
    refine XS.iload X0.here hx rfl (hb hby d295) rfl ?_
    refine XS.iloadN X0.here hx rfl (hb hby d296) rfl ?_
    refine XS.icmpNo X0.here hx rfl (hb hby d297) rfl (tlt ((by decide) : (0 : Int32) < (2 : Int32))).2.1 ?_
    refine XS.aloadN X0.here hx rfl (hb hby d298) rfl rfl ?_
    refine XS.iload X0.here hx rfl (hb hby d299) rfl ?_
    refine st2 _ ?_
    show Steps _ _ _ (T2.setTop (mkF m 15 #[vA b, vI x_, vI 0, vI 2, vI 0] [(.int c0)])) _
    refine XS.iloadN X2.here hx rfl (hb hby d301) rfl ?_
    refine XS.icmpNo X2.here hx rfl (hb hby d302) rfl (teq (he : c0 = x_)).2 ?_
    refine XS.iload X2.here hx rfl (hb hby d303) rfl ?_
    exact retI X2 hx hret (hb hby d304) hr
theorem rm_icu2_1 (l : Launch) (Z : State) (a0 : Array Value) (hw : HW Z a0) (ws : List Jvm.Cond) (c0 : Int32) (c1 : Int32) (x_ : Int32) (b : Addr) (k : ClassId) (h0 : Heap) (n0 : Nat) (Z0 : n0 ≤ h0.size) (P0 : Old Z n0 h0) (P1 : Arv Z h0 b k .byte (4 : Int32) [(.int (oL c0)), (.int (oH c0)), (.int (oL c1)), (.int (oH c1))] (.int 0)) (P2 : sta1 Z (.int 1)) (P3 : sta2 Z (.int 0)) (P4 : sta3 Z (.int 8)) (r0 : ¬ c0 < 0 ∧ ¬ (65535 : Int32) < c0) (r1 : ¬ c1 < 0 ∧ ¬ (65535 : Int32) < c1) (hn0 : ¬ (c0 = x_)) (he : c1 = x_) :
    MF l Z m_22 jdk_52_method_48_code 5 (some .int) ws (oR 1 0 0 13) #[(.ref b), (.int x_), (.int 0), (.int 2)] h0 (Q_icu2 Z c0 c1 x_ b k h0 n0) := by
  refine own_body (cls := "java/lang/StringUTF16") (plainFor_of_name pn_4) rfl (fun p e s m below meth c s₁ hx hby hml hown hnm hret hZ X0 e0 => ?_)
  have N0 := Fr.nil n0
  have lt1 := own_l P1.lt
  obtain ⟨_, _, ⟨T2, L2, k2, n2⟩, -, X2, ⟨Lc2, hQ2, l2, y2, z2⟩, st2⟩ := Jvm.LawKit.callS X0 hx (y := m_5) hown (mvT hZ (w_102 hw)) (mvT hZ (w_103 hw)) (mvT hZ (w_72 hw)) (mvT hZ (w_104 hw)) (by decide) (backOf (W := 0) (rm_get2_0 l Z a0 hw [] c0 c1 b k h0 n0 (by omega) P0 P1 P2 P3 P4 r0) hZ (w_104 hw) (w_72 hw) (by decide) (by decide)) (g := (mkF m 12 #[vA b, vI x_, vI 0, vI 2, vI 0] [(.int 0), (.ref b)])) rfl (by rw [hml]; rfl) (argsL := [(.ref b), (.int 0)]) (rest := []) (lenOf pd_5 rfl) rfl (Nat.le_of_eq rfl) (hb hby d300) (fun _ _ => ⟨rfl, e0, (by decide : 0 + 0 ≤ _), (by decide : 0 + 0 ≤ _)⟩)
  dsimp only [Pt.U, Pt.locs, Pt.cells, Pt.slots] at X2 l2 y2 z2 st2 hQ2
  rw [l2, y2, z2] at X2
  obtain ⟨rfl, Nq2, Kq2⟩ := hQ2
  have N2 := Fr.app N0 Nq2
  obtain ⟨_, _, ⟨T3, L3, k3, n3⟩, -, X3, ⟨Lc3, hQ3, l3, y3, z3⟩, st3⟩ := Jvm.LawKit.callS X2 hx (y := m_5) hown (mvT hZ (w_102 hw)) (mvT hZ (w_103 hw)) (mvT hZ (w_72 hw)) (mvT hZ (w_104 hw)) (by decide) (backOf (W := 0) (rm_get2_1 l Z a0 hw [] c0 c1 b k h0 n0 (by omega) P0 P1 P2 P3 P4 r1) hZ (w_104 hw) (w_72 hw) (by decide) (by decide)) (g := (mkF m 12 #[vA b, vI x_, vI 0, vI 2, vI 1] [(.int 1), (.ref b)])) rfl (by rw [hml]; rfl) (argsL := [(.ref b), (.int 1)]) (rest := []) (lenOf pd_5 rfl) rfl (Nat.le_of_eq rfl) (hb hby d300) (fun _ _ => ⟨rfl, Kq2, (by decide : 0 + 0 ≤ _), (by decide : 0 + 0 ≤ _)⟩)
  dsimp only [Pt.U, Pt.locs, Pt.cells, Pt.slots] at X3 l3 y3 z3 st3 hQ3
  rw [l3, y3, z3] at X3
  obtain ⟨rfl, Nq3, Kq3⟩ := hQ3
  have N3 := Fr.app N2 Nq3
  refine ⟨_, _, _, _, some (.int 1), X3, by decide, by decide, nofun, ?_, fun fs hr => castTop (ef_16 m b x_ (0 : Int32) (2 : Int32)) ?_⟩
  · show Q_icu2 Z c0 c1 x_ b k h0 n0 _ T3.heap _
    rw [(Kq3 : T3.heap = h0)]
    exact ⟨(1 : Int32), rfl, N3, rfl, (iff_of_false (by decide) (fun q => q.2 he))⟩
  · show Steps _ _ _ (s₁.setTop (mkF m 0 #[vA b, vI x_, vI 0, vI 2, .unset] [])) _
    refine XS.iloadN X0.here hx rfl (hb hby d293) rfl ?_
    refine XS.istore X0.here hx rfl (hb hby d294) rfl (l' := #[vA b, vI x_, vI 0, vI 2, vI 0]) rfl ?_
    refine XS.iload X0.here hx rfl (hb hby d295) rfl ?_
    refine XS.iloadN X0.here hx rfl (hb hby d296) rfl ?_
    refine XS.icmpNo X0.here hx rfl (hb hby d297) rfl (tlt ((by decide) : (0 : Int32) < (2 : Int32))).2.1 ?_
    refine XS.aloadN X0.here hx rfl (hb hby d298) rfl rfl ?_
    refine XS.iload X0.here hx rfl (hb hby d299) rfl ?_
    refine st2 _ ?_
    show Steps _ _ _ (T2.setTop (mkF m 15 #[vA b, vI x_, vI 0, vI 2, vI 0] [(.int c0)])) _
    refine XS.iloadN X2.here hx rfl (hb hby d301) rfl ?_
    refine XS.icmpYes X2.here hx rfl (pc0 := 16) (pc' := 22) rfl (hb hby d302) rfl (feq (hn0 : ¬ (c0 = x_))).2 (by decide) (by decide) ?_
    refine XS.iinc X2.here hx rfl (hb hby d305) rfl (l' := #[vA b, vI x_, vI 0, vI 2, vI 1]) rfl ?_
    refine XS.goto X2.here hx rfl (pc0 := 25) (pc' := 3) rfl (hb hby d306) (by decide) (by decide) ?_
    refine XS.iload X2.here hx rfl (hb hby d295) rfl ?_
    refine XS.iloadN X2.here hx rfl (hb hby d296) rfl ?_
    refine XS.icmpNo X2.here hx rfl (hb hby d297) rfl (tlt ((by decide) : (1 : Int32) < (2 : Int32))).2.1 ?_
    refine XS.aloadN X2.here hx rfl (hb hby d298) rfl rfl ?_
    refine XS.iload X2.here hx rfl (hb hby d299) rfl ?_
    refine st3 _ ?_
    show Steps _ _ _ (T3.setTop (mkF m 15 #[vA b, vI x_, vI 0, vI 2, vI 1] [(.int c1)])) _
    refine XS.iloadN X3.here hx rfl (hb hby d301) rfl ?_
    refine XS.icmpNo X3.here hx rfl (hb hby d302) rfl (teq (he : c1 = x_)).2 ?_
    refine XS.iload X3.here hx rfl (hb hby d303) rfl ?_
    exact retI X3 hx hret (hb hby d304) hr
theorem rm_icu2_2 (l : Launch) (Z : State) (a0 : Array Value) (hw : HW Z a0) (ws : List Jvm.Cond) (c0 : Int32) (c1 : Int32) (x_ : Int32) (b : Addr) (k : ClassId) (h0 : Heap) (n0 : Nat) (Z0 : n0 ≤ h0.size) (P0 : Old Z n0 h0) (P1 : Arv Z h0 b k .byte (4 : Int32) [(.int (oL c0)), (.int (oH c0)), (.int (oL c1)), (.int (oH c1))] (.int 0)) (P2 : sta1 Z (.int 1)) (P3 : sta2 Z (.int 0)) (P4 : sta3 Z (.int 8)) (r0 : ¬ c0 < 0 ∧ ¬ (65535 : Int32) < c0) (r1 : ¬ c1 < 0 ∧ ¬ (65535 : Int32) < c1) (hn0 : ¬ (c0 = x_)) (hn1 : ¬ (c1 = x_)) :
    MF l Z m_22 jdk_52_method_48_code 5 (some .int) ws (oR 1 0 0 13) #[(.ref b), (.int x_), (.int 0), (.int 2)] h0 (Q_icu2 Z c0 c1 x_ b k h0 n0) := by
  refine own_body (cls := "java/lang/StringUTF16") (plainFor_of_name pn_4) rfl (fun p e s m below meth c s₁ hx hby hml hown hnm hret hZ X0 e0 => ?_)
  have N0 := Fr.nil n0
  have lt1 := own_l P1.lt
  obtain ⟨_, _, ⟨T2, L2, k2, n2⟩, -, X2, ⟨Lc2, hQ2, l2, y2, z2⟩, st2⟩ := Jvm.LawKit.callS X0 hx (y := m_5) hown (mvT hZ (w_102 hw)) (mvT hZ (w_103 hw)) (mvT hZ (w_72 hw)) (mvT hZ (w_104 hw)) (by decide) (backOf (W := 0) (rm_get2_0 l Z a0 hw [] c0 c1 b k h0 n0 (by omega) P0 P1 P2 P3 P4 r0) hZ (w_104 hw) (w_72 hw) (by decide) (by decide)) (g := (mkF m 12 #[vA b, vI x_, vI 0, vI 2, vI 0] [(.int 0), (.ref b)])) rfl (by rw [hml]; rfl) (argsL := [(.ref b), (.int 0)]) (rest := []) (lenOf pd_5 rfl) rfl (Nat.le_of_eq rfl) (hb hby d300) (fun _ _ => ⟨rfl, e0, (by decide : 0 + 0 ≤ _), (by decide : 0 + 0 ≤ _)⟩)
  dsimp only [Pt.U, Pt.locs, Pt.cells, Pt.slots] at X2 l2 y2 z2 st2 hQ2
  rw [l2, y2, z2] at X2
  obtain ⟨rfl, Nq2, Kq2⟩ := hQ2
  have N2 := Fr.app N0 Nq2
  obtain ⟨_, _, ⟨T3, L3, k3, n3⟩, -, X3, ⟨Lc3, hQ3, l3, y3, z3⟩, st3⟩ := Jvm.LawKit.callS X2 hx (y := m_5) hown (mvT hZ (w_102 hw)) (mvT hZ (w_103 hw)) (mvT hZ (w_72 hw)) (mvT hZ (w_104 hw)) (by decide) (backOf (W := 0) (rm_get2_1 l Z a0 hw [] c0 c1 b k h0 n0 (by omega) P0 P1 P2 P3 P4 r1) hZ (w_104 hw) (w_72 hw) (by decide) (by decide)) (g := (mkF m 12 #[vA b, vI x_, vI 0, vI 2, vI 1] [(.int 1), (.ref b)])) rfl (by rw [hml]; rfl) (argsL := [(.ref b), (.int 1)]) (rest := []) (lenOf pd_5 rfl) rfl (Nat.le_of_eq rfl) (hb hby d300) (fun _ _ => ⟨rfl, Kq2, (by decide : 0 + 0 ≤ _), (by decide : 0 + 0 ≤ _)⟩)
  dsimp only [Pt.U, Pt.locs, Pt.cells, Pt.slots] at X3 l3 y3 z3 st3 hQ3
  rw [l3, y3, z3] at X3
  obtain ⟨rfl, Nq3, Kq3⟩ := hQ3
  have N3 := Fr.app N2 Nq3
  refine ⟨_, _, _, _, some (.int (-1)), X3, by decide, by decide, nofun, ?_, fun fs hr => castTop (ef_16 m b x_ (0 : Int32) (2 : Int32)) ?_⟩
  · show Q_icu2 Z c0 c1 x_ b k h0 n0 _ T3.heap _
    rw [(Kq3 : T3.heap = h0)]
    exact ⟨(-1 : Int32), rfl, N3, rfl, (iff_of_true (by decide) ⟨hn0, hn1⟩)⟩
  · show Steps _ _ _ (s₁.setTop (mkF m 0 #[vA b, vI x_, vI 0, vI 2, .unset] [])) _
    refine XS.iloadN X0.here hx rfl (hb hby d293) rfl ?_
    refine XS.istore X0.here hx rfl (hb hby d294) rfl (l' := #[vA b, vI x_, vI 0, vI 2, vI 0]) rfl ?_
    refine XS.iload X0.here hx rfl (hb hby d295) rfl ?_
    refine XS.iloadN X0.here hx rfl (hb hby d296) rfl ?_
    refine XS.icmpNo X0.here hx rfl (hb hby d297) rfl (tlt ((by decide) : (0 : Int32) < (2 : Int32))).2.1 ?_
    refine XS.aloadN X0.here hx rfl (hb hby d298) rfl rfl ?_
    refine XS.iload X0.here hx rfl (hb hby d299) rfl ?_
    refine st2 _ ?_
    show Steps _ _ _ (T2.setTop (mkF m 15 #[vA b, vI x_, vI 0, vI 2, vI 0] [(.int c0)])) _
    refine XS.iloadN X2.here hx rfl (hb hby d301) rfl ?_
    refine XS.icmpYes X2.here hx rfl (pc0 := 16) (pc' := 22) rfl (hb hby d302) rfl (feq (hn0 : ¬ (c0 = x_))).2 (by decide) (by decide) ?_
    refine XS.iinc X2.here hx rfl (hb hby d305) rfl (l' := #[vA b, vI x_, vI 0, vI 2, vI 1]) rfl ?_
    refine XS.goto X2.here hx rfl (pc0 := 25) (pc' := 3) rfl (hb hby d306) (by decide) (by decide) ?_
    refine XS.iload X2.here hx rfl (hb hby d295) rfl ?_
    refine XS.iloadN X2.here hx rfl (hb hby d296) rfl ?_
    refine XS.icmpNo X2.here hx rfl (hb hby d297) rfl (tlt ((by decide) : (1 : Int32) < (2 : Int32))).2.1 ?_
    refine XS.aloadN X2.here hx rfl (hb hby d298) rfl rfl ?_
    refine XS.iload X2.here hx rfl (hb hby d299) rfl ?_
    refine st3 _ ?_
    show Steps _ _ _ (T3.setTop (mkF m 15 #[vA b, vI x_, vI 0, vI 2, vI 1] [(.int c1)])) _
    refine XS.iloadN X3.here hx rfl (hb hby d301) rfl ?_
    refine XS.icmpYes X3.here hx rfl (pc0 := 16) (pc' := 22) rfl (hb hby d302) rfl (feq (hn1 : ¬ (c1 = x_))).2 (by decide) (by decide) ?_
    refine XS.iinc X3.here hx rfl (hb hby d305) rfl (l' := #[vA b, vI x_, vI 0, vI 2, vI 2]) rfl ?_
    refine XS.goto X3.here hx rfl (pc0 := 25) (pc' := 3) rfl (hb hby d306) (by decide) (by decide) ?_
    refine XS.iload X3.here hx rfl (hb hby d295) rfl ?_
    refine XS.iloadN X3.here hx rfl (hb hby d296) rfl ?_
    refine XS.icmpYes X3.here hx rfl (pc0 := 6) (pc' := 28) rfl (hb hby d297) rfl (flt ((by decide) : ¬ ((2 : Int32) < (2 : Int32)))).2.1 (by decide) (by decide) ?_
    refine XS.iconst X3.here hx rfl (hb hby d307) ?_
    exact retI X3 hx hret (hb hby d308) hr
theorem rm_icu2 (l : Launch) (Z : State) (a0 : Array Value) (hw : HW Z a0) (ws : List Jvm.Cond) (c0 : Int32) (c1 : Int32) (x_ : Int32) (b : Addr) (k : ClassId) (h0 : Heap) (n0 : Nat) (Z0 : n0 ≤ h0.size) (P0 : Old Z n0 h0) (P1 : Arv Z h0 b k .byte (4 : Int32) [(.int (oL c0)), (.int (oH c0)), (.int (oL c1)), (.int (oH c1))] (.int 0)) (P2 : sta1 Z (.int 1)) (P3 : sta2 Z (.int 0)) (P4 : sta3 Z (.int 8)) (r0 : ¬ c0 < 0 ∧ ¬ (65535 : Int32) < c0) (r1 : ¬ c1 < 0 ∧ ¬ (65535 : Int32) < c1) :
    MF l Z m_22 jdk_52_method_48_code 5 (some .int) ws (oR 1 0 0 13) #[(.ref b), (.int x_), (.int 0), (.int 2)] h0 (Q_icu2 Z c0 c1 x_ b k h0 n0) := by
  by_cases k0 : c0 = x_
  · exact rm_icu2_0 l Z a0 hw ws c0 c1 x_ b k h0 n0 Z0 P0 P1 P2 P3 P4 r0 r1 k0
  by_cases k1 : c1 = x_
  · exact rm_icu2_1 l Z a0 hw ws c0 c1 x_ b k h0 n0 Z0 P0 P1 P2 P3 P4 r0 r1 k0 k1
  exact rm_icu2_2 l Z a0 hw ws c0 c1 x_ b k h0 n0 Z0 P0 P1 P2 P3 P4 r0 r1 k0 k1
def Q_icc2 (Z : State) (c0 : Int32) (c1 : Int32) (x_ : Int32) (b : Addr) (k : ClassId) (sf : Value) (h0 : Heap) (n0 : Nat) (v : Option Value) (h : Heap) (L : List Loc) : Prop := ∃ (r : Int32), (v = some (.int r)) ∧ (Fr n0 L) ∧ (h = h0) ∧ ((r < (0 : Int32)) ↔ (¬ (c0 = x_) ∧ ¬ (c1 = x_)))
theorem rm_icc2 (l : Launch) (Z : State) (a0 : Array Value) (hw : HW Z a0) (ws : List Jvm.Cond) (c0 : Int32) (c1 : Int32) (x_ : Int32) (b : Addr) (k : ClassId) (sf : Value) (h0 : Heap) (n0 : Nat) (Z0 : n0 ≤ h0.size) (P0 : Old Z n0 h0) (P1 : Arv Z h0 b k .byte (4 : Int32) [(.int (oL c0)), (.int (oH c0)), (.int (oL c1)), (.int (oH c1))] (.int 0)) (P2 : sta1 Z (.int 1)) (P3 : sta2 Z (.int 0)) (P4 : sta3 Z (.int 8)) (P5 : sta4 Z sf) (r0 : ¬ c0 < 0 ∧ ¬ (65535 : Int32) < c0) (r1 : ¬ c1 < 0 ∧ ¬ (65535 : Int32) < c1) (hsf : sf.isRef = true) :
    MF l Z m_23 jdk_52_method_47_code 4 (some .int) ws (oR 3 0 0 43) #[(.ref b), (.int x_), (.int 0), (.int 2)] h0 (Q_icc2 Z c0 c1 x_ b k sf h0 n0) := by
  refine own_body (cls := "java/lang/StringUTF16") (plainFor_of_name pn_4) rfl (fun p e s m below meth c s₁ hx hby hml hown hnm hret hZ X0 e0 => ?_)
  have N0 := Fr.nil n0
  have lt1 := own_l P1.lt
  obtain ⟨_, _, ⟨T2, L2, k2, n2⟩, -, X2, ⟨Lc2, hQ2, l2, y2, z2⟩, st2⟩ := Jvm.LawKit.callS X0 hx (y := m_21) hown (mvT hZ (w_114 hw)) (mvT hZ (w_115 hw)) (mvT hZ (w_72 hw)) (mvT hZ (w_116 hw)) (by decide) (backOf (W := 0) (rm_ucb2 l Z a0 hw [] b k ([(.int (oL c0)), (.int (oH c0)), (.int (oL c1)), (.int (oH c1))]) sf h0 n0 (by omega) P0 P1 P5 hsf) hZ (w_116 hw) (w_72 hw) (by decide) (by decide)) (g := (mkF m 3 #[vA b, vI x_, vI 0, vI 2] [(.ref b), (.int 2), (.int 0)])) rfl (by rw [hml]; rfl) (argsL := [(.int 0), (.int 2), (.ref b)]) (rest := []) (lenOf pd_14 rfl) rfl (Nat.le_of_eq rfl) (hb hby d312) (fun _ _ => ⟨rfl, e0, (by decide : 0 + 0 ≤ _), (by decide : 0 + 0 ≤ _)⟩)
  dsimp only [Pt.U, Pt.locs, Pt.cells, Pt.slots] at X2 l2 y2 z2 st2 hQ2
  rw [l2, y2, z2] at X2
  obtain ⟨rfl, Nq2, Kq2⟩ := hQ2
  have N2 := Fr.app N0 Nq2
  obtain ⟨_, _, ⟨T3, L3, k3, n3⟩, -, X3, ⟨Lc3, hQ3, l3, y3, z3⟩, st3⟩ := Jvm.LawKit.callS X2 hx (y := m_22) hown (mvT hZ (w_128 hw)) (mvT hZ (w_129 hw)) (mvT hZ (w_72 hw)) (mvT hZ (w_130 hw)) (by decide) (backOf (W := 0) (rm_icu2 l Z a0 hw [] c0 c1 x_ b k h0 n0 (by omega) P0 P1 P2 P3 P4 r0 r1) hZ (w_130 hw) (w_72 hw) (by decide) (by decide)) (g := (mkF m 10 #[vA b, vI x_, vI 0, vI 2] [(.int 2), (.int 0), (.int x_), (.ref b)])) rfl (by rw [hml]; rfl) (argsL := [(.ref b), (.int x_), (.int 0), (.int 2)]) (rest := []) (lenOf pd_10 rfl) rfl (Nat.le_of_eq rfl) (hb hby d317) (fun _ _ => ⟨rfl, Kq2, (by decide : 0 + 0 ≤ _), (by decide : 0 + 0 ≤ _)⟩)
  dsimp only [Pt.U, Pt.locs, Pt.cells, Pt.slots] at X3 l3 y3 z3 st3 hQ3
  rw [l3, y3, z3] at X3
  obtain ⟨x3_r, rfl, Nq3, Kq3, r3_0⟩ := hQ3
  have N3 := Fr.app N2 Nq3
  refine ⟨_, _, _, _, some (.int x3_r), X3, by decide, by decide, nofun, ?_, fun fs hr => castTop (ef_11 m b x_ (0 : Int32) (2 : Int32)) ?_⟩
  · show Q_icc2 Z c0 c1 x_ b k sf h0 n0 _ T3.heap _
    rw [(Kq3 : T3.heap = h0)]
    exact ⟨x3_r, rfl, N3, rfl, r3_0⟩
  · show Steps _ _ _ (s₁.setTop (mkF m 0 #[vA b, vI x_, vI 0, vI 2] [])) _
    refine XS.iloadN X0.here hx rfl (hb hby d309) rfl ?_
    refine XS.iloadN X0.here hx rfl (hb hby d310) rfl ?_
    refine XS.aloadN X0.here hx rfl (hb hby d311) rfl rfl ?_
    refine st2 _ ?_
    show Steps _ _ _ (T2.setTop (mkF m 6 #[vA b, vI x_, vI 0, vI 2] [])) _
    refine XS.aloadN X2.here hx rfl (hb hby d313) rfl rfl ?_
    refine XS.iloadN X2.here hx rfl (hb hby d314) rfl ?_
    refine XS.iloadN X2.here hx rfl (hb hby d315) rfl ?_
    refine XS.iloadN X2.here hx rfl (hb hby d316) rfl ?_
    refine st3 _ ?_
    show Steps _ _ _ (T3.setTop (mkF m 13 #[vA b, vI x_, vI 0, vI 2] [(.int x3_r)])) _
    exact retI X3 hx hret (hb hby d318) hr
def Q_iou2 (Z : State) (c0 : Int32) (c1 : Int32) (x_ : Int32) (b : Addr) (k : ClassId) (sf : Value) (h0 : Heap) (n0 : Nat) (v : Option Value) (h : Heap) (L : List Loc) : Prop := ∃ (r : Int32), (v = some (.int r)) ∧ (Fr n0 L) ∧ (h = h0) ∧ ((r < (0 : Int32)) ↔ (¬ (c0 = x_) ∧ ¬ (c1 = x_)))
theorem rm_iou2 (l : Launch) (Z : State) (a0 : Array Value) (hw : HW Z a0) (ws : List Jvm.Cond) (c0 : Int32) (c1 : Int32) (x_ : Int32) (b : Addr) (k : ClassId) (sf : Value) (h0 : Heap) (n0 : Nat) (Z0 : n0 ≤ h0.size) (P0 : Old Z n0 h0) (P1 : Arv Z h0 b k .byte (4 : Int32) [(.int (oL c0)), (.int (oH c0)), (.int (oL c1)), (.int (oH c1))] (.int 0)) (P2 : sta1 Z (.int 1)) (P3 : sta2 Z (.int 0)) (P4 : sta3 Z (.int 8)) (P5 : sta4 Z sf) (r0 : ¬ c0 < 0 ∧ ¬ (65535 : Int32) < c0) (r1 : ¬ c1 < 0 ∧ ¬ (65535 : Int32) < c1) (hsf : sf.isRef = true) (hx2 : x_ < (65536 : Int32)) :
    MF l Z m_24 jdk_52_method_40_code 4 (some .int) ws (oR 4 0 0 58) #[(.ref b), (.int x_), (.int 0), (.int 2)] h0 (Q_iou2 Z c0 c1 x_ b k sf h0 n0) := by
  refine own_body (cls := "java/lang/StringUTF16") (plainFor_of_name pn_4) rfl (fun p e s m below meth c s₁ hx hby hml hown hnm hret hZ X0 e0 => ?_)
  have N0 := Fr.nil n0
  have lt1 := own_l P1.lt
  obtain ⟨_, _, ⟨T2, L2, k2, n2⟩, -, X2, ⟨Lc2, hQ2, l2, y2, z2⟩, st2⟩ := Jvm.LawKit.callS X0 hx (y := m_0) hown (mvT hZ (w_108 hw)) (mvT hZ (w_64 hw)) (mvT hZ (w_65 hw)) (mvT hZ (w_66 hw)) (by decide) (backOf (W := 0) (rm_max0 l Z a0 hw []  h0 n0 (by omega) ) hZ (w_66 hw) (w_65 hw) (by decide) (by decide)) (g := (mkF m 2 #[vA b, vI x_, vI 0, vI 2] [(.int 0), (.int 0)])) rfl (by rw [hml]; rfl) (argsL := [(.int 0), (.int 0)]) (rest := []) (lenOf pd_9 rfl) rfl (Nat.le_of_eq rfl) (hb hby d321) (fun _ _ => ⟨rfl, e0, (by decide : 0 + 0 ≤ _), (by decide : 0 + 0 ≤ _)⟩)
  dsimp only [Pt.U, Pt.locs, Pt.cells, Pt.slots] at X2 l2 y2 z2 st2 hQ2
  rw [l2, y2, z2] at X2
  obtain ⟨rfl, Nq2, Kq2⟩ := hQ2
  have N2 := Fr.app N0 Nq2
  obtain ⟨cl3, Ar3, q3, S3, M3, H3, G3⟩ := id P1
  obtain ⟨_, _, ⟨T4, L4, k4, n4⟩, -, X4, ⟨Lc4, hQ4, l4, y4, z4⟩, st4⟩ := Jvm.LawKit.callS X2 hx (y := m_1) hown (mvT hZ (w_109 hw)) (mvT hZ (w_68 hw)) (mvT hZ (w_65 hw)) (mvT hZ (w_69 hw)) (by decide) (backOf (W := 0) (rm_min2 l Z a0 hw []  h0 n0 (by omega) ) hZ (w_69 hw) (w_65 hw) (by decide) (by decide)) (g := (mkF m 11 #[vA b, vI x_, vI 0, vI 2] [(.int 2), (.int 2)])) rfl (by rw [hml]; rfl) (argsL := [(.int 2), (.int 2)]) (rest := []) (lenOf pd_9 rfl) rfl (Nat.le_of_eq rfl) (hb hby d328) (fun _ _ => ⟨rfl, Kq2, (by decide : 0 + 0 ≤ _), (by decide : 0 + 0 ≤ _)⟩)
  dsimp only [Pt.U, Pt.locs, Pt.cells, Pt.slots] at X4 l4 y4 z4 st4 hQ4
  rw [l4, y4, z4] at X4
  obtain ⟨rfl, Nq4, Kq4⟩ := hQ4
  have N4 := Fr.app N2 Nq4
  obtain ⟨_, _, ⟨T6, L6, k6, n6⟩, -, X6, ⟨Lc6, hQ6, l6, y6, z6⟩, st6⟩ := Jvm.LawKit.callS X4 hx (y := m_23) hown (mvT hZ (w_111 hw)) (mvT hZ (w_112 hw)) (mvT hZ (w_72 hw)) (mvT hZ (w_113 hw)) (by decide) (backOf (W := 0) (rm_icc2 l Z a0 hw [] c0 c1 x_ b k sf h0 n0 (by omega) P0 P1 P2 P3 P4 P5 r0 r1 hsf) hZ (w_113 hw) (w_72 hw) (by decide) (by decide)) (g := (mkF m 32 #[vA b, vI x_, vI 0, vI 2] [(.int 2), (.int 0), (.int x_), (.ref b)])) rfl (by rw [hml]; rfl) (argsL := [(.ref b), (.int x_), (.int 0), (.int 2)]) (rest := []) (lenOf pd_10 rfl) rfl (Nat.le_of_eq rfl) (hb hby d340) (fun _ _ => ⟨rfl, Kq4, (by decide : 0 + 0 ≤ _), (by decide : 0 + 0 ≤ _)⟩)
  dsimp only [Pt.U, Pt.locs, Pt.cells, Pt.slots] at X6 l6 y6 z6 st6 hQ6
  rw [l6, y6, z6] at X6
  obtain ⟨x6_r, rfl, Nq6, Kq6, r6_0⟩ := hQ6
  have N6 := Fr.app N4 Nq6
  refine ⟨_, _, _, _, some (.int x6_r), X6, by decide, by decide, nofun, ?_, fun fs hr => castTop (ef_11 m b x_ (0 : Int32) (2 : Int32)) ?_⟩
  · show Q_iou2 Z c0 c1 x_ b k sf h0 n0 _ T6.heap _
    rw [(Kq6 : T6.heap = h0)]
    exact ⟨x6_r, rfl, N6, rfl, r6_0⟩
  · show Steps _ _ _ (s₁.setTop (mkF m 0 #[vA b, vI x_, vI 0, vI 2] [])) _
    refine XS.iloadN X0.here hx rfl (hb hby d319) rfl ?_
    refine XS.iconst X0.here hx rfl (hb hby d320) ?_
    refine st2 _ ?_
    show Steps _ _ _ (T2.setTop (mkF m 5 #[vA b, vI x_, vI 0, vI 2] [(.int 0)])) _
    refine XS.istoreN X2.here hx rfl (hb hby d322) rfl (l' := #[vA b, vI x_, vI 0, vI 2]) rfl ?_
    refine XS.iloadN X2.here hx rfl (hb hby d323) rfl ?_
    refine XS.aloadN X2.here hx rfl (hb hby d324) rfl rfl ?_
    refine X2.arraylength hx (by rw [Kq2]; exact Ar3.1) (State.isArrayOf_alike hZ.alike Ar3.2.1) (g := (mkF m 8 #[vA b, vI x_, vI 0, vI 2] [(.ref b), (.int 2)])) rfl rfl (hb hby d325) _ ?_
    rw [len_of S3 M3]
    show Steps _ _ _ (T2.setTop (mkF m 9 #[vA b, vI x_, vI 0, vI 2] [(.int 4), (.int 2)])) _
    refine XS.iconst X2.here hx rfl (hb hby d326) ?_
    refine XS.ishr X2.here hx rfl (hb hby d327) rfl ?_
    refine st4 _ ?_
    show Steps _ _ _ (T4.setTop (mkF m 14 #[vA b, vI x_, vI 0, vI 2] [(.int 2)])) _
    refine XS.istoreN X4.here hx rfl (hb hby d329) rfl (l' := #[vA b, vI x_, vI 0, vI 2]) rfl ?_
    refine XS.iloadN X4.here hx rfl (hb hby d330) rfl ?_
    refine XS.iloadN X4.here hx rfl (hb hby d331) rfl ?_
    refine XS.icmpYes X4.here hx rfl (pc0 := 17) (pc' := 22) rfl (hb hby d332) rfl (tlt ((by decide) : (0 : Int32) < (2 : Int32))).1 (by decide) (by decide) ?_
    refine XS.iloadN X4.here hx rfl (hb hby d333) rfl ?_
    refine X4.ldcInt hx hown (mvT hZ (w_110 hw)) (g := (mkF m 23 #[vA b, vI x_, vI 0, vI 2] [(.int x_)])) rfl (hb hby d334) _ ?_
    show Steps _ _ _ (T4.setTop (mkF m 25 #[vA b, vI x_, vI 0, vI 2] [(.int 65536), (.int x_)])) _
    refine XS.icmpNo X4.here hx rfl (hb hby d335) rfl (tlt (hx2 : x_ < (65536 : Int32))).2.1 ?_
    refine XS.aloadN X4.here hx rfl (hb hby d336) rfl rfl ?_
    refine XS.iloadN X4.here hx rfl (hb hby d337) rfl ?_
    refine XS.iloadN X4.here hx rfl (hb hby d338) rfl ?_
    refine XS.iloadN X4.here hx rfl (hb hby d339) rfl ?_
    refine st6 _ ?_
    show Steps _ _ _ (T6.setTop (mkF m 35 #[vA b, vI x_, vI 0, vI 2] [(.int x6_r)])) _
    exact retI X6 hx hret (hb hby d341) hr
def Q_cft3 (Z : State) (sf : Value) (h0 : Heap) (n0 : Nat) (v : Option Value) (h : Heap) (L : List Loc) : Prop := (v = some (.int 0)) ∧ (Fr n0 L) ∧ (h = h0)
theorem rm_cft3 (l : Launch) (Z : State) (a0 : Array Value) (hw : HW Z a0) (ws : List Jvm.Cond) (sf : Value) (h0 : Heap) (n0 : Nat) (Z0 : n0 ≤ h0.size) (hsf : sf.isRef = true) :
    MF l Z m_19 jdk_41_method_12_code 4 (some .int) ws (oR 0 0 0 0) #[(.int 0), (.int 3), (.int 3), sf] h0 (Q_cft3 Z sf h0 n0) := by
  refine own_body (cls := "jdk/internal/util/Preconditions") (plainFor_of_name pn_6) rfl (fun p e s m below meth c s₁ hx hby hml hown hnm hret hZ X0 e0 => ?_)
  have N0 := Fr.nil n0
  refine ⟨_, _, _, _, some (.int 0), X0, by decide, by decide, nofun, ?_, fun fs hr => castTop (ef_13 m (0 : Int32) (3 : Int32) (3 : Int32) sf hsf) ?_⟩
  · show Q_cft3 Z sf h0 n0 _ s₁.heap _
    rw [(e0 : s₁.heap = h0)]
    exact ⟨rfl, N0, rfl⟩
  · show Steps _ _ _ (s₁.setTop (mkF m 0 #[vI 0, vI 3, vI 3, .val sf] [])) _
    refine XS.iloadN X0.here hx rfl (hb hby d270) rfl ?_
    refine XS.ifNo X0.here hx rfl (hb hby d271) rfl ((if0 _ _).trans (flt ((by decide) : ¬ ((0 : Int32) < (0 : Int32)))).1) ?_
    refine XS.iloadN X0.here hx rfl (hb hby d272) rfl ?_
    refine XS.iloadN X0.here hx rfl (hb hby d273) rfl ?_
    refine XS.icmpNo X0.here hx rfl (hb hby d274) rfl (flt ((by decide) : ¬ ((3 : Int32) < (0 : Int32)))).2.2.1 ?_
    refine XS.iloadN X0.here hx rfl (hb hby d275) rfl ?_
    refine XS.iloadN X0.here hx rfl (hb hby d276) rfl ?_
    refine XS.icmpYes X0.here hx rfl (pc0 := 11) (pc' := 22) rfl (hb hby d277) rfl (flt ((by decide) : ¬ ((3 : Int32) < (3 : Int32)))).2.2.2 (by decide) (by decide) ?_
    refine XS.iloadN X0.here hx rfl (hb hby d278) rfl ?_
    exact retI X0 hx hret (hb hby d279) hr
def Q_scb3 (Z : State) (sf : Value) (h0 : Heap) (n0 : Nat) (v : Option Value) (h : Heap) (L : List Loc) : Prop := (v = none) ∧ (Fr n0 L) ∧ (h = h0)
theorem rm_scb3 (l : Launch) (Z : State) (a0 : Array Value) (hw : HW Z a0) (ws : List Jvm.Cond) (sf : Value) (h0 : Heap) (n0 : Nat) (Z0 : n0 ≤ h0.size) (P0 : Old Z n0 h0) (P1 : sta4 Z sf) (hsf : sf.isRef = true) :
    MF l Z m_20 jdk_42_method_158_code 3 none ws (oR 1 0 0 15) #[(.int 0), (.int 3), (.int 3)] h0 (Q_scb3 Z sf h0 n0) := by
  refine own_body (cls := "java/lang/String") (plainFor_of_name pn_5) rfl (fun p e s m below meth c s₁ hx hby hml hown hnm hret hZ X0 e0 => ?_)
  have N0 := Fr.nil n0
  obtain ⟨T1, X1, e1, st1⟩ := getS2 X0 hx hZ hown (host := "") (Or.inl (w_123 hw)) Via.refl e0 (P1.ext P0.2) (g := (mkF m 3 #[vI 0, vI 3, vI 3] [(.int 3), (.int 3), (.int 0)])) rfl (hb hby d283)
  obtain ⟨_, _, ⟨T2, L2, k2, n2⟩, -, X2, ⟨Lc2, hQ2, l2, y2, z2⟩, st2⟩ := Jvm.LawKit.callS X1 hx (y := m_19) hown (mvT hZ (w_125 hw)) (mvT hZ (w_126 hw)) (mvT hZ (w_124 hw)) (mvT hZ (w_127 hw)) (by decide) (backOf (W := 0) (rm_cft3 l Z a0 hw [] sf h0 n0 (by omega) hsf) hZ (w_127 hw) (w_124 hw) (by decide) (by decide)) (g := (mkF m 6 #[vI 0, vI 3, vI 3] [sf, (.int 3), (.int 3), (.int 0)])) rfl (by rw [hml]; rfl) (argsL := [(.int 0), (.int 3), (.int 3), sf]) (rest := []) (lenOf pd_11 rfl) rfl (Nat.le_of_eq rfl) (hb hby d284) (fun _ _ => ⟨rfl, e1, (by decide : 0 + 0 ≤ _), (by decide : 0 + 0 ≤ _)⟩)
  dsimp only [Pt.U, Pt.locs, Pt.cells, Pt.slots] at X2 l2 y2 z2 st2 hQ2
  rw [l2, y2, z2] at X2
  obtain ⟨rfl, Nq2, Kq2⟩ := hQ2
  have N2 := Fr.app N0 Nq2
  refine ⟨_, _, _, _, none, X2, by decide, by decide, fun _ => rfl, ?_, fun fs hr => castTop (ef_14 m (0 : Int32) (3 : Int32) (3 : Int32)) ?_⟩
  · show Q_scb3 Z sf h0 n0 _ T2.heap _
    rw [(Kq2 : T2.heap = h0)]
    exact ⟨rfl, N2, rfl⟩
  · show Steps _ _ _ (s₁.setTop (mkF m 0 #[vI 0, vI 3, vI 3] [])) _
    refine XS.iloadN X0.here hx rfl (hb hby d280) rfl ?_
    refine XS.iloadN X0.here hx rfl (hb hby d281) rfl ?_
    refine XS.iloadN X0.here hx rfl (hb hby d282) rfl ?_
    refine st1 _ ?_
    show Steps _ _ _ (T1.setTop (mkF m 6 #[vI 0, vI 3, vI 3] [sf, (.int 3), (.int 3), (.int 0)])) _
    refine st2 _ ?_
    show Steps _ _ _ (T2.setTop (mkF m 9 #[vI 0, vI 3, vI 3] [(.int 0)])) _
    refine XS.pop X2.here hx rfl (hb hby d285) rfl rfl ?_
    exact X2.returnOut hx hret (hb hby d286) hr
def Q_ucb3 (Z : State) (b : Addr) (k : ClassId) (vs : List Value) (sf : Value) (h0 : Heap) (n0 : Nat) (v : Option Value) (h : Heap) (L : List Loc) : Prop := (v = none) ∧ (Fr n0 L) ∧ (h = h0)
theorem rm_ucb3 (l : Launch) (Z : State) (a0 : Array Value) (hw : HW Z a0) (ws : List Jvm.Cond) (b : Addr) (k : ClassId) (vs : List Value) (sf : Value) (h0 : Heap) (n0 : Nat) (Z0 : n0 ≤ h0.size) (P0 : Old Z n0 h0) (P1 : Arv Z h0 b k .byte (6 : Int32) vs (.int 0)) (P2 : sta4 Z sf) (hsf : sf.isRef = true) :
    MF l Z m_21 jdk_52_method_93_code 3 none ws (oR 2 0 0 29) #[(.int 0), (.int 3), (.ref b)] h0 (Q_ucb3 Z b k vs sf h0 n0) := by
  refine own_body (cls := "java/lang/StringUTF16") (plainFor_of_name pn_4) rfl (fun p e s m below meth c s₁ hx hby hml hown hnm hret hZ X0 e0 => ?_)
  have N0 := Fr.nil n0
  have lt1 := own_l P1.lt
  obtain ⟨_, _, ⟨T2, L2, k2, n2⟩, -, X2, ⟨Lc2, hQ2, l2, y2, z2⟩, st2⟩ := Jvm.LawKit.callS X0 hx (y := m_18) hown (mvT hZ (w_117 hw)) (mvT hZ (w_118 hw)) (mvT hZ (w_72 hw)) (mvT hZ (w_119 hw)) (by decide) (backOf (W := 2) (rm_u16len3 l Z a0 hw [] b k vs h0 n0 (by omega) P1) hZ (w_119 hw) (w_72 hw) (by decide) (by decide)) (g := (mkF m 3 #[vI 0, vI 3, vA b] [(.ref b), (.int 3), (.int 0)])) rfl (by rw [hml]; rfl) (argsL := [(.ref b)]) (rest := [(.int 3), (.int 0)]) (lenOf pd_12 rfl) rfl (Nat.le_of_eq rfl) (hb hby d290) (fun _ _ => ⟨rfl, e0, (by decide : 0 + 0 ≤ _), (by decide : 0 + 0 ≤ _)⟩)
  dsimp only [Pt.U, Pt.locs, Pt.cells, Pt.slots] at X2 l2 y2 z2 st2 hQ2
  rw [l2, y2, z2] at X2
  obtain ⟨rfl, Nq2, Kq2⟩ := hQ2
  have N2 := Fr.app N0 Nq2
  obtain ⟨_, _, ⟨T3, L3, k3, n3⟩, -, X3, ⟨Lc3, hQ3, l3, y3, z3⟩, st3⟩ := Jvm.LawKit.callS X2 hx (y := m_20) hown (mvT hZ (w_120 hw)) (mvT hZ (w_121 hw)) (mvT hZ (w_6 hw)) (mvT hZ (w_122 hw)) (by decide) (backOf (W := 0) (rm_scb3 l Z a0 hw [] sf h0 n0 (by omega) P0 P2 hsf) hZ (w_122 hw) (w_6 hw) (by decide) (by decide)) (g := (mkF m 6 #[vI 0, vI 3, vA b] [(.int 3), (.int 3), (.int 0)])) rfl (by rw [hml]; rfl) (argsL := [(.int 0), (.int 3), (.int 3)]) (rest := []) (lenOf pd_13 rfl) rfl (Nat.le_of_eq rfl) (hb hby d291) (fun _ _ => ⟨rfl, Kq2, (by decide : 0 + 0 ≤ _), (by decide : 0 + 0 ≤ _)⟩)
  dsimp only [Pt.U, Pt.locs, Pt.cells, Pt.slots] at X3 l3 y3 z3 st3 hQ3
  rw [l3, y3, z3] at X3
  obtain ⟨rfl, Nq3, Kq3⟩ := hQ3
  have N3 := Fr.app N2 Nq3
  refine ⟨_, _, _, _, none, X3, by decide, by decide, fun _ => rfl, ?_, fun fs hr => castTop (ef_15 m (0 : Int32) (3 : Int32) b) ?_⟩
  · show Q_ucb3 Z b k vs sf h0 n0 _ T3.heap _
    rw [(Kq3 : T3.heap = h0)]
    exact ⟨rfl, N3, rfl⟩
  · show Steps _ _ _ (s₁.setTop (mkF m 0 #[vI 0, vI 3, vA b] [])) _
    refine XS.iloadN X0.here hx rfl (hb hby d287) rfl ?_
    refine XS.iloadN X0.here hx rfl (hb hby d288) rfl ?_
    refine XS.aloadN X0.here hx rfl (hb hby d289) rfl rfl ?_
    refine st2 _ ?_
    show Steps _ _ _ (T2.setTop (mkF m 6 #[vI 0, vI 3, vA b] [(.int 3), (.int 3), (.int 0)])) _
    refine st3 _ ?_
    show Steps _ _ _ (T3.setTop (mkF m 9 #[vI 0, vI 3, vA b] [])) _
    exact X3.returnOut hx hret (hb hby d292) hr
def Q_icu3 (Z : State) (c0 : Int32) (c1 : Int32) (c2 : Int32) (x_ : Int32) (b : Addr) (k : ClassId) (h0 : Heap) (n0 : Nat) (v : Option Value) (h : Heap) (L : List Loc) : Prop := ∃ (r : Int32), (v = some (.int r)) ∧ (Fr n0 L) ∧ (h = h0) ∧ ((r < (0 : Int32)) ↔ (¬ (c0 = x_) ∧ ¬ (c1 = x_) ∧ ¬ (c2 = x_)))
theorem rm_icu3_0 (l : Launch) (Z : State) (a0 : Array Value) (hw : HW Z a0) (ws : List Jvm.Cond) (c0 : Int32) (c1 : Int32) (c2 : Int32) (x_ : Int32) (b : Addr) (k : ClassId) (h0 : Heap) (n0 : Nat) (Z0 : n0 ≤ h0.size) (P0 : Old Z n0 h0) (P1 : Arv Z h0 b k .byte (6 : Int32) [(.int (oL c0)), (.int (oH c0)), (.int (oL c1)), (.int (oH c1)), (.int (oL c2)), (.int (oH c2))] (.int 0)) (P2 : sta1 Z (.int 1)) (P3 : sta2 Z (.int 0)) (P4 : sta3 Z (.int 8)) (r0 : ¬ c0 < 0 ∧ ¬ (65535 : Int32) < c0) (r1 : ¬ c1 < 0 ∧ ¬ (65535 : Int32) < c1) (r2 : ¬ c2 < 0 ∧ ¬ (65535 : Int32) < c2) (he : c0 = x_) :
    MF l Z m_22 jdk_52_method_48_code 5 (some .int) ws (oR 1 0 0 13) #[(.ref b), (.int x_), (.int 0), (.int 3)] h0 (Q_icu3 Z c0 c1 c2 x_ b k h0 n0) := by
  refine own_body (cls := "java/lang/StringUTF16") (plainFor_of_name pn_4) rfl (fun p e s m below meth c s₁ hx hby hml hown hnm hret hZ X0 e0 => ?_)
  have N0 := Fr.nil n0
  have lt1 := own_l P1.lt
  obtain ⟨_, _, ⟨T2, L2, k2, n2⟩, -, X2, ⟨Lc2, hQ2, l2, y2, z2⟩, st2⟩ := Jvm.LawKit.callS X0 hx (y := m_5) hown (mvT hZ (w_102 hw)) (mvT hZ (w_103 hw)) (mvT hZ (w_72 hw)) (mvT hZ (w_104 hw)) (by decide) (backOf (W := 0) (rm_get3_0 l Z a0 hw [] c0 c1 c2 b k h0 n0 (by omega) P0 P1 P2 P3 P4 r0) hZ (w_104 hw) (w_72 hw) (by decide) (by decide)) (g := (mkF m 12 #[vA b, vI x_, vI 0, vI 3, vI 0] [(.int 0), (.ref b)])) rfl (by rw [hml]; rfl) (argsL := [(.ref b), (.int 0)]) (rest := []) (lenOf pd_5 rfl) rfl (Nat.le_of_eq rfl) (hb hby d300) (fun _ _ => ⟨rfl, e0, (by decide : 0 + 0 ≤ _), (by decide : 0 + 0 ≤ _)⟩)
  dsimp only [Pt.U, Pt.locs, Pt.cells, Pt.slots] at X2 l2 y2 z2 st2 hQ2
  rw [l2, y2, z2] at X2
  obtain ⟨rfl, Nq2, Kq2⟩ := hQ2
  have N2 := Fr.app N0 Nq2
  refine ⟨_, _, _, _, some (.int 0), X2, by decide, by decide, nofun, ?_, fun fs hr => castTop (ef_16 m b x_ (0 : Int32) (3 : Int32)) ?_⟩
  · show Q_icu3 Z c0 c1 c2 x_ b k h0 n0 _ T2.heap _
    rw [(Kq2 : T2.heap = h0)]
    exact ⟨(0 : Int32), rfl, N2, rfl, (iff_of_false (by decide) (fun q => q.1 he))⟩
  · show Steps _ _ _ (s₁.setTop (mkF m 0 #[vA b, vI x_, vI 0, vI 3, .unset] [])) _
    refine XS.iloadN X0.here hx rfl (hb hby d293) rfl ?_
    refine XS.istore X0.here hx rfl (hb hby d294) rfl (l' := #[vA b, vI x_, vI 0, vI 3, vI 0]) rfl ?_
    refine XS.iload X0.here hx rfl (hb hby d295) rfl ?_
    refine XS.iloadN X0.here hx rfl (hb hby d296) rfl ?_
    refine XS.icmpNo X0.here hx rfl (hb hby d297) rfl (tlt ((by decide) : (0 : Int32) < (3 : Int32))).2.1 ?_
    refine XS.aloadN X0.here hx rfl (hb hby d298) rfl rfl ?_
    refine XS.iload X0.here hx rfl (hb hby d299) rfl ?_
    refine st2 _ ?_
    show Steps _ _ _ (T2.setTop (mkF m 15 #[vA b, vI x_, vI 0, vI 3, vI 0] [(.int c0)])) _
    refine XS.iloadN X2.here hx rfl (hb hby d301) rfl ?_
    refine XS.icmpNo X2.here hx rfl (hb hby d302) rfl (teq (he : c0 = x_)).2 ?_
    refine XS.iload X2.here hx rfl (hb hby d303) rfl ?_
    exact retI X2 hx hret (hb hby d304) hr
theorem rm_icu3_1 (l : Launch) (Z : State) (a0 : Array Value) (hw : HW Z a0) (ws : List Jvm.Cond) (c0 : Int32) (c1 : Int32) (c2 : Int32) (x_ : Int32) (b : Addr) (k : ClassId) (h0 : Heap) (n0 : Nat) (Z0 : n0 ≤ h0.size) (P0 : Old Z n0 h0) (P1 : Arv Z h0 b k .byte (6 : Int32) [(.int (oL c0)), (.int (oH c0)), (.int (oL c1)), (.int (oH c1)), (.int (oL c2)), (.int (oH c2))] (.int 0)) (P2 : sta1 Z (.int 1)) (P3 : sta2 Z (.int 0)) (P4 : sta3 Z (.int 8)) (r0 : ¬ c0 < 0 ∧ ¬ (65535 : Int32) < c0) (r1 : ¬ c1 < 0 ∧ ¬ (65535 : Int32) < c1) (r2 : ¬ c2 < 0 ∧ ¬ (65535 : Int32) < c2) (hn0 : ¬ (c0 = x_)) (he : c1 = x_) :
    MF l Z m_22 jdk_52_method_48_code 5 (some .int) ws (oR 1 0 0 13) #[(.ref b), (.int x_), (.int 0), (.int 3)] h0 (Q_icu3 Z c0 c1 c2 x_ b k h0 n0) := by
  refine own_body (cls := "java/lang/StringUTF16") (plainFor_of_name pn_4) rfl (fun p e s m below meth c s₁ hx hby hml hown hnm hret hZ X0 e0 => ?_)
  have N0 := Fr.nil n0
  have lt1 := own_l P1.lt
  obtain ⟨_, _, ⟨T2, L2, k2, n2⟩, -, X2, ⟨Lc2, hQ2, l2, y2, z2⟩, st2⟩ := Jvm.LawKit.callS X0 hx (y := m_5) hown (mvT hZ (w_102 hw)) (mvT hZ (w_103 hw)) (mvT hZ (w_72 hw)) (mvT hZ (w_104 hw)) (by decide) (backOf (W := 0) (rm_get3_0 l Z a0 hw [] c0 c1 c2 b k h0 n0 (by omega) P0 P1 P2 P3 P4 r0) hZ (w_104 hw) (w_72 hw) (by decide) (by decide)) (g := (mkF m 12 #[vA b, vI x_, vI 0, vI 3, vI 0] [(.int 0), (.ref b)])) rfl (by rw [hml]; rfl) (argsL := [(.ref b), (.int 0)]) (rest := []) (lenOf pd_5 rfl) rfl (Nat.le_of_eq rfl) (hb hby d300) (fun _ _ => ⟨rfl, e0, (by decide : 0 + 0 ≤ _), (by decide : 0 + 0 ≤ _)⟩)
  dsimp only [Pt.U, Pt.locs, Pt.cells, Pt.slots] at X2 l2 y2 z2 st2 hQ2
  rw [l2, y2, z2] at X2
  obtain ⟨rfl, Nq2, Kq2⟩ := hQ2
  have N2 := Fr.app N0 Nq2
  obtain ⟨_, _, ⟨T3, L3, k3, n3⟩, -, X3, ⟨Lc3, hQ3, l3, y3, z3⟩, st3⟩ := Jvm.LawKit.callS X2 hx (y := m_5) hown (mvT hZ (w_102 hw)) (mvT hZ (w_103 hw)) (mvT hZ (w_72 hw)) (mvT hZ (w_104 hw)) (by decide) (backOf (W := 0) (rm_get3_1 l Z a0 hw [] c0 c1 c2 b k h0 n0 (by omega) P0 P1 P2 P3 P4 r1) hZ (w_104 hw) (w_72 hw) (by decide) (by decide)) (g := (mkF m 12 #[vA b, vI x_, vI 0, vI 3, vI 1] [(.int 1), (.ref b)])) rfl (by rw [hml]; rfl) (argsL := [(.ref b), (.int 1)]) (rest := []) (lenOf pd_5 rfl) rfl (Nat.le_of_eq rfl) (hb hby d300) (fun _ _ => ⟨rfl, Kq2, (by decide : 0 + 0 ≤ _), (by decide : 0 + 0 ≤ _)⟩)
  dsimp only [Pt.U, Pt.locs, Pt.cells, Pt.slots] at X3 l3 y3 z3 st3 hQ3
  rw [l3, y3, z3] at X3
  obtain ⟨rfl, Nq3, Kq3⟩ := hQ3
  have N3 := Fr.app N2 Nq3
  refine ⟨_, _, _, _, some (.int 1), X3, by decide, by decide, nofun, ?_, fun fs hr => castTop (ef_16 m b x_ (0 : Int32) (3 : Int32)) ?_⟩
  · show Q_icu3 Z c0 c1 c2 x_ b k h0 n0 _ T3.heap _
    rw [(Kq3 : T3.heap = h0)]
    exact ⟨(1 : Int32), rfl, N3, rfl, (iff_of_false (by decide) (fun q => q.2.1 he))⟩
  · show Steps _ _ _ (s₁.setTop (mkF m 0 #[vA b, vI x_, vI 0, vI 3, .unset] [])) _
    refine XS.iloadN X0.here hx rfl (hb hby d293) rfl ?_
    refine XS.istore X0.here hx rfl (hb hby d294) rfl (l' := #[vA b, vI x_, vI 0, vI 3, vI 0]) rfl ?_
    refine XS.iload X0.here hx rfl (hb hby d295) rfl ?_
    refine XS.iloadN X0.here hx rfl (hb hby d296) rfl ?_
    refine XS.icmpNo X0.here hx rfl (hb hby d297) rfl (tlt ((by decide) : (0 : Int32) < (3 : Int32))).2.1 ?_
    refine XS.aloadN X0.here hx rfl (hb hby d298) rfl rfl ?_
    refine XS.iload X0.here hx rfl (hb hby d299) rfl ?_
    refine st2 _ ?_
    show Steps _ _ _ (T2.setTop (mkF m 15 #[vA b, vI x_, vI 0, vI 3, vI 0] [(.int c0)])) _
    refine XS.iloadN X2.here hx rfl (hb hby d301) rfl ?_
    refine XS.icmpYes X2.here hx rfl (pc0 := 16) (pc' := 22) rfl (hb hby d302) rfl (feq (hn0 : ¬ (c0 = x_))).2 (by decide) (by decide) ?_
    refine XS.iinc X2.here hx rfl (hb hby d305) rfl (l' := #[vA b, vI x_, vI 0, vI 3, vI 1]) rfl ?_
    refine XS.goto X2.here hx rfl (pc0 := 25) (pc' := 3) rfl (hb hby d306) (by decide) (by decide) ?_
    refine XS.iload X2.here hx rfl (hb hby d295) rfl ?_
    refine XS.iloadN X2.here hx rfl (hb hby d296) rfl ?_
    refine XS.icmpNo X2.here hx rfl (hb hby d297) rfl (tlt ((by decide) : (1 : Int32) < (3 : Int32))).2.1 ?_
    refine XS.aloadN X2.here hx rfl (hb hby d298) rfl rfl ?_
    refine XS.iload X2.here hx rfl (hb hby d299) rfl ?_
    refine st3 _ ?_
    show Steps _ _ _ (T3.setTop (mkF m 15 #[vA b, vI x_, vI 0, vI 3, vI 1] [(.int c1)])) _
    refine XS.iloadN X3.here hx rfl (hb hby d301) rfl ?_
    refine XS.icmpNo X3.here hx rfl (hb hby d302) rfl (teq (he : c1 = x_)).2 ?_
    refine XS.iload X3.here hx rfl (hb hby d303) rfl ?_
    exact retI X3 hx hret (hb hby d304) hr
theorem rm_icu3_2 (l : Launch) (Z : State) (a0 : Array Value) (hw : HW Z a0) (ws : List Jvm.Cond) (c0 : Int32) (c1 : Int32) (c2 : Int32) (x_ : Int32) (b : Addr) (k : ClassId) (h0 : Heap) (n0 : Nat) (Z0 : n0 ≤ h0.size) (P0 : Old Z n0 h0) (P1 : Arv Z h0 b k .byte (6 : Int32) [(.int (oL c0)), (.int (oH c0)), (.int (oL c1)), (.int (oH c1)), (.int (oL c2)), (.int (oH c2))] (.int 0)) (P2 : sta1 Z (.int 1)) (P3 : sta2 Z (.int 0)) (P4 : sta3 Z (.int 8)) (r0 : ¬ c0 < 0 ∧ ¬ (65535 : Int32) < c0) (r1 : ¬ c1 < 0 ∧ ¬ (65535 : Int32) < c1) (r2 : ¬ c2 < 0 ∧ ¬ (65535 : Int32) < c2) (hn0 : ¬ (c0 = x_)) (hn1 : ¬ (c1 = x_)) (he : c2 = x_) :
    MF l Z m_22 jdk_52_method_48_code 5 (some .int) ws (oR 1 0 0 13) #[(.ref b), (.int x_), (.int 0), (.int 3)] h0 (Q_icu3 Z c0 c1 c2 x_ b k h0 n0) := by
  refine own_body (cls := "java/lang/StringUTF16") (plainFor_of_name pn_4) rfl (fun p e s m below meth c s₁ hx hby hml hown hnm hret hZ X0 e0 => ?_)
  have N0 := Fr.nil n0
  have lt1 := own_l P1.lt
  obtain ⟨_, _, ⟨T2, L2, k2, n2⟩, -, X2, ⟨Lc2, hQ2, l2, y2, z2⟩, st2⟩ := Jvm.LawKit.callS X0 hx (y := m_5) hown (mvT hZ (w_102 hw)) (mvT hZ (w_103 hw)) (mvT hZ (w_72 hw)) (mvT hZ (w_104 hw)) (by decide) (backOf (W := 0) (rm_get3_0 l Z a0 hw [] c0 c1 c2 b k h0 n0 (by omega) P0 P1 P2 P3 P4 r0) hZ (w_104 hw) (w_72 hw) (by decide) (by decide)) (g := (mkF m 12 #[vA b, vI x_, vI 0, vI 3, vI 0] [(.int 0), (.ref b)])) rfl (by rw [hml]; rfl) (argsL := [(.ref b), (.int 0)]) (rest := []) (lenOf pd_5 rfl) rfl (Nat.le_of_eq rfl) (hb hby d300) (fun _ _ => ⟨rfl, e0, (by decide : 0 + 0 ≤ _), (by decide : 0 + 0 ≤ _)⟩)
  dsimp only [Pt.U, Pt.locs, Pt.cells, Pt.slots] at X2 l2 y2 z2 st2 hQ2
  rw [l2, y2, z2] at X2
  obtain ⟨rfl, Nq2, Kq2⟩ := hQ2
  have N2 := Fr.app N0 Nq2
  obtain ⟨_, _, ⟨T3, L3, k3, n3⟩, -, X3, ⟨Lc3, hQ3, l3, y3, z3⟩, st3⟩ := Jvm.LawKit.callS X2 hx (y := m_5) hown (mvT hZ (w_102 hw)) (mvT hZ (w_103 hw)) (mvT hZ (w_72 hw)) (mvT hZ (w_104 hw)) (by decide) (backOf (W := 0) (rm_get3_1 l Z a0 hw [] c0 c1 c2 b k h0 n0 (by omega) P0 P1 P2 P3 P4 r1) hZ (w_104 hw) (w_72 hw) (by decide) (by decide)) (g := (mkF m 12 #[vA b, vI x_, vI 0, vI 3, vI 1] [(.int 1), (.ref b)])) rfl (by rw [hml]; rfl) (argsL := [(.ref b), (.int 1)]) (rest := []) (lenOf pd_5 rfl) rfl (Nat.le_of_eq rfl) (hb hby d300) (fun _ _ => ⟨rfl, Kq2, (by decide : 0 + 0 ≤ _), (by decide : 0 + 0 ≤ _)⟩)
  dsimp only [Pt.U, Pt.locs, Pt.cells, Pt.slots] at X3 l3 y3 z3 st3 hQ3
  rw [l3, y3, z3] at X3
  obtain ⟨rfl, Nq3, Kq3⟩ := hQ3
  have N3 := Fr.app N2 Nq3
  obtain ⟨_, _, ⟨T4, L4, k4, n4⟩, -, X4, ⟨Lc4, hQ4, l4, y4, z4⟩, st4⟩ := Jvm.LawKit.callS X3 hx (y := m_5) hown (mvT hZ (w_102 hw)) (mvT hZ (w_103 hw)) (mvT hZ (w_72 hw)) (mvT hZ (w_104 hw)) (by decide) (backOf (W := 0) (rm_get3_2 l Z a0 hw [] c0 c1 c2 b k h0 n0 (by omega) P0 P1 P2 P3 P4 r2) hZ (w_104 hw) (w_72 hw) (by decide) (by decide)) (g := (mkF m 12 #[vA b, vI x_, vI 0, vI 3, vI 2] [(.int 2), (.ref b)])) rfl (by rw [hml]; rfl) (argsL := [(.ref b), (.int 2)]) (rest := []) (lenOf pd_5 rfl) rfl (Nat.le_of_eq rfl) (hb hby d300) (fun _ _ => ⟨rfl, Kq3, (by decide : 0 + 0 ≤ _), (by decide : 0 + 0 ≤ _)⟩)
  dsimp only [Pt.U, Pt.locs, Pt.cells, Pt.slots] at X4 l4 y4 z4 st4 hQ4
  rw [l4, y4, z4] at X4
  obtain ⟨rfl, Nq4, Kq4⟩ := hQ4
  have N4 := Fr.app N3 Nq4
  refine ⟨_, _, _, _, some (.int 2), X4, by decide, by decide, nofun, ?_, fun fs hr => castTop (ef_16 m b x_ (0 : Int32) (3 : Int32)) ?_⟩
  · show Q_icu3 Z c0 c1 c2 x_ b k h0 n0 _ T4.heap _
    rw [(Kq4 : T4.heap = h0)]
    exact ⟨(2 : Int32), rfl, N4, rfl, (iff_of_false (by decide) (fun q => q.2.2 he))⟩
  · show Steps _ _ _ (s₁.setTop (mkF m 0 #[vA b, vI x_, vI 0, vI 3, .unset] [])) _
    refine XS.iloadN X0.here hx rfl (hb hby d293) rfl ?_
    refine XS.istore X0.here hx rfl (hb hby d294) rfl (l' := #[vA b, vI x_, vI 0, vI 3, vI 0]) rfl ?_
    refine XS.iload X0.here hx rfl (hb hby d295) rfl ?_
    refine XS.iloadN X0.here hx rfl (hb hby d296) rfl ?_
    refine XS.icmpNo X0.here hx rfl (hb hby d297) rfl (tlt ((by decide) : (0 : Int32) < (3 : Int32))).2.1 ?_
    refine XS.aloadN X0.here hx rfl (hb hby d298) rfl rfl ?_
    refine XS.iload X0.here hx rfl (hb hby d299) rfl ?_
    refine st2 _ ?_
    show Steps _ _ _ (T2.setTop (mkF m 15 #[vA b, vI x_, vI 0, vI 3, vI 0] [(.int c0)])) _
    refine XS.iloadN X2.here hx rfl (hb hby d301) rfl ?_
    refine XS.icmpYes X2.here hx rfl (pc0 := 16) (pc' := 22) rfl (hb hby d302) rfl (feq (hn0 : ¬ (c0 = x_))).2 (by decide) (by decide) ?_
    refine XS.iinc X2.here hx rfl (hb hby d305) rfl (l' := #[vA b, vI x_, vI 0, vI 3, vI 1]) rfl ?_
    refine XS.goto X2.here hx rfl (pc0 := 25) (pc' := 3) rfl (hb hby d306) (by decide) (by decide) ?_
    refine XS.iload X2.here hx rfl (hb hby d295) rfl ?_
    refine XS.iloadN X2.here hx rfl (hb hby d296) rfl ?_
    refine XS.icmpNo X2.here hx rfl (hb hby d297) rfl (tlt ((by decide) : (1 : Int32) < (3 : Int32))).2.1 ?_
    refine XS.aloadN X2.here hx rfl (hb hby d298) rfl rfl ?_
    refine XS.iload X2.here hx rfl (hb hby d299) rfl ?_
    refine st3 _ ?_
    show Steps _ _ _ (T3.setTop (mkF m 15 #[vA b, vI x_, vI 0, vI 3, vI 1] [(.int c1)])) _
    refine XS.iloadN X3.here hx rfl (hb hby d301) rfl ?_
    refine XS.icmpYes X3.here hx rfl (pc0 := 16) (pc' := 22) rfl (hb hby d302) rfl (feq (hn1 : ¬ (c1 = x_))).2 (by decide) (by decide) ?_
    refine XS.iinc X3.here hx rfl (hb hby d305) rfl (l' := #[vA b, vI x_, vI 0, vI 3, vI 2]) rfl ?_
    refine XS.goto X3.here hx rfl (pc0 := 25) (pc' := 3) rfl (hb hby d306) (by decide) (by decide) ?_
    refine XS.iload X3.here hx rfl (hb hby d295) rfl ?_
    refine XS.iloadN X3.here hx rfl (hb hby d296) rfl ?_
    refine XS.icmpNo X3.here hx rfl (hb hby d297) rfl (tlt ((by decide) : (2 : Int32) < (3 : Int32))).2.1 ?_
    refine XS.aloadN X3.here hx rfl (hb hby d298) rfl rfl ?_
    refine XS.iload X3.here hx rfl (hb hby d299) rfl ?_
    refine st4 _ ?_
    show Steps _ _ _ (T4.setTop (mkF m 15 #[vA b, vI x_, vI 0, vI 3, vI 2] [(.int c2)])) _
    refine XS.iloadN X4.here hx rfl (hb hby d301) rfl ?_
    refine XS.icmpNo X4.here hx rfl (hb hby d302) rfl (teq (he : c2 = x_)).2 ?_
    refine XS.iload X4.here hx rfl (hb hby d303) rfl ?_
    exact retI X4 hx hret (hb hby d304) hr
theorem rm_icu3_3 (l : Launch) (Z : State) (a0 : Array Value) (hw : HW Z a0) (ws : List Jvm.Cond) (c0 : Int32) (c1 : Int32) (c2 : Int32) (x_ : Int32) (b : Addr) (k : ClassId) (h0 : Heap) (n0 : Nat) (Z0 : n0 ≤ h0.size) (P0 : Old Z n0 h0) (P1 : Arv Z h0 b k .byte (6 : Int32) [(.int (oL c0)), (.int (oH c0)), (.int (oL c1)), (.int (oH c1)), (.int (oL c2)), (.int (oH c2))] (.int 0)) (P2 : sta1 Z (.int 1)) (P3 : sta2 Z (.int 0)) (P4 : sta3 Z (.int 8)) (r0 : ¬ c0 < 0 ∧ ¬ (65535 : Int32) < c0) (r1 : ¬ c1 < 0 ∧ ¬ (65535 : Int32) < c1) (r2 : ¬ c2 < 0 ∧ ¬ (65535 : Int32) < c2) (hn0 : ¬ (c0 = x_)) (hn1 : ¬ (c1 = x_)) (hn2 : ¬ (c2 = x_)) :
    MF l Z m_22 jdk_52_method_48_code 5 (some .int) ws (oR 1 0 0 13) #[(.ref b), (.int x_), (.int 0), (.int 3)] h0 (Q_icu3 Z c0 c1 c2 x_ b k h0 n0) := by
  refine own_body (cls := "java/lang/StringUTF16") (plainFor_of_name pn_4) rfl (fun p e s m below meth c s₁ hx hby hml hown hnm hret hZ X0 e0 => ?_)
  have N0 := Fr.nil n0
  have lt1 := own_l P1.lt
  obtain ⟨_, _, ⟨T2, L2, k2, n2⟩, -, X2, ⟨Lc2, hQ2, l2, y2, z2⟩, st2⟩ := Jvm.LawKit.callS X0 hx (y := m_5) hown (mvT hZ (w_102 hw)) (mvT hZ (w_103 hw)) (mvT hZ (w_72 hw)) (mvT hZ (w_104 hw)) (by decide) (backOf (W := 0) (rm_get3_0 l Z a0 hw [] c0 c1 c2 b k h0 n0 (by omega) P0 P1 P2 P3 P4 r0) hZ (w_104 hw) (w_72 hw) (by decide) (by decide)) (g := (mkF m 12 #[vA b, vI x_, vI 0, vI 3, vI 0] [(.int 0), (.ref b)])) rfl (by rw [hml]; rfl) (argsL := [(.ref b), (.int 0)]) (rest := []) (lenOf pd_5 rfl) rfl (Nat.le_of_eq rfl) (hb hby d300) (fun _ _ => ⟨rfl, e0, (by decide : 0 + 0 ≤ _), (by decide : 0 + 0 ≤ _)⟩)
  dsimp only [Pt.U, Pt.locs, Pt.cells, Pt.slots] at X2 l2 y2 z2 st2 hQ2
  rw [l2, y2, z2] at X2
  obtain ⟨rfl, Nq2, Kq2⟩ := hQ2
  have N2 := Fr.app N0 Nq2
  obtain ⟨_, _, ⟨T3, L3, k3, n3⟩, -, X3, ⟨Lc3, hQ3, l3, y3, z3⟩, st3⟩ := Jvm.LawKit.callS X2 hx (y := m_5) hown (mvT hZ (w_102 hw)) (mvT hZ (w_103 hw)) (mvT hZ (w_72 hw)) (mvT hZ (w_104 hw)) (by decide) (backOf (W := 0) (rm_get3_1 l Z a0 hw [] c0 c1 c2 b k h0 n0 (by omega) P0 P1 P2 P3 P4 r1) hZ (w_104 hw) (w_72 hw) (by decide) (by decide)) (g := (mkF m 12 #[vA b, vI x_, vI 0, vI 3, vI 1] [(.int 1), (.ref b)])) rfl (by rw [hml]; rfl) (argsL := [(.ref b), (.int 1)]) (rest := []) (lenOf pd_5 rfl) rfl (Nat.le_of_eq rfl) (hb hby d300) (fun _ _ => ⟨rfl, Kq2, (by decide : 0 + 0 ≤ _), (by decide : 0 + 0 ≤ _)⟩)
  dsimp only [Pt.U, Pt.locs, Pt.cells, Pt.slots] at X3 l3 y3 z3 st3 hQ3
  rw [l3, y3, z3] at X3
  obtain ⟨rfl, Nq3, Kq3⟩ := hQ3
  have N3 := Fr.app N2 Nq3
  obtain ⟨_, _, ⟨T4, L4, k4, n4⟩, -, X4, ⟨Lc4, hQ4, l4, y4, z4⟩, st4⟩ := Jvm.LawKit.callS X3 hx (y := m_5) hown (mvT hZ (w_102 hw)) (mvT hZ (w_103 hw)) (mvT hZ (w_72 hw)) (mvT hZ (w_104 hw)) (by decide) (backOf (W := 0) (rm_get3_2 l Z a0 hw [] c0 c1 c2 b k h0 n0 (by omega) P0 P1 P2 P3 P4 r2) hZ (w_104 hw) (w_72 hw) (by decide) (by decide)) (g := (mkF m 12 #[vA b, vI x_, vI 0, vI 3, vI 2] [(.int 2), (.ref b)])) rfl (by rw [hml]; rfl) (argsL := [(.ref b), (.int 2)]) (rest := []) (lenOf pd_5 rfl) rfl (Nat.le_of_eq rfl) (hb hby d300) (fun _ _ => ⟨rfl, Kq3, (by decide : 0 + 0 ≤ _), (by decide : 0 + 0 ≤ _)⟩)
  dsimp only [Pt.U, Pt.locs, Pt.cells, Pt.slots] at X4 l4 y4 z4 st4 hQ4
  rw [l4, y4, z4] at X4
  obtain ⟨rfl, Nq4, Kq4⟩ := hQ4
  have N4 := Fr.app N3 Nq4
  refine ⟨_, _, _, _, some (.int (-1)), X4, by decide, by decide, nofun, ?_, fun fs hr => castTop (ef_16 m b x_ (0 : Int32) (3 : Int32)) ?_⟩
  · show Q_icu3 Z c0 c1 c2 x_ b k h0 n0 _ T4.heap _
    rw [(Kq4 : T4.heap = h0)]
    exact ⟨(-1 : Int32), rfl, N4, rfl, (iff_of_true (by decide) ⟨hn0, hn1, hn2⟩)⟩
  · show Steps _ _ _ (s₁.setTop (mkF m 0 #[vA b, vI x_, vI 0, vI 3, .unset] [])) _
    refine XS.iloadN X0.here hx rfl (hb hby d293) rfl ?_
    refine XS.istore X0.here hx rfl (hb hby d294) rfl (l' := #[vA b, vI x_, vI 0, vI 3, vI 0]) rfl ?_
    refine XS.iload X0.here hx rfl (hb hby d295) rfl ?_
    refine XS.iloadN X0.here hx rfl (hb hby d296) rfl ?_
    refine XS.icmpNo X0.here hx rfl (hb hby d297) rfl (tlt ((by decide) : (0 : Int32) < (3 : Int32))).2.1 ?_
    refine XS.aloadN X0.here hx rfl (hb hby d298) rfl rfl ?_
    refine XS.iload X0.here hx rfl (hb hby d299) rfl ?_
    refine st2 _ ?_
    show Steps _ _ _ (T2.setTop (mkF m 15 #[vA b, vI x_, vI 0, vI 3, vI 0] [(.int c0)])) _
    refine XS.iloadN X2.here hx rfl (hb hby d301) rfl ?_
    refine XS.icmpYes X2.here hx rfl (pc0 := 16) (pc' := 22) rfl (hb hby d302) rfl (feq (hn0 : ¬ (c0 = x_))).2 (by decide) (by decide) ?_
    refine XS.iinc X2.here hx rfl (hb hby d305) rfl (l' := #[vA b, vI x_, vI 0, vI 3, vI 1]) rfl ?_
    refine XS.goto X2.here hx rfl (pc0 := 25) (pc' := 3) rfl (hb hby d306) (by decide) (by decide) ?_
    refine XS.iload X2.here hx rfl (hb hby d295) rfl ?_
    refine XS.iloadN X2.here hx rfl (hb hby d296) rfl ?_
    refine XS.icmpNo X2.here hx rfl (hb hby d297) rfl (tlt ((by decide) : (1 : Int32) < (3 : Int32))).2.1 ?_
    refine XS.aloadN X2.here hx rfl (hb hby d298) rfl rfl ?_
    refine XS.iload X2.here hx rfl (hb hby d299) rfl ?_
    refine st3 _ ?_
    show Steps _ _ _ (T3.setTop (mkF m 15 #[vA b, vI x_, vI 0, vI 3, vI 1] [(.int c1)])) _
    refine XS.iloadN X3.here hx rfl (hb hby d301) rfl ?_
    refine XS.icmpYes X3.here hx rfl (pc0 := 16) (pc' := 22) rfl (hb hby d302) rfl (feq (hn1 : ¬ (c1 = x_))).2 (by decide) (by decide) ?_
    refine XS.iinc X3.here hx rfl (hb hby d305) rfl (l' := #[vA b, vI x_, vI 0, vI 3, vI 2]) rfl ?_
    refine XS.goto X3.here hx rfl (pc0 := 25) (pc' := 3) rfl (hb hby d306) (by decide) (by decide) ?_
    refine XS.iload X3.here hx rfl (hb hby d295) rfl ?_
    refine XS.iloadN X3.here hx rfl (hb hby d296) rfl ?_
    refine XS.icmpNo X3.here hx rfl (hb hby d297) rfl (tlt ((by decide) : (2 : Int32) < (3 : Int32))).2.1 ?_
    refine XS.aloadN X3.here hx rfl (hb hby d298) rfl rfl ?_
    refine XS.iload X3.here hx rfl (hb hby d299) rfl ?_
    refine st4 _ ?_
    show Steps _ _ _ (T4.setTop (mkF m 15 #[vA b, vI x_, vI 0, vI 3, vI 2] [(.int c2)])) _
    refine XS.iloadN X4.here hx rfl (hb hby d301) rfl ?_
    refine XS.icmpYes X4.here hx rfl (pc0 := 16) (pc' := 22) rfl (hb hby d302) rfl (feq (hn2 : ¬ (c2 = x_))).2 (by decide) (by decide) ?_
    refine XS.iinc X4.here hx rfl (hb hby d305) rfl (l' := #[vA b, vI x_, vI 0, vI 3, vI 3]) rfl ?_
    refine XS.goto X4.here hx rfl (pc0 := 25) (pc' := 3) rfl (hb hby d306) (by decide) (by decide) ?_
    refine XS.iload X4.here hx rfl (hb hby d295) rfl ?_
    refine XS.iloadN X4.here hx rfl (hb hby d296) rfl ?_
    refine XS.icmpYes X4.here hx rfl (pc0 := 6) (pc' := 28) rfl (hb hby d297) rfl (flt ((by decide) : ¬ ((3 : Int32) < (3 : Int32)))).2.1 (by decide) (by decide) ?_
    refine XS.iconst X4.here hx rfl (hb hby d307) ?_
    exact retI X4 hx hret (hb hby d308) hr
theorem rm_icu3 (l : Launch) (Z : State) (a0 : Array Value) (hw : HW Z a0) (ws : List Jvm.Cond) (c0 : Int32) (c1 : Int32) (c2 : Int32) (x_ : Int32) (b : Addr) (k : ClassId) (h0 : Heap) (n0 : Nat) (Z0 : n0 ≤ h0.size) (P0 : Old Z n0 h0) (P1 : Arv Z h0 b k .byte (6 : Int32) [(.int (oL c0)), (.int (oH c0)), (.int (oL c1)), (.int (oH c1)), (.int (oL c2)), (.int (oH c2))] (.int 0)) (P2 : sta1 Z (.int 1)) (P3 : sta2 Z (.int 0)) (P4 : sta3 Z (.int 8)) (r0 : ¬ c0 < 0 ∧ ¬ (65535 : Int32) < c0) (r1 : ¬ c1 < 0 ∧ ¬ (65535 : Int32) < c1) (r2 : ¬ c2 < 0 ∧ ¬ (65535 : Int32) < c2) :
    MF l Z m_22 jdk_52_method_48_code 5 (some .int) ws (oR 1 0 0 13) #[(.ref b), (.int x_), (.int 0), (.int 3)] h0 (Q_icu3 Z c0 c1 c2 x_ b k h0 n0) := by
  by_cases k0 : c0 = x_
  · exact rm_icu3_0 l Z a0 hw ws c0 c1 c2 x_ b k h0 n0 Z0 P0 P1 P2 P3 P4 r0 r1 r2 k0
  by_cases k1 : c1 = x_
  · exact rm_icu3_1 l Z a0 hw ws c0 c1 c2 x_ b k h0 n0 Z0 P0 P1 P2 P3 P4 r0 r1 r2 k0 k1
  by_cases k2 : c2 = x_
  · exact rm_icu3_2 l Z a0 hw ws c0 c1 c2 x_ b k h0 n0 Z0 P0 P1 P2 P3 P4 r0 r1 r2 k0 k1 k2
  exact rm_icu3_3 l Z a0 hw ws c0 c1 c2 x_ b k h0 n0 Z0 P0 P1 P2 P3 P4 r0 r1 r2 k0 k1 k2
def Q_icc3 (Z : State) (c0 : Int32) (c1 : Int32) (c2 : Int32) (x_ : Int32) (b : Addr) (k : ClassId) (sf : Value) (h0 : Heap) (n0 : Nat) (v : Option Value) (h : Heap) (L : List Loc) : Prop := ∃ (r : Int32), (v = some (.int r)) ∧ (Fr n0 L) ∧ (h = h0) ∧ ((r < (0 : Int32)) ↔ (¬ (c0 = x_) ∧ ¬ (c1 = x_) ∧ ¬ (c2 = x_)))
theorem rm_icc3 (l : Launch) (Z : State) (a0 : Array Value) (hw : HW Z a0) (ws : List Jvm.Cond) (c0 : Int32) (c1 : Int32) (c2 : Int32) (x_ : Int32) (b : Addr) (k : ClassId) (sf : Value) (h0 : Heap) (n0 : Nat) (Z0 : n0 ≤ h0.size) (P0 : Old Z n0 h0) (P1 : Arv Z h0 b k .byte (6 : Int32) [(.int (oL c0)), (.int (oH c0)), (.int (oL c1)), (.int (oH c1)), (.int (oL c2)), (.int (oH c2))] (.int 0)) (P2 : sta1 Z (.int 1)) (P3 : sta2 Z (.int 0)) (P4 : sta3 Z (.int 8)) (P5 : sta4 Z sf) (r0 : ¬ c0 < 0 ∧ ¬ (65535 : Int32) < c0) (r1 : ¬ c1 < 0 ∧ ¬ (65535 : Int32) < c1) (r2 : ¬ c2 < 0 ∧ ¬ (65535 : Int32) < c2) (hsf : sf.isRef = true) :
    MF l Z m_23 jdk_52_method_47_code 4 (some .int) ws (oR 3 0 0 43) #[(.ref b), (.int x_), (.int 0), (.int 3)] h0 (Q_icc3 Z c0 c1 c2 x_ b k sf h0 n0) := by
  refine own_body (cls := "java/lang/StringUTF16") (plainFor_of_name pn_4) rfl (fun p e s m below meth c s₁ hx hby hml hown hnm hret hZ X0 e0 => ?_)
  have N0 := Fr.nil n0
  have lt1 := own_l P1.lt
  obtain ⟨_, _, ⟨T2, L2, k2, n2⟩, -, X2, ⟨Lc2, hQ2, l2, y2, z2⟩, st2⟩ := Jvm.LawKit.callS X0 hx (y := m_21) hown (mvT hZ (w_114 hw)) (mvT hZ (w_115 hw)) (mvT hZ (w_72 hw)) (mvT hZ (w_116 hw)) (by decide) (backOf (W := 0) (rm_ucb3 l Z a0 hw [] b k ([(.int (oL c0)), (.int (oH c0)), (.int (oL c1)), (.int (oH c1)), (.int (oL c2)), (.int (oH c2))]) sf h0 n0 (by omega) P0 P1 P5 hsf) hZ (w_116 hw) (w_72 hw) (by decide) (by decide)) (g := (mkF m 3 #[vA b, vI x_, vI 0, vI 3] [(.ref b), (.int 3), (.int 0)])) rfl (by rw [hml]; rfl) (argsL := [(.int 0), (.int 3), (.ref b)]) (rest := []) (lenOf pd_14 rfl) rfl (Nat.le_of_eq rfl) (hb hby d312) (fun _ _ => ⟨rfl, e0, (by decide : 0 + 0 ≤ _), (by decide : 0 + 0 ≤ _)⟩)
  dsimp only [Pt.U, Pt.locs, Pt.cells, Pt.slots] at X2 l2 y2 z2 st2 hQ2
  rw [l2, y2, z2] at X2
  obtain ⟨rfl, Nq2, Kq2⟩ := hQ2
  have N2 := Fr.app N0 Nq2
  obtain ⟨_, _, ⟨T3, L3, k3, n3⟩, -, X3, ⟨Lc3, hQ3, l3, y3, z3⟩, st3⟩ := Jvm.LawKit.callS X2 hx (y := m_22) hown (mvT hZ (w_128 hw)) (mvT hZ (w_129 hw)) (mvT hZ (w_72 hw)) (mvT hZ (w_130 hw)) (by decide) (backOf (W := 0) (rm_icu3 l Z a0 hw [] c0 c1 c2 x_ b k h0 n0 (by omega) P0 P1 P2 P3 P4 r0 r1 r2) hZ (w_130 hw) (w_72 hw) (by decide) (by decide)) (g := (mkF m 10 #[vA b, vI x_, vI 0, vI 3] [(.int 3), (.int 0), (.int x_), (.ref b)])) rfl (by rw [hml]; rfl) (argsL := [(.ref b), (.int x_), (.int 0), (.int 3)]) (rest := []) (lenOf pd_10 rfl) rfl (Nat.le_of_eq rfl) (hb hby d317) (fun _ _ => ⟨rfl, Kq2, (by decide : 0 + 0 ≤ _), (by decide : 0 + 0 ≤ _)⟩)
  dsimp only [Pt.U, Pt.locs, Pt.cells, Pt.slots] at X3 l3 y3 z3 st3 hQ3
  rw [l3, y3, z3] at X3
  obtain ⟨x3_r, rfl, Nq3, Kq3, r3_0⟩ := hQ3
  have N3 := Fr.app N2 Nq3
  refine ⟨_, _, _, _, some (.int x3_r), X3, by decide, by decide, nofun, ?_, fun fs hr => castTop (ef_11 m b x_ (0 : Int32) (3 : Int32)) ?_⟩
  · show Q_icc3 Z c0 c1 c2 x_ b k sf h0 n0 _ T3.heap _
    rw [(Kq3 : T3.heap = h0)]
    exact ⟨x3_r, rfl, N3, rfl, r3_0⟩
  · show Steps _ _ _ (s₁.setTop (mkF m 0 #[vA b, vI x_, vI 0, vI 3] [])) _
    refine XS.iloadN X0.here hx rfl (hb hby d309) rfl ?_
    refine XS.iloadN X0.here hx rfl (hb hby d310) rfl ?_
    refine XS.aloadN X0.here hx rfl (hb hby d311) rfl rfl ?_
    refine st2 _ ?_
    show Steps _ _ _ (T2.setTop (mkF m 6 #[vA b, vI x_, vI 0, vI 3] [])) _
    refine XS.aloadN X2.here hx rfl (hb hby d313) rfl rfl ?_
    refine XS.iloadN X2.here hx rfl (hb hby d314) rfl ?_
    refine XS.iloadN X2.here hx rfl (hb hby d315) rfl ?_
    refine XS.iloadN X2.here hx rfl (hb hby d316) rfl ?_
    refine st3 _ ?_
    show Steps _ _ _ (T3.setTop (mkF m 13 #[vA b, vI x_, vI 0, vI 3] [(.int x3_r)])) _
    exact retI X3 hx hret (hb hby d318) hr
def Q_iou3 (Z : State) (c0 : Int32) (c1 : Int32) (c2 : Int32) (x_ : Int32) (b : Addr) (k : ClassId) (sf : Value) (h0 : Heap) (n0 : Nat) (v : Option Value) (h : Heap) (L : List Loc) : Prop := ∃ (r : Int32), (v = some (.int r)) ∧ (Fr n0 L) ∧ (h = h0) ∧ ((r < (0 : Int32)) ↔ (¬ (c0 = x_) ∧ ¬ (c1 = x_) ∧ ¬ (c2 = x_)))
theorem rm_iou3 (l : Launch) (Z : State) (a0 : Array Value) (hw : HW Z a0) (ws : List Jvm.Cond) (c0 : Int32) (c1 : Int32) (c2 : Int32) (x_ : Int32) (b : Addr) (k : ClassId) (sf : Value) (h0 : Heap) (n0 : Nat) (Z0 : n0 ≤ h0.size) (P0 : Old Z n0 h0) (P1 : Arv Z h0 b k .byte (6 : Int32) [(.int (oL c0)), (.int (oH c0)), (.int (oL c1)), (.int (oH c1)), (.int (oL c2)), (.int (oH c2))] (.int 0)) (P2 : sta1 Z (.int 1)) (P3 : sta2 Z (.int 0)) (P4 : sta3 Z (.int 8)) (P5 : sta4 Z sf) (r0 : ¬ c0 < 0 ∧ ¬ (65535 : Int32) < c0) (r1 : ¬ c1 < 0 ∧ ¬ (65535 : Int32) < c1) (r2 : ¬ c2 < 0 ∧ ¬ (65535 : Int32) < c2) (hsf : sf.isRef = true) (hx2 : x_ < (65536 : Int32)) :
    MF l Z m_24 jdk_52_method_40_code 4 (some .int) ws (oR 4 0 0 58) #[(.ref b), (.int x_), (.int 0), (.int 3)] h0 (Q_iou3 Z c0 c1 c2 x_ b k sf h0 n0) := by
  refine own_body (cls := "java/lang/StringUTF16") (plainFor_of_name pn_4) rfl (fun p e s m below meth c s₁ hx hby hml hown hnm hret hZ X0 e0 => ?_)
  have N0 := Fr.nil n0
  have lt1 := own_l P1.lt
  obtain ⟨_, _, ⟨T2, L2, k2, n2⟩, -, X2, ⟨Lc2, hQ2, l2, y2, z2⟩, st2⟩ := Jvm.LawKit.callS X0 hx (y := m_0) hown (mvT hZ (w_108 hw)) (mvT hZ (w_64 hw)) (mvT hZ (w_65 hw)) (mvT hZ (w_66 hw)) (by decide) (backOf (W := 0) (rm_max0 l Z a0 hw []  h0 n0 (by omega) ) hZ (w_66 hw) (w_65 hw) (by decide) (by decide)) (g := (mkF m 2 #[vA b, vI x_, vI 0, vI 3] [(.int 0), (.int 0)])) rfl (by rw [hml]; rfl) (argsL := [(.int 0), (.int 0)]) (rest := []) (lenOf pd_9 rfl) rfl (Nat.le_of_eq rfl) (hb hby d321) (fun _ _ => ⟨rfl, e0, (by decide : 0 + 0 ≤ _), (by decide : 0 + 0 ≤ _)⟩)
  dsimp only [Pt.U, Pt.locs, Pt.cells, Pt.slots] at X2 l2 y2 z2 st2 hQ2
  rw [l2, y2, z2] at X2
  obtain ⟨rfl, Nq2, Kq2⟩ := hQ2
  have N2 := Fr.app N0 Nq2
  obtain ⟨cl3, Ar3, q3, S3, M3, H3, G3⟩ := id P1
  obtain ⟨_, _, ⟨T4, L4, k4, n4⟩, -, X4, ⟨Lc4, hQ4, l4, y4, z4⟩, st4⟩ := Jvm.LawKit.callS X2 hx (y := m_1) hown (mvT hZ (w_109 hw)) (mvT hZ (w_68 hw)) (mvT hZ (w_65 hw)) (mvT hZ (w_69 hw)) (by decide) (backOf (W := 0) (rm_min3 l Z a0 hw []  h0 n0 (by omega) ) hZ (w_69 hw) (w_65 hw) (by decide) (by decide)) (g := (mkF m 11 #[vA b, vI x_, vI 0, vI 3] [(.int 3), (.int 3)])) rfl (by rw [hml]; rfl) (argsL := [(.int 3), (.int 3)]) (rest := []) (lenOf pd_9 rfl) rfl (Nat.le_of_eq rfl) (hb hby d328) (fun _ _ => ⟨rfl, Kq2, (by decide : 0 + 0 ≤ _), (by decide : 0 + 0 ≤ _)⟩)
  dsimp only [Pt.U, Pt.locs, Pt.cells, Pt.slots] at X4 l4 y4 z4 st4 hQ4
  rw [l4, y4, z4] at X4
  obtain ⟨rfl, Nq4, Kq4⟩ := hQ4
  have N4 := Fr.app N2 Nq4
  obtain ⟨_, _, ⟨T6, L6, k6, n6⟩, -, X6, ⟨Lc6, hQ6, l6, y6, z6⟩, st6⟩ := Jvm.LawKit.callS X4 hx (y := m_23) hown (mvT hZ (w_111 hw)) (mvT hZ (w_112 hw)) (mvT hZ (w_72 hw)) (mvT hZ (w_113 hw)) (by decide) (backOf (W := 0) (rm_icc3 l Z a0 hw [] c0 c1 c2 x_ b k sf h0 n0 (by omega) P0 P1 P2 P3 P4 P5 r0 r1 r2 hsf) hZ (w_113 hw) (w_72 hw) (by decide) (by decide)) (g := (mkF m 32 #[vA b, vI x_, vI 0, vI 3] [(.int 3), (.int 0), (.int x_), (.ref b)])) rfl (by rw [hml]; rfl) (argsL := [(.ref b), (.int x_), (.int 0), (.int 3)]) (rest := []) (lenOf pd_10 rfl) rfl (Nat.le_of_eq rfl) (hb hby d340) (fun _ _ => ⟨rfl, Kq4, (by decide : 0 + 0 ≤ _), (by decide : 0 + 0 ≤ _)⟩)
  dsimp only [Pt.U, Pt.locs, Pt.cells, Pt.slots] at X6 l6 y6 z6 st6 hQ6
  rw [l6, y6, z6] at X6
  obtain ⟨x6_r, rfl, Nq6, Kq6, r6_0⟩ := hQ6
  have N6 := Fr.app N4 Nq6
  refine ⟨_, _, _, _, some (.int x6_r), X6, by decide, by decide, nofun, ?_, fun fs hr => castTop (ef_11 m b x_ (0 : Int32) (3 : Int32)) ?_⟩
  · show Q_iou3 Z c0 c1 c2 x_ b k sf h0 n0 _ T6.heap _
    rw [(Kq6 : T6.heap = h0)]
    exact ⟨x6_r, rfl, N6, rfl, r6_0⟩
  · show Steps _ _ _ (s₁.setTop (mkF m 0 #[vA b, vI x_, vI 0, vI 3] [])) _
    refine XS.iloadN X0.here hx rfl (hb hby d319) rfl ?_
    refine XS.iconst X0.here hx rfl (hb hby d320) ?_
    refine st2 _ ?_
    show Steps _ _ _ (T2.setTop (mkF m 5 #[vA b, vI x_, vI 0, vI 3] [(.int 0)])) _
    refine XS.istoreN X2.here hx rfl (hb hby d322) rfl (l' := #[vA b, vI x_, vI 0, vI 3]) rfl ?_
    refine XS.iloadN X2.here hx rfl (hb hby d323) rfl ?_
    refine XS.aloadN X2.here hx rfl (hb hby d324) rfl rfl ?_
    refine X2.arraylength hx (by rw [Kq2]; exact Ar3.1) (State.isArrayOf_alike hZ.alike Ar3.2.1) (g := (mkF m 8 #[vA b, vI x_, vI 0, vI 3] [(.ref b), (.int 3)])) rfl rfl (hb hby d325) _ ?_
    rw [len_of S3 M3]
    show Steps _ _ _ (T2.setTop (mkF m 9 #[vA b, vI x_, vI 0, vI 3] [(.int 6), (.int 3)])) _
    refine XS.iconst X2.here hx rfl (hb hby d326) ?_
    refine XS.ishr X2.here hx rfl (hb hby d327) rfl ?_
    refine st4 _ ?_
    show Steps _ _ _ (T4.setTop (mkF m 14 #[vA b, vI x_, vI 0, vI 3] [(.int 3)])) _
    refine XS.istoreN X4.here hx rfl (hb hby d329) rfl (l' := #[vA b, vI x_, vI 0, vI 3]) rfl ?_
    refine XS.iloadN X4.here hx rfl (hb hby d330) rfl ?_
    refine XS.iloadN X4.here hx rfl (hb hby d331) rfl ?_
    refine XS.icmpYes X4.here hx rfl (pc0 := 17) (pc' := 22) rfl (hb hby d332) rfl (tlt ((by decide) : (0 : Int32) < (3 : Int32))).1 (by decide) (by decide) ?_
    refine XS.iloadN X4.here hx rfl (hb hby d333) rfl ?_
    refine X4.ldcInt hx hown (mvT hZ (w_110 hw)) (g := (mkF m 23 #[vA b, vI x_, vI 0, vI 3] [(.int x_)])) rfl (hb hby d334) _ ?_
    show Steps _ _ _ (T4.setTop (mkF m 25 #[vA b, vI x_, vI 0, vI 3] [(.int 65536), (.int x_)])) _
    refine XS.icmpNo X4.here hx rfl (hb hby d335) rfl (tlt (hx2 : x_ < (65536 : Int32))).2.1 ?_
    refine XS.aloadN X4.here hx rfl (hb hby d336) rfl rfl ?_
    refine XS.iloadN X4.here hx rfl (hb hby d337) rfl ?_
    refine XS.iloadN X4.here hx rfl (hb hby d338) rfl ?_
    refine XS.iloadN X4.here hx rfl (hb hby d339) rfl ?_
    refine st6 _ ?_
    show Steps _ _ _ (T6.setTop (mkF m 35 #[vA b, vI x_, vI 0, vI 3] [(.int x6_r)])) _
    exact retI X6 hx hret (hb hby d341) hr
theorem d342 : decode jdk_42_method_154_code 0 = .ok (.getstatic 38, 3) := by decide +kernel
theorem d343 : decode jdk_42_method_154_code 3 = .ok (.ifCond .eq 14, 3) := by decide +kernel
theorem d344 : decode jdk_42_method_154_code 6 = .ok (.aload_n 0, 1) := by decide +kernel
theorem d345 : decode jdk_42_method_154_code 7 = .ok (.getfield 15, 3) := by decide +kernel
theorem d346 : decode jdk_42_method_154_code 10 = .ok (.ifCond .ne 7, 3) := by decide +kernel
theorem d347 : decode jdk_42_method_154_code 13 = .ok (.iconst 1, 1) := by decide +kernel
theorem d348 : decode jdk_42_method_154_code 14 = .ok (.goto 4, 3) := by decide +kernel
theorem d349 : decode jdk_42_method_154_code 18 = .ok (.ireturn, 1) := by decide +kernel
abbrev m_25 : MethodName := (⟨"java/lang/String", "isLatin1", "()Z"⟩ : MethodName)
def Q_isl0 (Z : State) (a_ : Addr) (cs : Int32) (h0 : Heap) (n0 : Nat) (v : Option Value) (h : Heap) (L : List Loc) : Prop := (v = some (.int 1)) ∧ (Fr n0 L) ∧ (h = h0)
theorem rm_isl0 (l : Launch) (Z : State) (a0 : Array Value) (hw : HW Z a0) (ws : List Jvm.Cond) (a_ : Addr) (cs : Int32) (h0 : Heap) (n0 : Nat) (Z0 : n0 ≤ h0.size) (P0 : Old Z n0 h0) (P1 : sta0 Z (.int cs)) (P2 : fld1 Z h0 a_ (.int 0)) (hcs : ¬ (cs = (0 : Int32))) :
    MF l Z m_25 jdk_42_method_154_code 1 (some .boolean) ws (oR 0 0 0 0) #[(.ref a_)] h0 (Q_isl0 Z a_ cs h0 n0) := by
  refine own_body (cls := "java/lang/String") (plainFor_of_name pn_5) rfl (fun p e s m below meth c s₁ hx hby hml hown hnm hret hZ X0 e0 => ?_)
  have N0 := Fr.nil n0
  have lt1 := own_l P2.lt
  obtain ⟨T2, X2, e2, st2⟩ := getS2 X0 hx hZ hown (host := "") (Or.inl (w_45 hw)) Via.refl e0 (P1.ext P0.2) (g := (mkF m 0 #[vA a_] [])) rfl (hb hby d342)
  obtain ⟨T3, X3, e3, st3⟩ := getF X2 hx hZ hown (host := "") (Or.inl (w_25 hw)) Via.refl e2 P2 (g := (mkF m 7 #[vA a_] [(.ref a_)])) rfl rfl (hb hby d345)
  refine ⟨_, _, _, _, some (.int 1), X3, by decide, by decide, nofun, ?_, fun fs hr => castTop (ef_12 m a_) ?_⟩
  · show Q_isl0 Z a_ cs h0 n0 _ T3.heap _
    rw [(e3 : T3.heap = h0)]
    exact ⟨rfl, N0, rfl⟩
  · show Steps _ _ _ (s₁.setTop (mkF m 0 #[vA a_] [])) _
    refine st2 _ ?_
    show Steps _ _ _ (T2.setTop (mkF m 3 #[vA a_] [(.int cs)])) _
    refine XS.ifNo X2.here hx rfl (hb hby d343) rfl ((if0 _ _).trans (feq (hcs : ¬ (cs = (0 : Int32)))).1) ?_
    refine XS.aloadN X2.here hx rfl (hb hby d344) rfl rfl ?_
    refine st3 _ ?_
    show Steps _ _ _ (T3.setTop (mkF m 10 #[vA a_] [(.int 0)])) _
    refine XS.ifNo X3.here hx rfl (hb hby d346) rfl ((if0 _ _).trans (teq ((by decide) : (0 : Int32) = (0 : Int32))).2) ?_
    refine XS.iconst X3.here hx rfl (hb hby d347) ?_
    refine XS.goto X3.here hx rfl (pc0 := 14) (pc' := 18) rfl (hb hby d348) (by decide) (by decide) ?_
    exact retN X3 hx (t := .boolean) hret (by simp) (hb hby d349) hr
theorem d350 : decode jdk_42_method_152_code 0 = .ok (.getstatic 38, 3) := by decide +kernel
theorem d351 : decode jdk_42_method_152_code 3 = .ok (.ifCond .eq 10, 3) := by decide +kernel
theorem d352 : decode jdk_42_method_152_code 6 = .ok (.aload_n 0, 1) := by decide +kernel
theorem d353 : decode jdk_42_method_152_code 7 = .ok (.getfield 15, 3) := by decide +kernel
theorem d354 : decode jdk_42_method_152_code 10 = .ok (.goto 4, 3) := by decide +kernel
theorem d355 : decode jdk_42_method_152_code 14 = .ok (.ireturn, 1) := by decide +kernel
abbrev m_26 : MethodName := (⟨"java/lang/String", "coder", "()B"⟩ : MethodName)
def Q_cod0 (Z : State) (a_ : Addr) (cs : Int32) (h0 : Heap) (n0 : Nat) (v : Option Value) (h : Heap) (L : List Loc) : Prop := (v = some (.int 0)) ∧ (Fr n0 L) ∧ (h = h0)
theorem rm_cod0 (l : Launch) (Z : State) (a0 : Array Value) (hw : HW Z a0) (ws : List Jvm.Cond) (a_ : Addr) (cs : Int32) (h0 : Heap) (n0 : Nat) (Z0 : n0 ≤ h0.size) (P0 : Old Z n0 h0) (P1 : sta0 Z (.int cs)) (P2 : fld1 Z h0 a_ (.int 0)) (hcs : ¬ (cs = (0 : Int32))) :
    MF l Z m_26 jdk_42_method_152_code 1 (some .byte) ws (oR 0 0 0 0) #[(.ref a_)] h0 (Q_cod0 Z a_ cs h0 n0) := by
  refine own_body (cls := "java/lang/String") (plainFor_of_name pn_5) rfl (fun p e s m below meth c s₁ hx hby hml hown hnm hret hZ X0 e0 => ?_)
  have N0 := Fr.nil n0
  have lt1 := own_l P2.lt
  obtain ⟨T2, X2, e2, st2⟩ := getS2 X0 hx hZ hown (host := "") (Or.inl (w_45 hw)) Via.refl e0 (P1.ext P0.2) (g := (mkF m 0 #[vA a_] [])) rfl (hb hby d350)
  obtain ⟨T3, X3, e3, st3⟩ := getF X2 hx hZ hown (host := "") (Or.inl (w_25 hw)) Via.refl e2 P2 (g := (mkF m 7 #[vA a_] [(.ref a_)])) rfl rfl (hb hby d353)
  refine ⟨_, _, _, _, some (.int 0), X3, by decide, by decide, nofun, ?_, fun fs hr => castTop (ef_12 m a_) ?_⟩
  · show Q_cod0 Z a_ cs h0 n0 _ T3.heap _
    rw [(e3 : T3.heap = h0)]
    exact ⟨rfl, N0, rfl⟩
  · show Steps _ _ _ (s₁.setTop (mkF m 0 #[vA a_] [])) _
    refine st2 _ ?_
    show Steps _ _ _ (T2.setTop (mkF m 3 #[vA a_] [(.int cs)])) _
    refine XS.ifNo X2.here hx rfl (hb hby d351) rfl ((if0 _ _).trans (feq (hcs : ¬ (cs = (0 : Int32)))).1) ?_
    refine XS.aloadN X2.here hx rfl (hb hby d352) rfl rfl ?_
    refine st3 _ ?_
    show Steps _ _ _ (T3.setTop (mkF m 10 #[vA a_] [(.int 0)])) _
    refine XS.goto X3.here hx rfl (pc0 := 10) (pc' := 14) rfl (hb hby d354) (by decide) (by decide) ?_
    exact retN X3 hx (t := .byte) hret (by simp) (hb hby d355) hr
theorem d356 : decode jdk_42_method_54_code 0 = .ok (.aload_n 0, 1) := by decide +kernel
theorem d357 : decode jdk_42_method_54_code 1 = .ok (.getfield 9, 3) := by decide +kernel
theorem d358 : decode jdk_42_method_54_code 4 = .ok (.arraylength, 1) := by decide +kernel
theorem d359 : decode jdk_42_method_54_code 5 = .ok (.aload_n 0, 1) := by decide +kernel
theorem w_51 {Z : State} {a0 : Array Value} (hw : HW Z a0) : (Jvm.Cond.methodLink "java/lang/String" (335 : Nat) m_26).before a0 Z = true := hw _ (List.mem_of_getElem? (i := 51) rfl)
theorem w_55 {Z : State} {a0 : Array Value} (hw : HW Z a0) : (Jvm.Cond.code m_26 jdk_42_method_152_code (1 : Nat) (Option.some FieldType.byte)).before a0 Z = true := hw _ (List.mem_of_getElem? (i := 55) rfl)
theorem pd_15 : parseMethodDescriptor "()B" = some ⟨[], some .byte⟩ := by decide +kernel
theorem d360 : decode jdk_42_method_54_code 6 = .ok (.invokevirtual 335, 3) := by decide +kernel
theorem w_54 {Z : State} {a0 : Array Value} (hw : HW Z a0) : (Jvm.Cond.selects "java/lang/String" m_26 m_26).before a0 Z = true := hw _ (List.mem_of_getElem? (i := 54) rfl)
theorem w_52 {Z : State} {a0 : Array Value} (hw : HW Z a0) : (Jvm.Cond.declares m_26).before a0 Z = true := hw _ (List.mem_of_getElem? (i := 52) rfl)
theorem w_53 {Z : State} {a0 : Array Value} (hw : HW Z a0) : (Jvm.Cond.instanceMethod m_26).before a0 Z = true := hw _ (List.mem_of_getElem? (i := 53) rfl)
theorem d361 : decode jdk_42_method_54_code 9 = .ok (.ishr, 1) := by decide +kernel
theorem d362 : decode jdk_42_method_54_code 10 = .ok (.ireturn, 1) := by decide +kernel
abbrev m_27 : MethodName := (⟨"java/lang/String", "length", "()I"⟩ : MethodName)
def Q_len0_0 (Z : State) (a_ : Addr) (b : Addr) (k : ClassId) (vs : List Value) (dv : Value) (cs : Int32) (h0 : Heap) (n0 : Nat) (v : Option Value) (h : Heap) (L : List Loc) : Prop := (v = some (.int 0)) ∧ (Fr n0 L) ∧ (h = h0)
theorem rm_len0_0 (l : Launch) (Z : State) (a0 : Array Value) (hw : HW Z a0) (ws : List Jvm.Cond) (a_ : Addr) (b : Addr) (k : ClassId) (vs : List Value) (dv : Value) (cs : Int32) (h0 : Heap) (n0 : Nat) (Z0 : n0 ≤ h0.size) (P0 : Old Z n0 h0) (P1 : sta0 Z (.int cs)) (P2 : Exa Z h0 a_ "java/lang/String") (P3 : fld1 Z h0 a_ (.int 0)) (P4 : fld0 Z h0 a_ (.ref b)) (P5 : Arv Z h0 b k .byte (0 : Int32) vs dv) (hcs : ¬ (cs = (0 : Int32))) :
    MF l Z m_27 jdk_42_method_54_code 1 (some .int) ws (oR 1 0 0 13) #[(.ref a_)] h0 (Q_len0_0 Z a_ b k vs dv cs h0 n0) := by
  refine own_body (cls := "java/lang/String") (plainFor_of_name pn_5) rfl (fun p e s m below meth c s₁ hx hby hml hown hnm hret hZ X0 e0 => ?_)
  have N0 := Fr.nil n0
  have lt1 := own_l P2.lt
  have lt2 := own_l P3.lt
  have lt3 := own_l P4.lt
  have lt4 := own_l P5.lt
  obtain ⟨T5, X5, e5, st5⟩ := getF X0 hx hZ hown (host := "") (Or.inl (w_24 hw)) Via.refl e0 P4 (g := (mkF m 1 #[vA a_] [(.ref a_)])) rfl rfl (hb hby d357)
  obtain ⟨cl6, Ar6, q6, S6, M6, H6, G6⟩ := id P5
  obtain ⟨cq7, kq7, qa7, qb7, qc7⟩ := isOf hZ e5 P2
  obtain ⟨_, _, ⟨T7, L7, k7, n7⟩, -, X7, ⟨Lc7, hQ7, l7, y7, z7⟩, st7⟩ := X5.virtualBack hx (y := m_26) (z := m_26) hown (mvT hZ (w_51 hw)) (mvT hZ (w_52 hw)) (notFace_of_selects (args := #[]) (mvT hZ (w_54 hw))) (mvT hZ (w_54 hw)) (mvT hZ (w_53 hw)) (by decide) (backOf (W := 1) (rm_cod0 l Z a0 hw [] a_ cs h0 n0 (by omega) P0 P1 P3 hcs) hZ (w_55 hw) (w_6 hw) (by decide) (by decide)) qa7 qc7 (g := (mkF m 6 #[vA a_] [(.ref a_), (.int 0)])) rfl (by rw [hml]; rfl) (Steps.refl _) (argsL := []) (rest := [(.int 0)]) (lenOf pd_15 rfl) rfl (Nat.le_of_eq rfl) (hb hby d360) (fun _ _ => ⟨rfl, e5, (by decide : 0 + 0 ≤ _), (by decide : 0 + 0 ≤ _)⟩)
  dsimp only [Pt.U, Pt.locs, Pt.cells, Pt.slots] at X7 l7 y7 z7 st7 hQ7
  rw [l7, y7, z7] at X7
  obtain ⟨rfl, Nq7, Kq7⟩ := hQ7
  have N7 := Fr.app N0 Nq7
  refine ⟨_, _, _, _, some (.int 0), X7, by decide, by decide, nofun, ?_, fun fs hr => castTop (ef_12 m a_) ?_⟩
  · show Q_len0_0 Z a_ b k vs dv cs h0 n0 _ T7.heap _
    rw [(Kq7 : T7.heap = h0)]
    exact ⟨rfl, N7, rfl⟩
  · show Steps _ _ _ (s₁.setTop (mkF m 0 #[vA a_] [])) _
    refine XS.aloadN X0.here hx rfl (hb hby d356) rfl rfl ?_
    refine st5 _ ?_
    show Steps _ _ _ (T5.setTop (mkF m 4 #[vA a_] [(.ref b)])) _
    refine X5.arraylength hx (by rw [e5]; exact Ar6.1) (State.isArrayOf_alike hZ.alike Ar6.2.1) (g := (mkF m 4 #[vA a_] [(.ref b)])) rfl rfl (hb hby d358) _ ?_
    rw [len_of S6 M6]
    show Steps _ _ _ (T5.setTop (mkF m 5 #[vA a_] [(.int 0)])) _
    refine XS.aloadN X5.here hx rfl (hb hby d359) rfl rfl ?_
    refine st7.trans ?_
    show Steps _ _ _ (T7.setTop (mkF m 9 #[vA a_] [(.int 0), (.int 0)])) _
    refine XS.ishr X7.here hx rfl (hb hby d361) rfl ?_
    exact retI X7 hx hret (hb hby d362) hr
def Q_len0_1 (Z : State) (a_ : Addr) (b : Addr) (k : ClassId) (vs : List Value) (dv : Value) (cs : Int32) (h0 : Heap) (n0 : Nat) (v : Option Value) (h : Heap) (L : List Loc) : Prop := (v = some (.int 1)) ∧ (Fr n0 L) ∧ (h = h0)
theorem rm_len0_1 (l : Launch) (Z : State) (a0 : Array Value) (hw : HW Z a0) (ws : List Jvm.Cond) (a_ : Addr) (b : Addr) (k : ClassId) (vs : List Value) (dv : Value) (cs : Int32) (h0 : Heap) (n0 : Nat) (Z0 : n0 ≤ h0.size) (P0 : Old Z n0 h0) (P1 : sta0 Z (.int cs)) (P2 : Exa Z h0 a_ "java/lang/String") (P3 : fld1 Z h0 a_ (.int 0)) (P4 : fld0 Z h0 a_ (.ref b)) (P5 : Arv Z h0 b k .byte (1 : Int32) vs dv) (hcs : ¬ (cs = (0 : Int32))) :
    MF l Z m_27 jdk_42_method_54_code 1 (some .int) ws (oR 1 0 0 13) #[(.ref a_)] h0 (Q_len0_1 Z a_ b k vs dv cs h0 n0) := by
  refine own_body (cls := "java/lang/String") (plainFor_of_name pn_5) rfl (fun p e s m below meth c s₁ hx hby hml hown hnm hret hZ X0 e0 => ?_)
  have N0 := Fr.nil n0
  have lt1 := own_l P2.lt
  have lt2 := own_l P3.lt
  have lt3 := own_l P4.lt
  have lt4 := own_l P5.lt
  obtain ⟨T5, X5, e5, st5⟩ := getF X0 hx hZ hown (host := "") (Or.inl (w_24 hw)) Via.refl e0 P4 (g := (mkF m 1 #[vA a_] [(.ref a_)])) rfl rfl (hb hby d357)
  obtain ⟨cl6, Ar6, q6, S6, M6, H6, G6⟩ := id P5
  obtain ⟨cq7, kq7, qa7, qb7, qc7⟩ := isOf hZ e5 P2
  obtain ⟨_, _, ⟨T7, L7, k7, n7⟩, -, X7, ⟨Lc7, hQ7, l7, y7, z7⟩, st7⟩ := X5.virtualBack hx (y := m_26) (z := m_26) hown (mvT hZ (w_51 hw)) (mvT hZ (w_52 hw)) (notFace_of_selects (args := #[]) (mvT hZ (w_54 hw))) (mvT hZ (w_54 hw)) (mvT hZ (w_53 hw)) (by decide) (backOf (W := 1) (rm_cod0 l Z a0 hw [] a_ cs h0 n0 (by omega) P0 P1 P3 hcs) hZ (w_55 hw) (w_6 hw) (by decide) (by decide)) qa7 qc7 (g := (mkF m 6 #[vA a_] [(.ref a_), (.int 1)])) rfl (by rw [hml]; rfl) (Steps.refl _) (argsL := []) (rest := [(.int 1)]) (lenOf pd_15 rfl) rfl (Nat.le_of_eq rfl) (hb hby d360) (fun _ _ => ⟨rfl, e5, (by decide : 0 + 0 ≤ _), (by decide : 0 + 0 ≤ _)⟩)
  dsimp only [Pt.U, Pt.locs, Pt.cells, Pt.slots] at X7 l7 y7 z7 st7 hQ7
  rw [l7, y7, z7] at X7
  obtain ⟨rfl, Nq7, Kq7⟩ := hQ7
  have N7 := Fr.app N0 Nq7
  refine ⟨_, _, _, _, some (.int 1), X7, by decide, by decide, nofun, ?_, fun fs hr => castTop (ef_12 m a_) ?_⟩
  · show Q_len0_1 Z a_ b k vs dv cs h0 n0 _ T7.heap _
    rw [(Kq7 : T7.heap = h0)]
    exact ⟨rfl, N7, rfl⟩
  · show Steps _ _ _ (s₁.setTop (mkF m 0 #[vA a_] [])) _
    refine XS.aloadN X0.here hx rfl (hb hby d356) rfl rfl ?_
    refine st5 _ ?_
    show Steps _ _ _ (T5.setTop (mkF m 4 #[vA a_] [(.ref b)])) _
    refine X5.arraylength hx (by rw [e5]; exact Ar6.1) (State.isArrayOf_alike hZ.alike Ar6.2.1) (g := (mkF m 4 #[vA a_] [(.ref b)])) rfl rfl (hb hby d358) _ ?_
    rw [len_of S6 M6]
    show Steps _ _ _ (T5.setTop (mkF m 5 #[vA a_] [(.int 1)])) _
    refine XS.aloadN X5.here hx rfl (hb hby d359) rfl rfl ?_
    refine st7.trans ?_
    show Steps _ _ _ (T7.setTop (mkF m 9 #[vA a_] [(.int 0), (.int 1)])) _
    refine XS.ishr X7.here hx rfl (hb hby d361) rfl ?_
    exact retI X7 hx hret (hb hby d362) hr
def Q_len0_2 (Z : State) (a_ : Addr) (b : Addr) (k : ClassId) (vs : List Value) (dv : Value) (cs : Int32) (h0 : Heap) (n0 : Nat) (v : Option Value) (h : Heap) (L : List Loc) : Prop := (v = some (.int 2)) ∧ (Fr n0 L) ∧ (h = h0)
theorem rm_len0_2 (l : Launch) (Z : State) (a0 : Array Value) (hw : HW Z a0) (ws : List Jvm.Cond) (a_ : Addr) (b : Addr) (k : ClassId) (vs : List Value) (dv : Value) (cs : Int32) (h0 : Heap) (n0 : Nat) (Z0 : n0 ≤ h0.size) (P0 : Old Z n0 h0) (P1 : sta0 Z (.int cs)) (P2 : Exa Z h0 a_ "java/lang/String") (P3 : fld1 Z h0 a_ (.int 0)) (P4 : fld0 Z h0 a_ (.ref b)) (P5 : Arv Z h0 b k .byte (2 : Int32) vs dv) (hcs : ¬ (cs = (0 : Int32))) :
    MF l Z m_27 jdk_42_method_54_code 1 (some .int) ws (oR 1 0 0 13) #[(.ref a_)] h0 (Q_len0_2 Z a_ b k vs dv cs h0 n0) := by
  refine own_body (cls := "java/lang/String") (plainFor_of_name pn_5) rfl (fun p e s m below meth c s₁ hx hby hml hown hnm hret hZ X0 e0 => ?_)
  have N0 := Fr.nil n0
  have lt1 := own_l P2.lt
  have lt2 := own_l P3.lt
  have lt3 := own_l P4.lt
  have lt4 := own_l P5.lt
  obtain ⟨T5, X5, e5, st5⟩ := getF X0 hx hZ hown (host := "") (Or.inl (w_24 hw)) Via.refl e0 P4 (g := (mkF m 1 #[vA a_] [(.ref a_)])) rfl rfl (hb hby d357)
  obtain ⟨cl6, Ar6, q6, S6, M6, H6, G6⟩ := id P5
  obtain ⟨cq7, kq7, qa7, qb7, qc7⟩ := isOf hZ e5 P2
  obtain ⟨_, _, ⟨T7, L7, k7, n7⟩, -, X7, ⟨Lc7, hQ7, l7, y7, z7⟩, st7⟩ := X5.virtualBack hx (y := m_26) (z := m_26) hown (mvT hZ (w_51 hw)) (mvT hZ (w_52 hw)) (notFace_of_selects (args := #[]) (mvT hZ (w_54 hw))) (mvT hZ (w_54 hw)) (mvT hZ (w_53 hw)) (by decide) (backOf (W := 1) (rm_cod0 l Z a0 hw [] a_ cs h0 n0 (by omega) P0 P1 P3 hcs) hZ (w_55 hw) (w_6 hw) (by decide) (by decide)) qa7 qc7 (g := (mkF m 6 #[vA a_] [(.ref a_), (.int 2)])) rfl (by rw [hml]; rfl) (Steps.refl _) (argsL := []) (rest := [(.int 2)]) (lenOf pd_15 rfl) rfl (Nat.le_of_eq rfl) (hb hby d360) (fun _ _ => ⟨rfl, e5, (by decide : 0 + 0 ≤ _), (by decide : 0 + 0 ≤ _)⟩)
  dsimp only [Pt.U, Pt.locs, Pt.cells, Pt.slots] at X7 l7 y7 z7 st7 hQ7
  rw [l7, y7, z7] at X7
  obtain ⟨rfl, Nq7, Kq7⟩ := hQ7
  have N7 := Fr.app N0 Nq7
  refine ⟨_, _, _, _, some (.int 2), X7, by decide, by decide, nofun, ?_, fun fs hr => castTop (ef_12 m a_) ?_⟩
  · show Q_len0_2 Z a_ b k vs dv cs h0 n0 _ T7.heap _
    rw [(Kq7 : T7.heap = h0)]
    exact ⟨rfl, N7, rfl⟩
  · show Steps _ _ _ (s₁.setTop (mkF m 0 #[vA a_] [])) _
    refine XS.aloadN X0.here hx rfl (hb hby d356) rfl rfl ?_
    refine st5 _ ?_
    show Steps _ _ _ (T5.setTop (mkF m 4 #[vA a_] [(.ref b)])) _
    refine X5.arraylength hx (by rw [e5]; exact Ar6.1) (State.isArrayOf_alike hZ.alike Ar6.2.1) (g := (mkF m 4 #[vA a_] [(.ref b)])) rfl rfl (hb hby d358) _ ?_
    rw [len_of S6 M6]
    show Steps _ _ _ (T5.setTop (mkF m 5 #[vA a_] [(.int 2)])) _
    refine XS.aloadN X5.here hx rfl (hb hby d359) rfl rfl ?_
    refine st7.trans ?_
    show Steps _ _ _ (T7.setTop (mkF m 9 #[vA a_] [(.int 0), (.int 2)])) _
    refine XS.ishr X7.here hx rfl (hb hby d361) rfl ?_
    exact retI X7 hx hret (hb hby d362) hr
def Q_len0_3 (Z : State) (a_ : Addr) (b : Addr) (k : ClassId) (vs : List Value) (dv : Value) (cs : Int32) (h0 : Heap) (n0 : Nat) (v : Option Value) (h : Heap) (L : List Loc) : Prop := (v = some (.int 3)) ∧ (Fr n0 L) ∧ (h = h0)
theorem rm_len0_3 (l : Launch) (Z : State) (a0 : Array Value) (hw : HW Z a0) (ws : List Jvm.Cond) (a_ : Addr) (b : Addr) (k : ClassId) (vs : List Value) (dv : Value) (cs : Int32) (h0 : Heap) (n0 : Nat) (Z0 : n0 ≤ h0.size) (P0 : Old Z n0 h0) (P1 : sta0 Z (.int cs)) (P2 : Exa Z h0 a_ "java/lang/String") (P3 : fld1 Z h0 a_ (.int 0)) (P4 : fld0 Z h0 a_ (.ref b)) (P5 : Arv Z h0 b k .byte (3 : Int32) vs dv) (hcs : ¬ (cs = (0 : Int32))) :
    MF l Z m_27 jdk_42_method_54_code 1 (some .int) ws (oR 1 0 0 13) #[(.ref a_)] h0 (Q_len0_3 Z a_ b k vs dv cs h0 n0) := by
  refine own_body (cls := "java/lang/String") (plainFor_of_name pn_5) rfl (fun p e s m below meth c s₁ hx hby hml hown hnm hret hZ X0 e0 => ?_)
  have N0 := Fr.nil n0
  have lt1 := own_l P2.lt
  have lt2 := own_l P3.lt
  have lt3 := own_l P4.lt
  have lt4 := own_l P5.lt
  obtain ⟨T5, X5, e5, st5⟩ := getF X0 hx hZ hown (host := "") (Or.inl (w_24 hw)) Via.refl e0 P4 (g := (mkF m 1 #[vA a_] [(.ref a_)])) rfl rfl (hb hby d357)
  obtain ⟨cl6, Ar6, q6, S6, M6, H6, G6⟩ := id P5
  obtain ⟨cq7, kq7, qa7, qb7, qc7⟩ := isOf hZ e5 P2
  obtain ⟨_, _, ⟨T7, L7, k7, n7⟩, -, X7, ⟨Lc7, hQ7, l7, y7, z7⟩, st7⟩ := X5.virtualBack hx (y := m_26) (z := m_26) hown (mvT hZ (w_51 hw)) (mvT hZ (w_52 hw)) (notFace_of_selects (args := #[]) (mvT hZ (w_54 hw))) (mvT hZ (w_54 hw)) (mvT hZ (w_53 hw)) (by decide) (backOf (W := 1) (rm_cod0 l Z a0 hw [] a_ cs h0 n0 (by omega) P0 P1 P3 hcs) hZ (w_55 hw) (w_6 hw) (by decide) (by decide)) qa7 qc7 (g := (mkF m 6 #[vA a_] [(.ref a_), (.int 3)])) rfl (by rw [hml]; rfl) (Steps.refl _) (argsL := []) (rest := [(.int 3)]) (lenOf pd_15 rfl) rfl (Nat.le_of_eq rfl) (hb hby d360) (fun _ _ => ⟨rfl, e5, (by decide : 0 + 0 ≤ _), (by decide : 0 + 0 ≤ _)⟩)
  dsimp only [Pt.U, Pt.locs, Pt.cells, Pt.slots] at X7 l7 y7 z7 st7 hQ7
  rw [l7, y7, z7] at X7
  obtain ⟨rfl, Nq7, Kq7⟩ := hQ7
  have N7 := Fr.app N0 Nq7
  refine ⟨_, _, _, _, some (.int 3), X7, by decide, by decide, nofun, ?_, fun fs hr => castTop (ef_12 m a_) ?_⟩
  · show Q_len0_3 Z a_ b k vs dv cs h0 n0 _ T7.heap _
    rw [(Kq7 : T7.heap = h0)]
    exact ⟨rfl, N7, rfl⟩
  · show Steps _ _ _ (s₁.setTop (mkF m 0 #[vA a_] [])) _
    refine XS.aloadN X0.here hx rfl (hb hby d356) rfl rfl ?_
    refine st5 _ ?_
    show Steps _ _ _ (T5.setTop (mkF m 4 #[vA a_] [(.ref b)])) _
    refine X5.arraylength hx (by rw [e5]; exact Ar6.1) (State.isArrayOf_alike hZ.alike Ar6.2.1) (g := (mkF m 4 #[vA a_] [(.ref b)])) rfl rfl (hb hby d358) _ ?_
    rw [len_of S6 M6]
    show Steps _ _ _ (T5.setTop (mkF m 5 #[vA a_] [(.int 3)])) _
    refine XS.aloadN X5.here hx rfl (hb hby d359) rfl rfl ?_
    refine st7.trans ?_
    show Steps _ _ _ (T7.setTop (mkF m 9 #[vA a_] [(.int 0), (.int 3)])) _
    refine XS.ishr X7.here hx rfl (hb hby d361) rfl ?_
    exact retI X7 hx hret (hb hby d362) hr
theorem d363 : decode jdk_42_method_154_code 17 = .ok (.iconst 0, 1) := by decide +kernel
def Q_isl1 (Z : State) (a_ : Addr) (cs : Int32) (h0 : Heap) (n0 : Nat) (v : Option Value) (h : Heap) (L : List Loc) : Prop := (v = some (.int 0)) ∧ (Fr n0 L) ∧ (h = h0)
theorem rm_isl1 (l : Launch) (Z : State) (a0 : Array Value) (hw : HW Z a0) (ws : List Jvm.Cond) (a_ : Addr) (cs : Int32) (h0 : Heap) (n0 : Nat) (Z0 : n0 ≤ h0.size) (P0 : Old Z n0 h0) (P1 : sta0 Z (.int cs)) (P2 : fld1 Z h0 a_ (.int 1)) (hcs : ¬ (cs = (0 : Int32))) :
    MF l Z m_25 jdk_42_method_154_code 1 (some .boolean) ws (oR 0 0 0 0) #[(.ref a_)] h0 (Q_isl1 Z a_ cs h0 n0) := by
  refine own_body (cls := "java/lang/String") (plainFor_of_name pn_5) rfl (fun p e s m below meth c s₁ hx hby hml hown hnm hret hZ X0 e0 => ?_)
  have N0 := Fr.nil n0
  have lt1 := own_l P2.lt
  obtain ⟨T2, X2, e2, st2⟩ := getS2 X0 hx hZ hown (host := "") (Or.inl (w_45 hw)) Via.refl e0 (P1.ext P0.2) (g := (mkF m 0 #[vA a_] [])) rfl (hb hby d342)
  obtain ⟨T3, X3, e3, st3⟩ := getF X2 hx hZ hown (host := "") (Or.inl (w_25 hw)) Via.refl e2 P2 (g := (mkF m 7 #[vA a_] [(.ref a_)])) rfl rfl (hb hby d345)
  refine ⟨_, _, _, _, some (.int 0), X3, by decide, by decide, nofun, ?_, fun fs hr => castTop (ef_12 m a_) ?_⟩
  · show Q_isl1 Z a_ cs h0 n0 _ T3.heap _
    rw [(e3 : T3.heap = h0)]
    exact ⟨rfl, N0, rfl⟩
  · show Steps _ _ _ (s₁.setTop (mkF m 0 #[vA a_] [])) _
    refine st2 _ ?_
    show Steps _ _ _ (T2.setTop (mkF m 3 #[vA a_] [(.int cs)])) _
    refine XS.ifNo X2.here hx rfl (hb hby d343) rfl ((if0 _ _).trans (feq (hcs : ¬ (cs = (0 : Int32)))).1) ?_
    refine XS.aloadN X2.here hx rfl (hb hby d344) rfl rfl ?_
    refine st3 _ ?_
    show Steps _ _ _ (T3.setTop (mkF m 10 #[vA a_] [(.int 1)])) _
    refine XS.ifYes X3.here hx rfl (pc0 := 10) (pc' := 17) rfl (hb hby d346) rfl ((if0 _ _).trans (feq ((by decide) : ¬ ((1 : Int32) = (0 : Int32)))).2) (by decide) (by decide) ?_
    refine XS.iconst X3.here hx rfl (hb hby d363) ?_
    exact retN X3 hx (t := .boolean) hret (by simp) (hb hby d349) hr
def Q_cod1 (Z : State) (a_ : Addr) (cs : Int32) (h0 : Heap) (n0 : Nat) (v : Option Value) (h : Heap) (L : List Loc) : Prop := (v = some (.int 1)) ∧ (Fr n0 L) ∧ (h = h0)
theorem rm_cod1 (l : Launch) (Z : State) (a0 : Array Value) (hw : HW Z a0) (ws : List Jvm.Cond) (a_ : Addr) (cs : Int32) (h0 : Heap) (n0 : Nat) (Z0 : n0 ≤ h0.size) (P0 : Old Z n0 h0) (P1 : sta0 Z (.int cs)) (P2 : fld1 Z h0 a_ (.int 1)) (hcs : ¬ (cs = (0 : Int32))) :
    MF l Z m_26 jdk_42_method_152_code 1 (some .byte) ws (oR 0 0 0 0) #[(.ref a_)] h0 (Q_cod1 Z a_ cs h0 n0) := by
  refine own_body (cls := "java/lang/String") (plainFor_of_name pn_5) rfl (fun p e s m below meth c s₁ hx hby hml hown hnm hret hZ X0 e0 => ?_)
  have N0 := Fr.nil n0
  have lt1 := own_l P2.lt
  obtain ⟨T2, X2, e2, st2⟩ := getS2 X0 hx hZ hown (host := "") (Or.inl (w_45 hw)) Via.refl e0 (P1.ext P0.2) (g := (mkF m 0 #[vA a_] [])) rfl (hb hby d350)
  obtain ⟨T3, X3, e3, st3⟩ := getF X2 hx hZ hown (host := "") (Or.inl (w_25 hw)) Via.refl e2 P2 (g := (mkF m 7 #[vA a_] [(.ref a_)])) rfl rfl (hb hby d353)
  refine ⟨_, _, _, _, some (.int 1), X3, by decide, by decide, nofun, ?_, fun fs hr => castTop (ef_12 m a_) ?_⟩
  · show Q_cod1 Z a_ cs h0 n0 _ T3.heap _
    rw [(e3 : T3.heap = h0)]
    exact ⟨rfl, N0, rfl⟩
  · show Steps _ _ _ (s₁.setTop (mkF m 0 #[vA a_] [])) _
    refine st2 _ ?_
    show Steps _ _ _ (T2.setTop (mkF m 3 #[vA a_] [(.int cs)])) _
    refine XS.ifNo X2.here hx rfl (hb hby d351) rfl ((if0 _ _).trans (feq (hcs : ¬ (cs = (0 : Int32)))).1) ?_
    refine XS.aloadN X2.here hx rfl (hb hby d352) rfl rfl ?_
    refine st3 _ ?_
    show Steps _ _ _ (T3.setTop (mkF m 10 #[vA a_] [(.int 1)])) _
    refine XS.goto X3.here hx rfl (pc0 := 10) (pc' := 14) rfl (hb hby d354) (by decide) (by decide) ?_
    exact retN X3 hx (t := .byte) hret (by simp) (hb hby d355) hr
def Q_len1_1 (Z : State) (a_ : Addr) (b : Addr) (k : ClassId) (vs : List Value) (dv : Value) (cs : Int32) (h0 : Heap) (n0 : Nat) (v : Option Value) (h : Heap) (L : List Loc) : Prop := (v = some (.int 1)) ∧ (Fr n0 L) ∧ (h = h0)
theorem rm_len1_1 (l : Launch) (Z : State) (a0 : Array Value) (hw : HW Z a0) (ws : List Jvm.Cond) (a_ : Addr) (b : Addr) (k : ClassId) (vs : List Value) (dv : Value) (cs : Int32) (h0 : Heap) (n0 : Nat) (Z0 : n0 ≤ h0.size) (P0 : Old Z n0 h0) (P1 : sta0 Z (.int cs)) (P2 : Exa Z h0 a_ "java/lang/String") (P3 : fld1 Z h0 a_ (.int 1)) (P4 : fld0 Z h0 a_ (.ref b)) (P5 : Arv Z h0 b k .byte (2 : Int32) vs dv) (hcs : ¬ (cs = (0 : Int32))) :
    MF l Z m_27 jdk_42_method_54_code 1 (some .int) ws (oR 1 0 0 13) #[(.ref a_)] h0 (Q_len1_1 Z a_ b k vs dv cs h0 n0) := by
  refine own_body (cls := "java/lang/String") (plainFor_of_name pn_5) rfl (fun p e s m below meth c s₁ hx hby hml hown hnm hret hZ X0 e0 => ?_)
  have N0 := Fr.nil n0
  have lt1 := own_l P2.lt
  have lt2 := own_l P3.lt
  have lt3 := own_l P4.lt
  have lt4 := own_l P5.lt
  obtain ⟨T5, X5, e5, st5⟩ := getF X0 hx hZ hown (host := "") (Or.inl (w_24 hw)) Via.refl e0 P4 (g := (mkF m 1 #[vA a_] [(.ref a_)])) rfl rfl (hb hby d357)
  obtain ⟨cl6, Ar6, q6, S6, M6, H6, G6⟩ := id P5
  obtain ⟨cq7, kq7, qa7, qb7, qc7⟩ := isOf hZ e5 P2
  obtain ⟨_, _, ⟨T7, L7, k7, n7⟩, -, X7, ⟨Lc7, hQ7, l7, y7, z7⟩, st7⟩ := X5.virtualBack hx (y := m_26) (z := m_26) hown (mvT hZ (w_51 hw)) (mvT hZ (w_52 hw)) (notFace_of_selects (args := #[]) (mvT hZ (w_54 hw))) (mvT hZ (w_54 hw)) (mvT hZ (w_53 hw)) (by decide) (backOf (W := 1) (rm_cod1 l Z a0 hw [] a_ cs h0 n0 (by omega) P0 P1 P3 hcs) hZ (w_55 hw) (w_6 hw) (by decide) (by decide)) qa7 qc7 (g := (mkF m 6 #[vA a_] [(.ref a_), (.int 2)])) rfl (by rw [hml]; rfl) (Steps.refl _) (argsL := []) (rest := [(.int 2)]) (lenOf pd_15 rfl) rfl (Nat.le_of_eq rfl) (hb hby d360) (fun _ _ => ⟨rfl, e5, (by decide : 0 + 0 ≤ _), (by decide : 0 + 0 ≤ _)⟩)
  dsimp only [Pt.U, Pt.locs, Pt.cells, Pt.slots] at X7 l7 y7 z7 st7 hQ7
  rw [l7, y7, z7] at X7
  obtain ⟨rfl, Nq7, Kq7⟩ := hQ7
  have N7 := Fr.app N0 Nq7
  refine ⟨_, _, _, _, some (.int 1), X7, by decide, by decide, nofun, ?_, fun fs hr => castTop (ef_12 m a_) ?_⟩
  · show Q_len1_1 Z a_ b k vs dv cs h0 n0 _ T7.heap _
    rw [(Kq7 : T7.heap = h0)]
    exact ⟨rfl, N7, rfl⟩
  · show Steps _ _ _ (s₁.setTop (mkF m 0 #[vA a_] [])) _
    refine XS.aloadN X0.here hx rfl (hb hby d356) rfl rfl ?_
    refine st5 _ ?_
    show Steps _ _ _ (T5.setTop (mkF m 4 #[vA a_] [(.ref b)])) _
    refine X5.arraylength hx (by rw [e5]; exact Ar6.1) (State.isArrayOf_alike hZ.alike Ar6.2.1) (g := (mkF m 4 #[vA a_] [(.ref b)])) rfl rfl (hb hby d358) _ ?_
    rw [len_of S6 M6]
    show Steps _ _ _ (T5.setTop (mkF m 5 #[vA a_] [(.int 2)])) _
    refine XS.aloadN X5.here hx rfl (hb hby d359) rfl rfl ?_
    refine st7.trans ?_
    show Steps _ _ _ (T7.setTop (mkF m 9 #[vA a_] [(.int 1), (.int 2)])) _
    refine XS.ishr X7.here hx rfl (hb hby d361) rfl ?_
    exact retI X7 hx hret (hb hby d362) hr
def Q_len1_2 (Z : State) (a_ : Addr) (b : Addr) (k : ClassId) (vs : List Value) (dv : Value) (cs : Int32) (h0 : Heap) (n0 : Nat) (v : Option Value) (h : Heap) (L : List Loc) : Prop := (v = some (.int 2)) ∧ (Fr n0 L) ∧ (h = h0)
theorem rm_len1_2 (l : Launch) (Z : State) (a0 : Array Value) (hw : HW Z a0) (ws : List Jvm.Cond) (a_ : Addr) (b : Addr) (k : ClassId) (vs : List Value) (dv : Value) (cs : Int32) (h0 : Heap) (n0 : Nat) (Z0 : n0 ≤ h0.size) (P0 : Old Z n0 h0) (P1 : sta0 Z (.int cs)) (P2 : Exa Z h0 a_ "java/lang/String") (P3 : fld1 Z h0 a_ (.int 1)) (P4 : fld0 Z h0 a_ (.ref b)) (P5 : Arv Z h0 b k .byte (4 : Int32) vs dv) (hcs : ¬ (cs = (0 : Int32))) :
    MF l Z m_27 jdk_42_method_54_code 1 (some .int) ws (oR 1 0 0 13) #[(.ref a_)] h0 (Q_len1_2 Z a_ b k vs dv cs h0 n0) := by
  refine own_body (cls := "java/lang/String") (plainFor_of_name pn_5) rfl (fun p e s m below meth c s₁ hx hby hml hown hnm hret hZ X0 e0 => ?_)
  have N0 := Fr.nil n0
  have lt1 := own_l P2.lt
  have lt2 := own_l P3.lt
  have lt3 := own_l P4.lt
  have lt4 := own_l P5.lt
  obtain ⟨T5, X5, e5, st5⟩ := getF X0 hx hZ hown (host := "") (Or.inl (w_24 hw)) Via.refl e0 P4 (g := (mkF m 1 #[vA a_] [(.ref a_)])) rfl rfl (hb hby d357)
  obtain ⟨cl6, Ar6, q6, S6, M6, H6, G6⟩ := id P5
  obtain ⟨cq7, kq7, qa7, qb7, qc7⟩ := isOf hZ e5 P2
  obtain ⟨_, _, ⟨T7, L7, k7, n7⟩, -, X7, ⟨Lc7, hQ7, l7, y7, z7⟩, st7⟩ := X5.virtualBack hx (y := m_26) (z := m_26) hown (mvT hZ (w_51 hw)) (mvT hZ (w_52 hw)) (notFace_of_selects (args := #[]) (mvT hZ (w_54 hw))) (mvT hZ (w_54 hw)) (mvT hZ (w_53 hw)) (by decide) (backOf (W := 1) (rm_cod1 l Z a0 hw [] a_ cs h0 n0 (by omega) P0 P1 P3 hcs) hZ (w_55 hw) (w_6 hw) (by decide) (by decide)) qa7 qc7 (g := (mkF m 6 #[vA a_] [(.ref a_), (.int 4)])) rfl (by rw [hml]; rfl) (Steps.refl _) (argsL := []) (rest := [(.int 4)]) (lenOf pd_15 rfl) rfl (Nat.le_of_eq rfl) (hb hby d360) (fun _ _ => ⟨rfl, e5, (by decide : 0 + 0 ≤ _), (by decide : 0 + 0 ≤ _)⟩)
  dsimp only [Pt.U, Pt.locs, Pt.cells, Pt.slots] at X7 l7 y7 z7 st7 hQ7
  rw [l7, y7, z7] at X7
  obtain ⟨rfl, Nq7, Kq7⟩ := hQ7
  have N7 := Fr.app N0 Nq7
  refine ⟨_, _, _, _, some (.int 2), X7, by decide, by decide, nofun, ?_, fun fs hr => castTop (ef_12 m a_) ?_⟩
  · show Q_len1_2 Z a_ b k vs dv cs h0 n0 _ T7.heap _
    rw [(Kq7 : T7.heap = h0)]
    exact ⟨rfl, N7, rfl⟩
  · show Steps _ _ _ (s₁.setTop (mkF m 0 #[vA a_] [])) _
    refine XS.aloadN X0.here hx rfl (hb hby d356) rfl rfl ?_
    refine st5 _ ?_
    show Steps _ _ _ (T5.setTop (mkF m 4 #[vA a_] [(.ref b)])) _
    refine X5.arraylength hx (by rw [e5]; exact Ar6.1) (State.isArrayOf_alike hZ.alike Ar6.2.1) (g := (mkF m 4 #[vA a_] [(.ref b)])) rfl rfl (hb hby d358) _ ?_
    rw [len_of S6 M6]
    show Steps _ _ _ (T5.setTop (mkF m 5 #[vA a_] [(.int 4)])) _
    refine XS.aloadN X5.here hx rfl (hb hby d359) rfl rfl ?_
    refine st7.trans ?_
    show Steps _ _ _ (T7.setTop (mkF m 9 #[vA a_] [(.int 1), (.int 4)])) _
    refine XS.ishr X7.here hx rfl (hb hby d361) rfl ?_
    exact retI X7 hx hret (hb hby d362) hr
def Q_len1_3 (Z : State) (a_ : Addr) (b : Addr) (k : ClassId) (vs : List Value) (dv : Value) (cs : Int32) (h0 : Heap) (n0 : Nat) (v : Option Value) (h : Heap) (L : List Loc) : Prop := (v = some (.int 3)) ∧ (Fr n0 L) ∧ (h = h0)
theorem rm_len1_3 (l : Launch) (Z : State) (a0 : Array Value) (hw : HW Z a0) (ws : List Jvm.Cond) (a_ : Addr) (b : Addr) (k : ClassId) (vs : List Value) (dv : Value) (cs : Int32) (h0 : Heap) (n0 : Nat) (Z0 : n0 ≤ h0.size) (P0 : Old Z n0 h0) (P1 : sta0 Z (.int cs)) (P2 : Exa Z h0 a_ "java/lang/String") (P3 : fld1 Z h0 a_ (.int 1)) (P4 : fld0 Z h0 a_ (.ref b)) (P5 : Arv Z h0 b k .byte (6 : Int32) vs dv) (hcs : ¬ (cs = (0 : Int32))) :
    MF l Z m_27 jdk_42_method_54_code 1 (some .int) ws (oR 1 0 0 13) #[(.ref a_)] h0 (Q_len1_3 Z a_ b k vs dv cs h0 n0) := by
  refine own_body (cls := "java/lang/String") (plainFor_of_name pn_5) rfl (fun p e s m below meth c s₁ hx hby hml hown hnm hret hZ X0 e0 => ?_)
  have N0 := Fr.nil n0
  have lt1 := own_l P2.lt
  have lt2 := own_l P3.lt
  have lt3 := own_l P4.lt
  have lt4 := own_l P5.lt
  obtain ⟨T5, X5, e5, st5⟩ := getF X0 hx hZ hown (host := "") (Or.inl (w_24 hw)) Via.refl e0 P4 (g := (mkF m 1 #[vA a_] [(.ref a_)])) rfl rfl (hb hby d357)
  obtain ⟨cl6, Ar6, q6, S6, M6, H6, G6⟩ := id P5
  obtain ⟨cq7, kq7, qa7, qb7, qc7⟩ := isOf hZ e5 P2
  obtain ⟨_, _, ⟨T7, L7, k7, n7⟩, -, X7, ⟨Lc7, hQ7, l7, y7, z7⟩, st7⟩ := X5.virtualBack hx (y := m_26) (z := m_26) hown (mvT hZ (w_51 hw)) (mvT hZ (w_52 hw)) (notFace_of_selects (args := #[]) (mvT hZ (w_54 hw))) (mvT hZ (w_54 hw)) (mvT hZ (w_53 hw)) (by decide) (backOf (W := 1) (rm_cod1 l Z a0 hw [] a_ cs h0 n0 (by omega) P0 P1 P3 hcs) hZ (w_55 hw) (w_6 hw) (by decide) (by decide)) qa7 qc7 (g := (mkF m 6 #[vA a_] [(.ref a_), (.int 6)])) rfl (by rw [hml]; rfl) (Steps.refl _) (argsL := []) (rest := [(.int 6)]) (lenOf pd_15 rfl) rfl (Nat.le_of_eq rfl) (hb hby d360) (fun _ _ => ⟨rfl, e5, (by decide : 0 + 0 ≤ _), (by decide : 0 + 0 ≤ _)⟩)
  dsimp only [Pt.U, Pt.locs, Pt.cells, Pt.slots] at X7 l7 y7 z7 st7 hQ7
  rw [l7, y7, z7] at X7
  obtain ⟨rfl, Nq7, Kq7⟩ := hQ7
  have N7 := Fr.app N0 Nq7
  refine ⟨_, _, _, _, some (.int 3), X7, by decide, by decide, nofun, ?_, fun fs hr => castTop (ef_12 m a_) ?_⟩
  · show Q_len1_3 Z a_ b k vs dv cs h0 n0 _ T7.heap _
    rw [(Kq7 : T7.heap = h0)]
    exact ⟨rfl, N7, rfl⟩
  · show Steps _ _ _ (s₁.setTop (mkF m 0 #[vA a_] [])) _
    refine XS.aloadN X0.here hx rfl (hb hby d356) rfl rfl ?_
    refine st5 _ ?_
    show Steps _ _ _ (T5.setTop (mkF m 4 #[vA a_] [(.ref b)])) _
    refine X5.arraylength hx (by rw [e5]; exact Ar6.1) (State.isArrayOf_alike hZ.alike Ar6.2.1) (g := (mkF m 4 #[vA a_] [(.ref b)])) rfl rfl (hb hby d358) _ ?_
    rw [len_of S6 M6]
    show Steps _ _ _ (T5.setTop (mkF m 5 #[vA a_] [(.int 6)])) _
    refine XS.aloadN X5.here hx rfl (hb hby d359) rfl rfl ?_
    refine st7.trans ?_
    show Steps _ _ _ (T7.setTop (mkF m 9 #[vA a_] [(.int 1), (.int 6)])) _
    refine XS.ishr X7.here hx rfl (hb hby d361) rfl ?_
    exact retI X7 hx hret (hb hby d362) hr
theorem d364 : decode jdk_42_method_80_code 0 = .ok (.aload_n 0, 1) := by decide +kernel
theorem w_40 {Z : State} {a0 : Array Value} (hw : HW Z a0) : (Jvm.Cond.methodLink "java/lang/String" (492 : Nat) m_25).before a0 Z = true := hw _ (List.mem_of_getElem? (i := 40) rfl)
theorem w_44 {Z : State} {a0 : Array Value} (hw : HW Z a0) : (Jvm.Cond.code m_25 jdk_42_method_154_code (1 : Nat) (Option.some FieldType.boolean)).before a0 Z = true := hw _ (List.mem_of_getElem? (i := 44) rfl)
theorem pd_16 : parseMethodDescriptor "()Z" = some ⟨[], some .boolean⟩ := by decide +kernel
theorem d365 : decode jdk_42_method_80_code 1 = .ok (.invokevirtual 492, 3) := by decide +kernel
theorem w_43 {Z : State} {a0 : Array Value} (hw : HW Z a0) : (Jvm.Cond.selects "java/lang/String" m_25 m_25).before a0 Z = true := hw _ (List.mem_of_getElem? (i := 43) rfl)
theorem w_41 {Z : State} {a0 : Array Value} (hw : HW Z a0) : (Jvm.Cond.declares m_25).before a0 Z = true := hw _ (List.mem_of_getElem? (i := 41) rfl)
theorem w_42 {Z : State} {a0 : Array Value} (hw : HW Z a0) : (Jvm.Cond.instanceMethod m_25).before a0 Z = true := hw _ (List.mem_of_getElem? (i := 42) rfl)
theorem d366 : decode jdk_42_method_80_code 4 = .ok (.ifCond .eq 19, 3) := by decide +kernel
theorem d367 : decode jdk_42_method_80_code 7 = .ok (.aload_n 0, 1) := by decide +kernel
theorem d368 : decode jdk_42_method_80_code 8 = .ok (.getfield 9, 3) := by decide +kernel
theorem d369 : decode jdk_42_method_80_code 11 = .ok (.iload_n 1, 1) := by decide +kernel
theorem d370 : decode jdk_42_method_80_code 12 = .ok (.iload_n 2, 1) := by decide +kernel
theorem d371 : decode jdk_42_method_80_code 13 = .ok (.aload_n 0, 1) := by decide +kernel
theorem w_46 {Z : State} {a0 : Array Value} (hw : HW Z a0) : (Jvm.Cond.methodLink "java/lang/String" (505 : Nat) m_27).before a0 Z = true := hw _ (List.mem_of_getElem? (i := 46) rfl)
theorem w_50 {Z : State} {a0 : Array Value} (hw : HW Z a0) : (Jvm.Cond.code m_27 jdk_42_method_54_code (1 : Nat) (Option.some FieldType.int)).before a0 Z = true := hw _ (List.mem_of_getElem? (i := 50) rfl)
theorem pd_17 : parseMethodDescriptor "()I" = some ⟨[], some .int⟩ := by decide +kernel
theorem d372 : decode jdk_42_method_80_code 14 = .ok (.invokevirtual 505, 3) := by decide +kernel
theorem w_49 {Z : State} {a0 : Array Value} (hw : HW Z a0) : (Jvm.Cond.selects "java/lang/String" m_27 m_27).before a0 Z = true := hw _ (List.mem_of_getElem? (i := 49) rfl)
theorem w_47 {Z : State} {a0 : Array Value} (hw : HW Z a0) : (Jvm.Cond.declares m_27).before a0 Z = true := hw _ (List.mem_of_getElem? (i := 47) rfl)
theorem w_48 {Z : State} {a0 : Array Value} (hw : HW Z a0) : (Jvm.Cond.instanceMethod m_27).before a0 Z = true := hw _ (List.mem_of_getElem? (i := 48) rfl)
theorem w_56 {Z : State} {a0 : Array Value} (hw : HW Z a0) : (Jvm.Cond.methodLink "java/lang/String" (637 : Nat) m_17).before a0 Z = true := hw _ (List.mem_of_getElem? (i := 56) rfl)
theorem w_59 {Z : State} {a0 : Array Value} (hw : HW Z a0) : (Jvm.Cond.code m_17 jdk_43_method_22_code (4 : Nat) (Option.some FieldType.int)).before a0 Z = true := hw _ (List.mem_of_getElem? (i := 59) rfl)
theorem d373 : decode jdk_42_method_80_code 17 = .ok (.invokestatic 637, 3) := by decide +kernel
theorem w_57 {Z : State} {a0 : Array Value} (hw : HW Z a0) : (Jvm.Cond.static m_17).before a0 Z = true := hw _ (List.mem_of_getElem? (i := 57) rfl)
theorem d374 : decode jdk_42_method_80_code 20 = .ok (.goto 16, 3) := by decide +kernel
theorem d375 : decode jdk_42_method_80_code 36 = .ok (.ireturn, 1) := by decide +kernel
abbrev m_28 : MethodName := (⟨"java/lang/String", "indexOf", "(II)I"⟩ : MethodName)
def Q_i2l1 (Z : State) (c0 : Int32) (x_ : Int32) (b : Addr) (k : ClassId) (a_ : Addr) (cs : Int32) (h0 : Heap) (n0 : Nat) (v : Option Value) (h : Heap) (L : List Loc) : Prop := ∃ (r : Int32), (v = some (.int r)) ∧ (Fr n0 L) ∧ (h = h0) ∧ ((r < (0 : Int32)) ↔ (¬ (c0 = x_)))
theorem rm_i2l1 (l : Launch) (Z : State) (a0 : Array Value) (hw : HW Z a0) (ws : List Jvm.Cond) (c0 : Int32) (x_ : Int32) (b : Addr) (k : ClassId) (a_ : Addr) (cs : Int32) (h0 : Heap) (n0 : Nat) (Z0 : n0 ≤ h0.size) (P0 : Old Z n0 h0) (P1 : sta0 Z (.int cs)) (P2 : Exa Z h0 a_ "java/lang/String") (P3 : fld1 Z h0 a_ (.int 0)) (P4 : fld0 Z h0 a_ (.ref b)) (P5 : Arv Z h0 b k .byte (1 : Int32) [(.int (oB c0))] (.int 0)) (hcs : ¬ (cs = (0 : Int32))) (hx0 : ¬ (x_ < (0 : Int32))) (hx1 : ¬ ((255 : Int32) < x_)) (r0 : ¬ c0 < 0 ∧ ¬ (65535 : Int32) < c0) (hl0 : ¬ ((255 : Int32) < c0)) :
    MF l Z m_28 jdk_42_method_80_code 3 (some .int) ws (oR 2 0 0 32) #[(.ref a_), (.int x_), (.int 0)] h0 (Q_i2l1 Z c0 x_ b k a_ cs h0 n0) := by
  refine own_body (cls := "java/lang/String") (plainFor_of_name pn_5) rfl (fun p e s m below meth c s₁ hx hby hml hown hnm hret hZ X0 e0 => ?_)
  have N0 := Fr.nil n0
  have lt1 := own_l P2.lt
  have lt2 := own_l P3.lt
  have lt3 := own_l P4.lt
  have lt4 := own_l P5.lt
  obtain ⟨cq5, kq5, qa5, qb5, qc5⟩ := isOf hZ e0 P2
  obtain ⟨_, _, ⟨T5, L5, k5, n5⟩, -, X5, ⟨Lc5, hQ5, l5, y5, z5⟩, st5⟩ := X0.virtualBack hx (y := m_25) (z := m_25) hown (mvT hZ (w_40 hw)) (mvT hZ (w_41 hw)) (notFace_of_selects (args := #[]) (mvT hZ (w_43 hw))) (mvT hZ (w_43 hw)) (mvT hZ (w_42 hw)) (by decide) (backOf (W := 0) (rm_isl0 l Z a0 hw [] a_ cs h0 n0 (by omega) P0 P1 P3 hcs) hZ (w_44 hw) (w_6 hw) (by decide) (by decide)) qa5 qc5 (g := (mkF m 1 #[vA a_, vI x_, vI 0] [(.ref a_)])) rfl (by rw [hml]; rfl) (Steps.refl _) (argsL := []) (rest := []) (lenOf pd_16 rfl) rfl (Nat.le_of_eq rfl) (hb hby d365) (fun _ _ => ⟨rfl, e0, (by decide : 0 + 0 ≤ _), (by decide : 0 + 0 ≤ _)⟩)
  dsimp only [Pt.U, Pt.locs, Pt.cells, Pt.slots] at X5 l5 y5 z5 st5 hQ5
  rw [l5, y5, z5] at X5
  obtain ⟨rfl, Nq5, Kq5⟩ := hQ5
  have N5 := Fr.app N0 Nq5
  obtain ⟨T6, X6, e6, st6⟩ := getF X5 hx hZ hown (host := "") (Or.inl (w_24 hw)) Via.refl Kq5 P4 (g := (mkF m 8 #[vA a_, vI x_, vI 0] [(.ref a_)])) rfl rfl (hb hby d368)
  obtain ⟨cq7, kq7, qa7, qb7, qc7⟩ := isOf hZ e6 P2
  obtain ⟨_, _, ⟨T7, L7, k7, n7⟩, -, X7, ⟨Lc7, hQ7, l7, y7, z7⟩, st7⟩ := X6.virtualBack hx (y := m_27) (z := m_27) hown (mvT hZ (w_46 hw)) (mvT hZ (w_47 hw)) (notFace_of_selects (args := #[]) (mvT hZ (w_49 hw))) (mvT hZ (w_49 hw)) (mvT hZ (w_48 hw)) (by decide) (backOf (W := 3) (rm_len0_1 l Z a0 hw [] a_ b k ([(.int (oB c0))]) ((.int 0)) cs h0 n0 (by omega) P0 P1 P2 P3 P4 P5 hcs) hZ (w_50 hw) (w_6 hw) (by decide) (by decide)) qa7 qc7 (g := (mkF m 14 #[vA a_, vI x_, vI 0] [(.ref a_), (.int 0), (.int x_), (.ref b)])) rfl (by rw [hml]; rfl) (Steps.refl _) (argsL := []) (rest := [(.int 0), (.int x_), (.ref b)]) (lenOf pd_17 rfl) rfl (Nat.le_of_eq rfl) (hb hby d372) (fun _ _ => ⟨rfl, e6, (by decide : 0 + 0 ≤ _), (by decide : 0 + 0 ≤ _)⟩)
  dsimp only [Pt.U, Pt.locs, Pt.cells, Pt.slots] at X7 l7 y7 z7 st7 hQ7
  rw [l7, y7, z7] at X7
  obtain ⟨rfl, Nq7, Kq7⟩ := hQ7
  have N7 := Fr.app N5 Nq7
  obtain ⟨_, _, ⟨T8, L8, k8, n8⟩, -, X8, ⟨Lc8, hQ8, l8, y8, z8⟩, st8⟩ := Jvm.LawKit.callS X7 hx (y := m_17) hown (mvT hZ (w_56 hw)) (mvT hZ (w_57 hw)) (mvT hZ (w_58 hw)) (mvT hZ (w_59 hw)) (by decide) (backOf (W := 0) (rm_iol1 l Z a0 hw [] c0 x_ b k h0 n0 (by omega) P5 hx0 hx1 r0 hl0) hZ (w_59 hw) (w_58 hw) (by decide) (by decide)) (g := (mkF m 17 #[vA a_, vI x_, vI 0] [(.int 1), (.int 0), (.int x_), (.ref b)])) rfl (by rw [hml]; rfl) (argsL := [(.ref b), (.int x_), (.int 0), (.int 1)]) (rest := []) (lenOf pd_10 rfl) rfl (Nat.le_of_eq rfl) (hb hby d373) (fun _ _ => ⟨rfl, Kq7, (by decide : 0 + 0 ≤ _), (by decide : 0 + 0 ≤ _)⟩)
  dsimp only [Pt.U, Pt.locs, Pt.cells, Pt.slots] at X8 l8 y8 z8 st8 hQ8
  rw [l8, y8, z8] at X8
  obtain ⟨x8_r, rfl, Nq8, Kq8, r8_0⟩ := hQ8
  have N8 := Fr.app N7 Nq8
  refine ⟨_, _, _, _, some (.int x8_r), X8, by decide, by decide, nofun, ?_, fun fs hr => castTop (ef_4 m a_ x_ (0 : Int32)) ?_⟩
  · show Q_i2l1 Z c0 x_ b k a_ cs h0 n0 _ T8.heap _
    rw [(Kq8 : T8.heap = h0)]
    exact ⟨x8_r, rfl, N8, rfl, r8_0⟩
  · show Steps _ _ _ (s₁.setTop (mkF m 0 #[vA a_, vI x_, vI 0] [])) _
    refine XS.aloadN X0.here hx rfl (hb hby d364) rfl rfl ?_
    refine st5.trans ?_
    show Steps _ _ _ (T5.setTop (mkF m 4 #[vA a_, vI x_, vI 0] [(.int 1)])) _
    refine XS.ifNo X5.here hx rfl (hb hby d366) rfl ((if0 _ _).trans (feq ((by decide) : ¬ ((1 : Int32) = (0 : Int32)))).1) ?_
    refine XS.aloadN X5.here hx rfl (hb hby d367) rfl rfl ?_
    refine st6 _ ?_
    show Steps _ _ _ (T6.setTop (mkF m 11 #[vA a_, vI x_, vI 0] [(.ref b)])) _
    refine XS.iloadN X6.here hx rfl (hb hby d369) rfl ?_
    refine XS.iloadN X6.here hx rfl (hb hby d370) rfl ?_
    refine XS.aloadN X6.here hx rfl (hb hby d371) rfl rfl ?_
    refine st7.trans ?_
    show Steps _ _ _ (T7.setTop (mkF m 17 #[vA a_, vI x_, vI 0] [(.int 1), (.int 0), (.int x_), (.ref b)])) _
    refine st8 _ ?_
    show Steps _ _ _ (T8.setTop (mkF m 20 #[vA a_, vI x_, vI 0] [(.int x8_r)])) _
    refine XS.goto X8.here hx rfl (pc0 := 20) (pc' := 36) rfl (hb hby d374) (by decide) (by decide) ?_
    exact retI X8 hx hret (hb hby d375) hr
theorem d376 : decode jdk_42_method_79_code 0 = .ok (.aload_n 0, 1) := by decide +kernel
theorem d377 : decode jdk_42_method_79_code 1 = .ok (.iload_n 1, 1) := by decide +kernel
theorem d378 : decode jdk_42_method_79_code 2 = .ok (.iconst 0, 1) := by decide +kernel
theorem w_35 {Z : State} {a0 : Array Value} (hw : HW Z a0) : (Jvm.Cond.methodLink "java/lang/String" (633 : Nat) m_28).before a0 Z = true := hw _ (List.mem_of_getElem? (i := 35) rfl)
theorem w_39 {Z : State} {a0 : Array Value} (hw : HW Z a0) : (Jvm.Cond.code m_28 jdk_42_method_80_code (3 : Nat) (Option.some FieldType.int)).before a0 Z = true := hw _ (List.mem_of_getElem? (i := 39) rfl)
theorem d379 : decode jdk_42_method_79_code 3 = .ok (.invokevirtual 633, 3) := by decide +kernel
theorem w_38 {Z : State} {a0 : Array Value} (hw : HW Z a0) : (Jvm.Cond.selects "java/lang/String" m_28 m_28).before a0 Z = true := hw _ (List.mem_of_getElem? (i := 38) rfl)
theorem w_36 {Z : State} {a0 : Array Value} (hw : HW Z a0) : (Jvm.Cond.declares m_28).before a0 Z = true := hw _ (List.mem_of_getElem? (i := 36) rfl)
theorem w_37 {Z : State} {a0 : Array Value} (hw : HW Z a0) : (Jvm.Cond.instanceMethod m_28).before a0 Z = true := hw _ (List.mem_of_getElem? (i := 37) rfl)
theorem d380 : decode jdk_42_method_79_code 6 = .ok (.ireturn, 1) := by decide +kernel
abbrev m_29 : MethodName := (⟨"java/lang/String", "indexOf", "(I)I"⟩ : MethodName)
def Q_i1l1 (Z : State) (c0 : Int32) (x_ : Int32) (b : Addr) (k : ClassId) (a_ : Addr) (cs : Int32) (h0 : Heap) (n0 : Nat) (v : Option Value) (h : Heap) (L : List Loc) : Prop := ∃ (r : Int32), (v = some (.int r)) ∧ (Fr n0 L) ∧ (h = h0) ∧ ((r < (0 : Int32)) ↔ (¬ (c0 = x_)))
theorem rm_i1l1 (l : Launch) (Z : State) (a0 : Array Value) (hw : HW Z a0) (ws : List Jvm.Cond) (c0 : Int32) (x_ : Int32) (b : Addr) (k : ClassId) (a_ : Addr) (cs : Int32) (h0 : Heap) (n0 : Nat) (Z0 : n0 ≤ h0.size) (P0 : Old Z n0 h0) (P1 : sta0 Z (.int cs)) (P2 : Exa Z h0 a_ "java/lang/String") (P3 : fld1 Z h0 a_ (.int 0)) (P4 : fld0 Z h0 a_ (.ref b)) (P5 : Arv Z h0 b k .byte (1 : Int32) [(.int (oB c0))] (.int 0)) (hcs : ¬ (cs = (0 : Int32))) (hx0 : ¬ (x_ < (0 : Int32))) (hx1 : ¬ ((255 : Int32) < x_)) (r0 : ¬ c0 < 0 ∧ ¬ (65535 : Int32) < c0) (hl0 : ¬ ((255 : Int32) < c0)) :
    MF l Z m_29 jdk_42_method_79_code 2 (some .int) ws (oR 3 0 0 46) #[(.ref a_), (.int x_)] h0 (Q_i1l1 Z c0 x_ b k a_ cs h0 n0) := by
  refine own_body (cls := "java/lang/String") (plainFor_of_name pn_5) rfl (fun p e s m below meth c s₁ hx hby hml hown hnm hret hZ X0 e0 => ?_)
  have N0 := Fr.nil n0
  have lt1 := own_l P2.lt
  have lt2 := own_l P3.lt
  have lt3 := own_l P4.lt
  have lt4 := own_l P5.lt
  obtain ⟨cq5, kq5, qa5, qb5, qc5⟩ := isOf hZ e0 P2
  obtain ⟨_, _, ⟨T5, L5, k5, n5⟩, -, X5, ⟨Lc5, hQ5, l5, y5, z5⟩, st5⟩ := X0.virtualBack hx (y := m_28) (z := m_28) hown (mvT hZ (w_35 hw)) (mvT hZ (w_36 hw)) (notFace_of_selects (args := #[]) (mvT hZ (w_38 hw))) (mvT hZ (w_38 hw)) (mvT hZ (w_37 hw)) (by decide) (backOf (W := 0) (rm_i2l1 l Z a0 hw [] c0 x_ b k a_ cs h0 n0 (by omega) P0 P1 P2 P3 P4 P5 hcs hx0 hx1 r0 hl0) hZ (w_39 hw) (w_6 hw) (by decide) (by decide)) qa5 qc5 (g := (mkF m 3 #[vA a_, vI x_] [(.int 0), (.int x_), (.ref a_)])) rfl (by rw [hml]; rfl) (Steps.refl _) (argsL := [(.int x_), (.int 0)]) (rest := []) (lenOf pd_9 rfl) rfl (Nat.le_of_eq rfl) (hb hby d379) (fun _ _ => ⟨rfl, e0, (by decide : 0 + 0 ≤ _), (by decide : 0 + 0 ≤ _)⟩)
  dsimp only [Pt.U, Pt.locs, Pt.cells, Pt.slots] at X5 l5 y5 z5 st5 hQ5
  rw [l5, y5, z5] at X5
  obtain ⟨x5_r, rfl, Nq5, Kq5, r5_0⟩ := hQ5
  have N5 := Fr.app N0 Nq5
  refine ⟨_, _, _, _, some (.int x5_r), X5, by decide, by decide, nofun, ?_, fun fs hr => castTop (ef_3 m a_ x_) ?_⟩
  · show Q_i1l1 Z c0 x_ b k a_ cs h0 n0 _ T5.heap _
    rw [(Kq5 : T5.heap = h0)]
    exact ⟨x5_r, rfl, N5, rfl, r5_0⟩
  · show Steps _ _ _ (s₁.setTop (mkF m 0 #[vA a_, vI x_] [])) _
    refine XS.aloadN X0.here hx rfl (hb hby d376) rfl rfl ?_
    refine XS.iloadN X0.here hx rfl (hb hby d377) rfl ?_
    refine XS.iconst X0.here hx rfl (hb hby d378) ?_
    refine st5.trans ?_
    show Steps _ _ _ (T5.setTop (mkF m 6 #[vA a_, vI x_] [(.int x5_r)])) _
    exact retI X5 hx hret (hb hby d380) hr
theorem d381 : decode jdk_42_method_80_code 23 = .ok (.aload_n 0, 1) := by decide +kernel
theorem d382 : decode jdk_42_method_80_code 24 = .ok (.getfield 9, 3) := by decide +kernel
theorem d383 : decode jdk_42_method_80_code 27 = .ok (.iload_n 1, 1) := by decide +kernel
theorem d384 : decode jdk_42_method_80_code 28 = .ok (.iload_n 2, 1) := by decide +kernel
theorem d385 : decode jdk_42_method_80_code 29 = .ok (.aload_n 0, 1) := by decide +kernel
theorem d386 : decode jdk_42_method_80_code 30 = .ok (.invokevirtual 505, 3) := by decide +kernel
theorem w_105 {Z : State} {a0 : Array Value} (hw : HW Z a0) : (Jvm.Cond.methodLink "java/lang/String" (640 : Nat) m_24).before a0 Z = true := hw _ (List.mem_of_getElem? (i := 105) rfl)
theorem w_107 {Z : State} {a0 : Array Value} (hw : HW Z a0) : (Jvm.Cond.code m_24 jdk_52_method_40_code (4 : Nat) (Option.some FieldType.int)).before a0 Z = true := hw _ (List.mem_of_getElem? (i := 107) rfl)
theorem d387 : decode jdk_42_method_80_code 33 = .ok (.invokestatic 640, 3) := by decide +kernel
theorem w_106 {Z : State} {a0 : Array Value} (hw : HW Z a0) : (Jvm.Cond.static m_24).before a0 Z = true := hw _ (List.mem_of_getElem? (i := 106) rfl)
def Q_i2u1 (Z : State) (c0 : Int32) (x_ : Int32) (b : Addr) (k : ClassId) (a_ : Addr) (cs : Int32) (sf : Value) (h0 : Heap) (n0 : Nat) (v : Option Value) (h : Heap) (L : List Loc) : Prop := ∃ (r : Int32), (v = some (.int r)) ∧ (Fr n0 L) ∧ (h = h0) ∧ ((r < (0 : Int32)) ↔ (¬ (c0 = x_)))
theorem rm_i2u1 (l : Launch) (Z : State) (a0 : Array Value) (hw : HW Z a0) (ws : List Jvm.Cond) (c0 : Int32) (x_ : Int32) (b : Addr) (k : ClassId) (a_ : Addr) (cs : Int32) (sf : Value) (h0 : Heap) (n0 : Nat) (Z0 : n0 ≤ h0.size) (P0 : Old Z n0 h0) (P1 : sta0 Z (.int cs)) (P2 : Exa Z h0 a_ "java/lang/String") (P3 : fld1 Z h0 a_ (.int 1)) (P4 : fld0 Z h0 a_ (.ref b)) (P5 : Arv Z h0 b k .byte (2 : Int32) [(.int (oL c0)), (.int (oH c0))] (.int 0)) (P6 : sta1 Z (.int 1)) (P7 : sta2 Z (.int 0)) (P8 : sta3 Z (.int 8)) (P9 : sta4 Z sf) (hcs : ¬ (cs = (0 : Int32))) (hsf : sf.isRef = true) (r0 : ¬ c0 < 0 ∧ ¬ (65535 : Int32) < c0) (hx2 : x_ < (65536 : Int32)) :
    MF l Z m_28 jdk_42_method_80_code 3 (some .int) ws (oR 5 0 0 73) #[(.ref a_), (.int x_), (.int 0)] h0 (Q_i2u1 Z c0 x_ b k a_ cs sf h0 n0) := by
  refine own_body (cls := "java/lang/String") (plainFor_of_name pn_5) rfl (fun p e s m below meth c s₁ hx hby hml hown hnm hret hZ X0 e0 => ?_)
  have N0 := Fr.nil n0
  have lt1 := own_l P2.lt
  have lt2 := own_l P3.lt
  have lt3 := own_l P4.lt
  have lt4 := own_l P5.lt
  obtain ⟨cq5, kq5, qa5, qb5, qc5⟩ := isOf hZ e0 P2
  obtain ⟨_, _, ⟨T5, L5, k5, n5⟩, -, X5, ⟨Lc5, hQ5, l5, y5, z5⟩, st5⟩ := X0.virtualBack hx (y := m_25) (z := m_25) hown (mvT hZ (w_40 hw)) (mvT hZ (w_41 hw)) (notFace_of_selects (args := #[]) (mvT hZ (w_43 hw))) (mvT hZ (w_43 hw)) (mvT hZ (w_42 hw)) (by decide) (backOf (W := 0) (rm_isl1 l Z a0 hw [] a_ cs h0 n0 (by omega) P0 P1 P3 hcs) hZ (w_44 hw) (w_6 hw) (by decide) (by decide)) qa5 qc5 (g := (mkF m 1 #[vA a_, vI x_, vI 0] [(.ref a_)])) rfl (by rw [hml]; rfl) (Steps.refl _) (argsL := []) (rest := []) (lenOf pd_16 rfl) rfl (Nat.le_of_eq rfl) (hb hby d365) (fun _ _ => ⟨rfl, e0, (by decide : 0 + 0 ≤ _), (by decide : 0 + 0 ≤ _)⟩)
  dsimp only [Pt.U, Pt.locs, Pt.cells, Pt.slots] at X5 l5 y5 z5 st5 hQ5
  rw [l5, y5, z5] at X5
  obtain ⟨rfl, Nq5, Kq5⟩ := hQ5
  have N5 := Fr.app N0 Nq5
  obtain ⟨T6, X6, e6, st6⟩ := getF X5 hx hZ hown (host := "") (Or.inl (w_24 hw)) Via.refl Kq5 P4 (g := (mkF m 24 #[vA a_, vI x_, vI 0] [(.ref a_)])) rfl rfl (hb hby d382)
  obtain ⟨cq7, kq7, qa7, qb7, qc7⟩ := isOf hZ e6 P2
  obtain ⟨_, _, ⟨T7, L7, k7, n7⟩, -, X7, ⟨Lc7, hQ7, l7, y7, z7⟩, st7⟩ := X6.virtualBack hx (y := m_27) (z := m_27) hown (mvT hZ (w_46 hw)) (mvT hZ (w_47 hw)) (notFace_of_selects (args := #[]) (mvT hZ (w_49 hw))) (mvT hZ (w_49 hw)) (mvT hZ (w_48 hw)) (by decide) (backOf (W := 3) (rm_len1_1 l Z a0 hw [] a_ b k ([(.int (oL c0)), (.int (oH c0))]) ((.int 0)) cs h0 n0 (by omega) P0 P1 P2 P3 P4 P5 hcs) hZ (w_50 hw) (w_6 hw) (by decide) (by decide)) qa7 qc7 (g := (mkF m 30 #[vA a_, vI x_, vI 0] [(.ref a_), (.int 0), (.int x_), (.ref b)])) rfl (by rw [hml]; rfl) (Steps.refl _) (argsL := []) (rest := [(.int 0), (.int x_), (.ref b)]) (lenOf pd_17 rfl) rfl (Nat.le_of_eq rfl) (hb hby d386) (fun _ _ => ⟨rfl, e6, (by decide : 0 + 0 ≤ _), (by decide : 0 + 0 ≤ _)⟩)
  dsimp only [Pt.U, Pt.locs, Pt.cells, Pt.slots] at X7 l7 y7 z7 st7 hQ7
  rw [l7, y7, z7] at X7
  obtain ⟨rfl, Nq7, Kq7⟩ := hQ7
  have N7 := Fr.app N5 Nq7
  obtain ⟨_, _, ⟨T8, L8, k8, n8⟩, -, X8, ⟨Lc8, hQ8, l8, y8, z8⟩, st8⟩ := Jvm.LawKit.callS X7 hx (y := m_24) hown (mvT hZ (w_105 hw)) (mvT hZ (w_106 hw)) (mvT hZ (w_72 hw)) (mvT hZ (w_107 hw)) (by decide) (backOf (W := 0) (rm_iou1 l Z a0 hw [] c0 x_ b k sf h0 n0 (by omega) P0 P5 P6 P7 P8 P9 r0 hsf hx2) hZ (w_107 hw) (w_72 hw) (by decide) (by decide)) (g := (mkF m 33 #[vA a_, vI x_, vI 0] [(.int 1), (.int 0), (.int x_), (.ref b)])) rfl (by rw [hml]; rfl) (argsL := [(.ref b), (.int x_), (.int 0), (.int 1)]) (rest := []) (lenOf pd_10 rfl) rfl (Nat.le_of_eq rfl) (hb hby d387) (fun _ _ => ⟨rfl, Kq7, (by decide : 0 + 0 ≤ _), (by decide : 0 + 0 ≤ _)⟩)
  dsimp only [Pt.U, Pt.locs, Pt.cells, Pt.slots] at X8 l8 y8 z8 st8 hQ8
  rw [l8, y8, z8] at X8
  obtain ⟨x8_r, rfl, Nq8, Kq8, r8_0⟩ := hQ8
  have N8 := Fr.app N7 Nq8
  refine ⟨_, _, _, _, some (.int x8_r), X8, by decide, by decide, nofun, ?_, fun fs hr => castTop (ef_4 m a_ x_ (0 : Int32)) ?_⟩
  · show Q_i2u1 Z c0 x_ b k a_ cs sf h0 n0 _ T8.heap _
    rw [(Kq8 : T8.heap = h0)]
    exact ⟨x8_r, rfl, N8, rfl, r8_0⟩
  · show Steps _ _ _ (s₁.setTop (mkF m 0 #[vA a_, vI x_, vI 0] [])) _
    refine XS.aloadN X0.here hx rfl (hb hby d364) rfl rfl ?_
    refine st5.trans ?_
    show Steps _ _ _ (T5.setTop (mkF m 4 #[vA a_, vI x_, vI 0] [(.int 0)])) _
    refine XS.ifYes X5.here hx rfl (pc0 := 4) (pc' := 23) rfl (hb hby d366) rfl ((if0 _ _).trans (teq ((by decide) : (0 : Int32) = (0 : Int32))).1) (by decide) (by decide) ?_
    refine XS.aloadN X5.here hx rfl (hb hby d381) rfl rfl ?_
    refine st6 _ ?_
    show Steps _ _ _ (T6.setTop (mkF m 27 #[vA a_, vI x_, vI 0] [(.ref b)])) _
    refine XS.iloadN X6.here hx rfl (hb hby d383) rfl ?_
    refine XS.iloadN X6.here hx rfl (hb hby d384) rfl ?_
    refine XS.aloadN X6.here hx rfl (hb hby d385) rfl rfl ?_
    refine st7.trans ?_
    show Steps _ _ _ (T7.setTop (mkF m 33 #[vA a_, vI x_, vI 0] [(.int 1), (.int 0), (.int x_), (.ref b)])) _
    refine st8 _ ?_
    show Steps _ _ _ (T8.setTop (mkF m 36 #[vA a_, vI x_, vI 0] [(.int x8_r)])) _
    exact retI X8 hx hret (hb hby d375) hr
def Q_i1u1 (Z : State) (c0 : Int32) (x_ : Int32) (b : Addr) (k : ClassId) (a_ : Addr) (cs : Int32) (sf : Value) (h0 : Heap) (n0 : Nat) (v : Option Value) (h : Heap) (L : List Loc) : Prop := ∃ (r : Int32), (v = some (.int r)) ∧ (Fr n0 L) ∧ (h = h0) ∧ ((r < (0 : Int32)) ↔ (¬ (c0 = x_)))
theorem rm_i1u1 (l : Launch) (Z : State) (a0 : Array Value) (hw : HW Z a0) (ws : List Jvm.Cond) (c0 : Int32) (x_ : Int32) (b : Addr) (k : ClassId) (a_ : Addr) (cs : Int32) (sf : Value) (h0 : Heap) (n0 : Nat) (Z0 : n0 ≤ h0.size) (P0 : Old Z n0 h0) (P1 : sta0 Z (.int cs)) (P2 : Exa Z h0 a_ "java/lang/String") (P3 : fld1 Z h0 a_ (.int 1)) (P4 : fld0 Z h0 a_ (.ref b)) (P5 : Arv Z h0 b k .byte (2 : Int32) [(.int (oL c0)), (.int (oH c0))] (.int 0)) (P6 : sta1 Z (.int 1)) (P7 : sta2 Z (.int 0)) (P8 : sta3 Z (.int 8)) (P9 : sta4 Z sf) (hcs : ¬ (cs = (0 : Int32))) (hsf : sf.isRef = true) (r0 : ¬ c0 < 0 ∧ ¬ (65535 : Int32) < c0) (hx2 : x_ < (65536 : Int32)) :
    MF l Z m_29 jdk_42_method_79_code 2 (some .int) ws (oR 6 0 0 87) #[(.ref a_), (.int x_)] h0 (Q_i1u1 Z c0 x_ b k a_ cs sf h0 n0) := by
  refine own_body (cls := "java/lang/String") (plainFor_of_name pn_5) rfl (fun p e s m below meth c s₁ hx hby hml hown hnm hret hZ X0 e0 => ?_)
  have N0 := Fr.nil n0
  have lt1 := own_l P2.lt
  have lt2 := own_l P3.lt
  have lt3 := own_l P4.lt
  have lt4 := own_l P5.lt
  obtain ⟨cq5, kq5, qa5, qb5, qc5⟩ := isOf hZ e0 P2
  obtain ⟨_, _, ⟨T5, L5, k5, n5⟩, -, X5, ⟨Lc5, hQ5, l5, y5, z5⟩, st5⟩ := X0.virtualBack hx (y := m_28) (z := m_28) hown (mvT hZ (w_35 hw)) (mvT hZ (w_36 hw)) (notFace_of_selects (args := #[]) (mvT hZ (w_38 hw))) (mvT hZ (w_38 hw)) (mvT hZ (w_37 hw)) (by decide) (backOf (W := 0) (rm_i2u1 l Z a0 hw [] c0 x_ b k a_ cs sf h0 n0 (by omega) P0 P1 P2 P3 P4 P5 P6 P7 P8 P9 hcs hsf r0 hx2) hZ (w_39 hw) (w_6 hw) (by decide) (by decide)) qa5 qc5 (g := (mkF m 3 #[vA a_, vI x_] [(.int 0), (.int x_), (.ref a_)])) rfl (by rw [hml]; rfl) (Steps.refl _) (argsL := [(.int x_), (.int 0)]) (rest := []) (lenOf pd_9 rfl) rfl (Nat.le_of_eq rfl) (hb hby d379) (fun _ _ => ⟨rfl, e0, (by decide : 0 + 0 ≤ _), (by decide : 0 + 0 ≤ _)⟩)
  dsimp only [Pt.U, Pt.locs, Pt.cells, Pt.slots] at X5 l5 y5 z5 st5 hQ5
  rw [l5, y5, z5] at X5
  obtain ⟨x5_r, rfl, Nq5, Kq5, r5_0⟩ := hQ5
  have N5 := Fr.app N0 Nq5
  refine ⟨_, _, _, _, some (.int x5_r), X5, by decide, by decide, nofun, ?_, fun fs hr => castTop (ef_3 m a_ x_) ?_⟩
  · show Q_i1u1 Z c0 x_ b k a_ cs sf h0 n0 _ T5.heap _
    rw [(Kq5 : T5.heap = h0)]
    exact ⟨x5_r, rfl, N5, rfl, r5_0⟩
  · show Steps _ _ _ (s₁.setTop (mkF m 0 #[vA a_, vI x_] [])) _
    refine XS.aloadN X0.here hx rfl (hb hby d376) rfl rfl ?_
    refine XS.iloadN X0.here hx rfl (hb hby d377) rfl ?_
    refine XS.iconst X0.here hx rfl (hb hby d378) ?_
    refine st5.trans ?_
    show Steps _ _ _ (T5.setTop (mkF m 6 #[vA a_, vI x_] [(.int x5_r)])) _
    exact retI X5 hx hret (hb hby d380) hr
def Q_i2l2 (Z : State) (c0 : Int32) (c1 : Int32) (x_ : Int32) (b : Addr) (k : ClassId) (a_ : Addr) (cs : Int32) (h0 : Heap) (n0 : Nat) (v : Option Value) (h : Heap) (L : List Loc) : Prop := ∃ (r : Int32), (v = some (.int r)) ∧ (Fr n0 L) ∧ (h = h0) ∧ ((r < (0 : Int32)) ↔ (¬ (c0 = x_) ∧ ¬ (c1 = x_)))
theorem rm_i2l2 (l : Launch) (Z : State) (a0 : Array Value) (hw : HW Z a0) (ws : List Jvm.Cond) (c0 : Int32) (c1 : Int32) (x_ : Int32) (b : Addr) (k : ClassId) (a_ : Addr) (cs : Int32) (h0 : Heap) (n0 : Nat) (Z0 : n0 ≤ h0.size) (P0 : Old Z n0 h0) (P1 : sta0 Z (.int cs)) (P2 : Exa Z h0 a_ "java/lang/String") (P3 : fld1 Z h0 a_ (.int 0)) (P4 : fld0 Z h0 a_ (.ref b)) (P5 : Arv Z h0 b k .byte (2 : Int32) [(.int (oB c0)), (.int (oB c1))] (.int 0)) (hcs : ¬ (cs = (0 : Int32))) (hx0 : ¬ (x_ < (0 : Int32))) (hx1 : ¬ ((255 : Int32) < x_)) (r0 : ¬ c0 < 0 ∧ ¬ (65535 : Int32) < c0) (r1 : ¬ c1 < 0 ∧ ¬ (65535 : Int32) < c1) (hl0 : ¬ ((255 : Int32) < c0)) (hl1 : ¬ ((255 : Int32) < c1)) :
    MF l Z m_28 jdk_42_method_80_code 3 (some .int) ws (oR 2 0 0 32) #[(.ref a_), (.int x_), (.int 0)] h0 (Q_i2l2 Z c0 c1 x_ b k a_ cs h0 n0) := by
  refine own_body (cls := "java/lang/String") (plainFor_of_name pn_5) rfl (fun p e s m below meth c s₁ hx hby hml hown hnm hret hZ X0 e0 => ?_)
  have N0 := Fr.nil n0
  have lt1 := own_l P2.lt
  have lt2 := own_l P3.lt
  have lt3 := own_l P4.lt
  have lt4 := own_l P5.lt
  obtain ⟨cq5, kq5, qa5, qb5, qc5⟩ := isOf hZ e0 P2
  obtain ⟨_, _, ⟨T5, L5, k5, n5⟩, -, X5, ⟨Lc5, hQ5, l5, y5, z5⟩, st5⟩ := X0.virtualBack hx (y := m_25) (z := m_25) hown (mvT hZ (w_40 hw)) (mvT hZ (w_41 hw)) (notFace_of_selects (args := #[]) (mvT hZ (w_43 hw))) (mvT hZ (w_43 hw)) (mvT hZ (w_42 hw)) (by decide) (backOf (W := 0) (rm_isl0 l Z a0 hw [] a_ cs h0 n0 (by omega) P0 P1 P3 hcs) hZ (w_44 hw) (w_6 hw) (by decide) (by decide)) qa5 qc5 (g := (mkF m 1 #[vA a_, vI x_, vI 0] [(.ref a_)])) rfl (by rw [hml]; rfl) (Steps.refl _) (argsL := []) (rest := []) (lenOf pd_16 rfl) rfl (Nat.le_of_eq rfl) (hb hby d365) (fun _ _ => ⟨rfl, e0, (by decide : 0 + 0 ≤ _), (by decide : 0 + 0 ≤ _)⟩)
  dsimp only [Pt.U, Pt.locs, Pt.cells, Pt.slots] at X5 l5 y5 z5 st5 hQ5
  rw [l5, y5, z5] at X5
  obtain ⟨rfl, Nq5, Kq5⟩ := hQ5
  have N5 := Fr.app N0 Nq5
  obtain ⟨T6, X6, e6, st6⟩ := getF X5 hx hZ hown (host := "") (Or.inl (w_24 hw)) Via.refl Kq5 P4 (g := (mkF m 8 #[vA a_, vI x_, vI 0] [(.ref a_)])) rfl rfl (hb hby d368)
  obtain ⟨cq7, kq7, qa7, qb7, qc7⟩ := isOf hZ e6 P2
  obtain ⟨_, _, ⟨T7, L7, k7, n7⟩, -, X7, ⟨Lc7, hQ7, l7, y7, z7⟩, st7⟩ := X6.virtualBack hx (y := m_27) (z := m_27) hown (mvT hZ (w_46 hw)) (mvT hZ (w_47 hw)) (notFace_of_selects (args := #[]) (mvT hZ (w_49 hw))) (mvT hZ (w_49 hw)) (mvT hZ (w_48 hw)) (by decide) (backOf (W := 3) (rm_len0_2 l Z a0 hw [] a_ b k ([(.int (oB c0)), (.int (oB c1))]) ((.int 0)) cs h0 n0 (by omega) P0 P1 P2 P3 P4 P5 hcs) hZ (w_50 hw) (w_6 hw) (by decide) (by decide)) qa7 qc7 (g := (mkF m 14 #[vA a_, vI x_, vI 0] [(.ref a_), (.int 0), (.int x_), (.ref b)])) rfl (by rw [hml]; rfl) (Steps.refl _) (argsL := []) (rest := [(.int 0), (.int x_), (.ref b)]) (lenOf pd_17 rfl) rfl (Nat.le_of_eq rfl) (hb hby d372) (fun _ _ => ⟨rfl, e6, (by decide : 0 + 0 ≤ _), (by decide : 0 + 0 ≤ _)⟩)
  dsimp only [Pt.U, Pt.locs, Pt.cells, Pt.slots] at X7 l7 y7 z7 st7 hQ7
  rw [l7, y7, z7] at X7
  obtain ⟨rfl, Nq7, Kq7⟩ := hQ7
  have N7 := Fr.app N5 Nq7
  obtain ⟨_, _, ⟨T8, L8, k8, n8⟩, -, X8, ⟨Lc8, hQ8, l8, y8, z8⟩, st8⟩ := Jvm.LawKit.callS X7 hx (y := m_17) hown (mvT hZ (w_56 hw)) (mvT hZ (w_57 hw)) (mvT hZ (w_58 hw)) (mvT hZ (w_59 hw)) (by decide) (backOf (W := 0) (rm_iol2 l Z a0 hw [] c0 c1 x_ b k h0 n0 (by omega) P5 hx0 hx1 r0 r1 hl0 hl1) hZ (w_59 hw) (w_58 hw) (by decide) (by decide)) (g := (mkF m 17 #[vA a_, vI x_, vI 0] [(.int 2), (.int 0), (.int x_), (.ref b)])) rfl (by rw [hml]; rfl) (argsL := [(.ref b), (.int x_), (.int 0), (.int 2)]) (rest := []) (lenOf pd_10 rfl) rfl (Nat.le_of_eq rfl) (hb hby d373) (fun _ _ => ⟨rfl, Kq7, (by decide : 0 + 0 ≤ _), (by decide : 0 + 0 ≤ _)⟩)
  dsimp only [Pt.U, Pt.locs, Pt.cells, Pt.slots] at X8 l8 y8 z8 st8 hQ8
  rw [l8, y8, z8] at X8
  obtain ⟨x8_r, rfl, Nq8, Kq8, r8_0⟩ := hQ8
  have N8 := Fr.app N7 Nq8
  refine ⟨_, _, _, _, some (.int x8_r), X8, by decide, by decide, nofun, ?_, fun fs hr => castTop (ef_4 m a_ x_ (0 : Int32)) ?_⟩
  · show Q_i2l2 Z c0 c1 x_ b k a_ cs h0 n0 _ T8.heap _
    rw [(Kq8 : T8.heap = h0)]
    exact ⟨x8_r, rfl, N8, rfl, r8_0⟩
  · show Steps _ _ _ (s₁.setTop (mkF m 0 #[vA a_, vI x_, vI 0] [])) _
    refine XS.aloadN X0.here hx rfl (hb hby d364) rfl rfl ?_
    refine st5.trans ?_
    show Steps _ _ _ (T5.setTop (mkF m 4 #[vA a_, vI x_, vI 0] [(.int 1)])) _
    refine XS.ifNo X5.here hx rfl (hb hby d366) rfl ((if0 _ _).trans (feq ((by decide) : ¬ ((1 : Int32) = (0 : Int32)))).1) ?_
    refine XS.aloadN X5.here hx rfl (hb hby d367) rfl rfl ?_
    refine st6 _ ?_
    show Steps _ _ _ (T6.setTop (mkF m 11 #[vA a_, vI x_, vI 0] [(.ref b)])) _
    refine XS.iloadN X6.here hx rfl (hb hby d369) rfl ?_
    refine XS.iloadN X6.here hx rfl (hb hby d370) rfl ?_
    refine XS.aloadN X6.here hx rfl (hb hby d371) rfl rfl ?_
    refine st7.trans ?_
    show Steps _ _ _ (T7.setTop (mkF m 17 #[vA a_, vI x_, vI 0] [(.int 2), (.int 0), (.int x_), (.ref b)])) _
    refine st8 _ ?_
    show Steps _ _ _ (T8.setTop (mkF m 20 #[vA a_, vI x_, vI 0] [(.int x8_r)])) _
    refine XS.goto X8.here hx rfl (pc0 := 20) (pc' := 36) rfl (hb hby d374) (by decide) (by decide) ?_
    exact retI X8 hx hret (hb hby d375) hr
def Q_i1l2 (Z : State) (c0 : Int32) (c1 : Int32) (x_ : Int32) (b : Addr) (k : ClassId) (a_ : Addr) (cs : Int32) (h0 : Heap) (n0 : Nat) (v : Option Value) (h : Heap) (L : List Loc) : Prop := ∃ (r : Int32), (v = some (.int r)) ∧ (Fr n0 L) ∧ (h = h0) ∧ ((r < (0 : Int32)) ↔ (¬ (c0 = x_) ∧ ¬ (c1 = x_)))
theorem rm_i1l2 (l : Launch) (Z : State) (a0 : Array Value) (hw : HW Z a0) (ws : List Jvm.Cond) (c0 : Int32) (c1 : Int32) (x_ : Int32) (b : Addr) (k : ClassId) (a_ : Addr) (cs : Int32) (h0 : Heap) (n0 : Nat) (Z0 : n0 ≤ h0.size) (P0 : Old Z n0 h0) (P1 : sta0 Z (.int cs)) (P2 : Exa Z h0 a_ "java/lang/String") (P3 : fld1 Z h0 a_ (.int 0)) (P4 : fld0 Z h0 a_ (.ref b)) (P5 : Arv Z h0 b k .byte (2 : Int32) [(.int (oB c0)), (.int (oB c1))] (.int 0)) (hcs : ¬ (cs = (0 : Int32))) (hx0 : ¬ (x_ < (0 : Int32))) (hx1 : ¬ ((255 : Int32) < x_)) (r0 : ¬ c0 < 0 ∧ ¬ (65535 : Int32) < c0) (r1 : ¬ c1 < 0 ∧ ¬ (65535 : Int32) < c1) (hl0 : ¬ ((255 : Int32) < c0)) (hl1 : ¬ ((255 : Int32) < c1)) :
    MF l Z m_29 jdk_42_method_79_code 2 (some .int) ws (oR 3 0 0 46) #[(.ref a_), (.int x_)] h0 (Q_i1l2 Z c0 c1 x_ b k a_ cs h0 n0) := by
  refine own_body (cls := "java/lang/String") (plainFor_of_name pn_5) rfl (fun p e s m below meth c s₁ hx hby hml hown hnm hret hZ X0 e0 => ?_)
  have N0 := Fr.nil n0
  have lt1 := own_l P2.lt
  have lt2 := own_l P3.lt
  have lt3 := own_l P4.lt
  have lt4 := own_l P5.lt
  obtain ⟨cq5, kq5, qa5, qb5, qc5⟩ := isOf hZ e0 P2
  obtain ⟨_, _, ⟨T5, L5, k5, n5⟩, -, X5, ⟨Lc5, hQ5, l5, y5, z5⟩, st5⟩ := X0.virtualBack hx (y := m_28) (z := m_28) hown (mvT hZ (w_35 hw)) (mvT hZ (w_36 hw)) (notFace_of_selects (args := #[]) (mvT hZ (w_38 hw))) (mvT hZ (w_38 hw)) (mvT hZ (w_37 hw)) (by decide) (backOf (W := 0) (rm_i2l2 l Z a0 hw [] c0 c1 x_ b k a_ cs h0 n0 (by omega) P0 P1 P2 P3 P4 P5 hcs hx0 hx1 r0 r1 hl0 hl1) hZ (w_39 hw) (w_6 hw) (by decide) (by decide)) qa5 qc5 (g := (mkF m 3 #[vA a_, vI x_] [(.int 0), (.int x_), (.ref a_)])) rfl (by rw [hml]; rfl) (Steps.refl _) (argsL := [(.int x_), (.int 0)]) (rest := []) (lenOf pd_9 rfl) rfl (Nat.le_of_eq rfl) (hb hby d379) (fun _ _ => ⟨rfl, e0, (by decide : 0 + 0 ≤ _), (by decide : 0 + 0 ≤ _)⟩)
  dsimp only [Pt.U, Pt.locs, Pt.cells, Pt.slots] at X5 l5 y5 z5 st5 hQ5
  rw [l5, y5, z5] at X5
  obtain ⟨x5_r, rfl, Nq5, Kq5, r5_0⟩ := hQ5
  have N5 := Fr.app N0 Nq5
  refine ⟨_, _, _, _, some (.int x5_r), X5, by decide, by decide, nofun, ?_, fun fs hr => castTop (ef_3 m a_ x_) ?_⟩
  · show Q_i1l2 Z c0 c1 x_ b k a_ cs h0 n0 _ T5.heap _
    rw [(Kq5 : T5.heap = h0)]
    exact ⟨x5_r, rfl, N5, rfl, r5_0⟩
  · show Steps _ _ _ (s₁.setTop (mkF m 0 #[vA a_, vI x_] [])) _
    refine XS.aloadN X0.here hx rfl (hb hby d376) rfl rfl ?_
    refine XS.iloadN X0.here hx rfl (hb hby d377) rfl ?_
    refine XS.iconst X0.here hx rfl (hb hby d378) ?_
    refine st5.trans ?_
    show Steps _ _ _ (T5.setTop (mkF m 6 #[vA a_, vI x_] [(.int x5_r)])) _
    exact retI X5 hx hret (hb hby d380) hr
def Q_i2u2 (Z : State) (c0 : Int32) (c1 : Int32) (x_ : Int32) (b : Addr) (k : ClassId) (a_ : Addr) (cs : Int32) (sf : Value) (h0 : Heap) (n0 : Nat) (v : Option Value) (h : Heap) (L : List Loc) : Prop := ∃ (r : Int32), (v = some (.int r)) ∧ (Fr n0 L) ∧ (h = h0) ∧ ((r < (0 : Int32)) ↔ (¬ (c0 = x_) ∧ ¬ (c1 = x_)))
theorem rm_i2u2 (l : Launch) (Z : State) (a0 : Array Value) (hw : HW Z a0) (ws : List Jvm.Cond) (c0 : Int32) (c1 : Int32) (x_ : Int32) (b : Addr) (k : ClassId) (a_ : Addr) (cs : Int32) (sf : Value) (h0 : Heap) (n0 : Nat) (Z0 : n0 ≤ h0.size) (P0 : Old Z n0 h0) (P1 : sta0 Z (.int cs)) (P2 : Exa Z h0 a_ "java/lang/String") (P3 : fld1 Z h0 a_ (.int 1)) (P4 : fld0 Z h0 a_ (.ref b)) (P5 : Arv Z h0 b k .byte (4 : Int32) [(.int (oL c0)), (.int (oH c0)), (.int (oL c1)), (.int (oH c1))] (.int 0)) (P6 : sta1 Z (.int 1)) (P7 : sta2 Z (.int 0)) (P8 : sta3 Z (.int 8)) (P9 : sta4 Z sf) (hcs : ¬ (cs = (0 : Int32))) (hsf : sf.isRef = true) (r0 : ¬ c0 < 0 ∧ ¬ (65535 : Int32) < c0) (r1 : ¬ c1 < 0 ∧ ¬ (65535 : Int32) < c1) (hx2 : x_ < (65536 : Int32)) :
    MF l Z m_28 jdk_42_method_80_code 3 (some .int) ws (oR 5 0 0 73) #[(.ref a_), (.int x_), (.int 0)] h0 (Q_i2u2 Z c0 c1 x_ b k a_ cs sf h0 n0) := by
  refine own_body (cls := "java/lang/String") (plainFor_of_name pn_5) rfl (fun p e s m below meth c s₁ hx hby hml hown hnm hret hZ X0 e0 => ?_)
  have N0 := Fr.nil n0
  have lt1 := own_l P2.lt
  have lt2 := own_l P3.lt
  have lt3 := own_l P4.lt
  have lt4 := own_l P5.lt
  obtain ⟨cq5, kq5, qa5, qb5, qc5⟩ := isOf hZ e0 P2
  obtain ⟨_, _, ⟨T5, L5, k5, n5⟩, -, X5, ⟨Lc5, hQ5, l5, y5, z5⟩, st5⟩ := X0.virtualBack hx (y := m_25) (z := m_25) hown (mvT hZ (w_40 hw)) (mvT hZ (w_41 hw)) (notFace_of_selects (args := #[]) (mvT hZ (w_43 hw))) (mvT hZ (w_43 hw)) (mvT hZ (w_42 hw)) (by decide) (backOf (W := 0) (rm_isl1 l Z a0 hw [] a_ cs h0 n0 (by omega) P0 P1 P3 hcs) hZ (w_44 hw) (w_6 hw) (by decide) (by decide)) qa5 qc5 (g := (mkF m 1 #[vA a_, vI x_, vI 0] [(.ref a_)])) rfl (by rw [hml]; rfl) (Steps.refl _) (argsL := []) (rest := []) (lenOf pd_16 rfl) rfl (Nat.le_of_eq rfl) (hb hby d365) (fun _ _ => ⟨rfl, e0, (by decide : 0 + 0 ≤ _), (by decide : 0 + 0 ≤ _)⟩)
  dsimp only [Pt.U, Pt.locs, Pt.cells, Pt.slots] at X5 l5 y5 z5 st5 hQ5
  rw [l5, y5, z5] at X5
  obtain ⟨rfl, Nq5, Kq5⟩ := hQ5
  have N5 := Fr.app N0 Nq5
  obtain ⟨T6, X6, e6, st6⟩ := getF X5 hx hZ hown (host := "") (Or.inl (w_24 hw)) Via.refl Kq5 P4 (g := (mkF m 24 #[vA a_, vI x_, vI 0] [(.ref a_)])) rfl rfl (hb hby d382)
  obtain ⟨cq7, kq7, qa7, qb7, qc7⟩ := isOf hZ e6 P2
  obtain ⟨_, _, ⟨T7, L7, k7, n7⟩, -, X7, ⟨Lc7, hQ7, l7, y7, z7⟩, st7⟩ := X6.virtualBack hx (y := m_27) (z := m_27) hown (mvT hZ (w_46 hw)) (mvT hZ (w_47 hw)) (notFace_of_selects (args := #[]) (mvT hZ (w_49 hw))) (mvT hZ (w_49 hw)) (mvT hZ (w_48 hw)) (by decide) (backOf (W := 3) (rm_len1_2 l Z a0 hw [] a_ b k ([(.int (oL c0)), (.int (oH c0)), (.int (oL c1)), (.int (oH c1))]) ((.int 0)) cs h0 n0 (by omega) P0 P1 P2 P3 P4 P5 hcs) hZ (w_50 hw) (w_6 hw) (by decide) (by decide)) qa7 qc7 (g := (mkF m 30 #[vA a_, vI x_, vI 0] [(.ref a_), (.int 0), (.int x_), (.ref b)])) rfl (by rw [hml]; rfl) (Steps.refl _) (argsL := []) (rest := [(.int 0), (.int x_), (.ref b)]) (lenOf pd_17 rfl) rfl (Nat.le_of_eq rfl) (hb hby d386) (fun _ _ => ⟨rfl, e6, (by decide : 0 + 0 ≤ _), (by decide : 0 + 0 ≤ _)⟩)
  dsimp only [Pt.U, Pt.locs, Pt.cells, Pt.slots] at X7 l7 y7 z7 st7 hQ7
  rw [l7, y7, z7] at X7
  obtain ⟨rfl, Nq7, Kq7⟩ := hQ7
  have N7 := Fr.app N5 Nq7
  obtain ⟨_, _, ⟨T8, L8, k8, n8⟩, -, X8, ⟨Lc8, hQ8, l8, y8, z8⟩, st8⟩ := Jvm.LawKit.callS X7 hx (y := m_24) hown (mvT hZ (w_105 hw)) (mvT hZ (w_106 hw)) (mvT hZ (w_72 hw)) (mvT hZ (w_107 hw)) (by decide) (backOf (W := 0) (rm_iou2 l Z a0 hw [] c0 c1 x_ b k sf h0 n0 (by omega) P0 P5 P6 P7 P8 P9 r0 r1 hsf hx2) hZ (w_107 hw) (w_72 hw) (by decide) (by decide)) (g := (mkF m 33 #[vA a_, vI x_, vI 0] [(.int 2), (.int 0), (.int x_), (.ref b)])) rfl (by rw [hml]; rfl) (argsL := [(.ref b), (.int x_), (.int 0), (.int 2)]) (rest := []) (lenOf pd_10 rfl) rfl (Nat.le_of_eq rfl) (hb hby d387) (fun _ _ => ⟨rfl, Kq7, (by decide : 0 + 0 ≤ _), (by decide : 0 + 0 ≤ _)⟩)
  dsimp only [Pt.U, Pt.locs, Pt.cells, Pt.slots] at X8 l8 y8 z8 st8 hQ8
  rw [l8, y8, z8] at X8
  obtain ⟨x8_r, rfl, Nq8, Kq8, r8_0⟩ := hQ8
  have N8 := Fr.app N7 Nq8
  refine ⟨_, _, _, _, some (.int x8_r), X8, by decide, by decide, nofun, ?_, fun fs hr => castTop (ef_4 m a_ x_ (0 : Int32)) ?_⟩
  · show Q_i2u2 Z c0 c1 x_ b k a_ cs sf h0 n0 _ T8.heap _
    rw [(Kq8 : T8.heap = h0)]
    exact ⟨x8_r, rfl, N8, rfl, r8_0⟩
  · show Steps _ _ _ (s₁.setTop (mkF m 0 #[vA a_, vI x_, vI 0] [])) _
    refine XS.aloadN X0.here hx rfl (hb hby d364) rfl rfl ?_
    refine st5.trans ?_
    show Steps _ _ _ (T5.setTop (mkF m 4 #[vA a_, vI x_, vI 0] [(.int 0)])) _
    refine XS.ifYes X5.here hx rfl (pc0 := 4) (pc' := 23) rfl (hb hby d366) rfl ((if0 _ _).trans (teq ((by decide) : (0 : Int32) = (0 : Int32))).1) (by decide) (by decide) ?_
    refine XS.aloadN X5.here hx rfl (hb hby d381) rfl rfl ?_
    refine st6 _ ?_
    show Steps _ _ _ (T6.setTop (mkF m 27 #[vA a_, vI x_, vI 0] [(.ref b)])) _
    refine XS.iloadN X6.here hx rfl (hb hby d383) rfl ?_
    refine XS.iloadN X6.here hx rfl (hb hby d384) rfl ?_
    refine XS.aloadN X6.here hx rfl (hb hby d385) rfl rfl ?_
    refine st7.trans ?_
    show Steps _ _ _ (T7.setTop (mkF m 33 #[vA a_, vI x_, vI 0] [(.int 2), (.int 0), (.int x_), (.ref b)])) _
    refine st8 _ ?_
    show Steps _ _ _ (T8.setTop (mkF m 36 #[vA a_, vI x_, vI 0] [(.int x8_r)])) _
    exact retI X8 hx hret (hb hby d375) hr
def Q_i1u2 (Z : State) (c0 : Int32) (c1 : Int32) (x_ : Int32) (b : Addr) (k : ClassId) (a_ : Addr) (cs : Int32) (sf : Value) (h0 : Heap) (n0 : Nat) (v : Option Value) (h : Heap) (L : List Loc) : Prop := ∃ (r : Int32), (v = some (.int r)) ∧ (Fr n0 L) ∧ (h = h0) ∧ ((r < (0 : Int32)) ↔ (¬ (c0 = x_) ∧ ¬ (c1 = x_)))
theorem rm_i1u2 (l : Launch) (Z : State) (a0 : Array Value) (hw : HW Z a0) (ws : List Jvm.Cond) (c0 : Int32) (c1 : Int32) (x_ : Int32) (b : Addr) (k : ClassId) (a_ : Addr) (cs : Int32) (sf : Value) (h0 : Heap) (n0 : Nat) (Z0 : n0 ≤ h0.size) (P0 : Old Z n0 h0) (P1 : sta0 Z (.int cs)) (P2 : Exa Z h0 a_ "java/lang/String") (P3 : fld1 Z h0 a_ (.int 1)) (P4 : fld0 Z h0 a_ (.ref b)) (P5 : Arv Z h0 b k .byte (4 : Int32) [(.int (oL c0)), (.int (oH c0)), (.int (oL c1)), (.int (oH c1))] (.int 0)) (P6 : sta1 Z (.int 1)) (P7 : sta2 Z (.int 0)) (P8 : sta3 Z (.int 8)) (P9 : sta4 Z sf) (hcs : ¬ (cs = (0 : Int32))) (hsf : sf.isRef = true) (r0 : ¬ c0 < 0 ∧ ¬ (65535 : Int32) < c0) (r1 : ¬ c1 < 0 ∧ ¬ (65535 : Int32) < c1) (hx2 : x_ < (65536 : Int32)) :
    MF l Z m_29 jdk_42_method_79_code 2 (some .int) ws (oR 6 0 0 87) #[(.ref a_), (.int x_)] h0 (Q_i1u2 Z c0 c1 x_ b k a_ cs sf h0 n0) := by
  refine own_body (cls := "java/lang/String") (plainFor_of_name pn_5) rfl (fun p e s m below meth c s₁ hx hby hml hown hnm hret hZ X0 e0 => ?_)
  have N0 := Fr.nil n0
  have lt1 := own_l P2.lt
  have lt2 := own_l P3.lt
  have lt3 := own_l P4.lt
  have lt4 := own_l P5.lt
  obtain ⟨cq5, kq5, qa5, qb5, qc5⟩ := isOf hZ e0 P2
  obtain ⟨_, _, ⟨T5, L5, k5, n5⟩, -, X5, ⟨Lc5, hQ5, l5, y5, z5⟩, st5⟩ := X0.virtualBack hx (y := m_28) (z := m_28) hown (mvT hZ (w_35 hw)) (mvT hZ (w_36 hw)) (notFace_of_selects (args := #[]) (mvT hZ (w_38 hw))) (mvT hZ (w_38 hw)) (mvT hZ (w_37 hw)) (by decide) (backOf (W := 0) (rm_i2u2 l Z a0 hw [] c0 c1 x_ b k a_ cs sf h0 n0 (by omega) P0 P1 P2 P3 P4 P5 P6 P7 P8 P9 hcs hsf r0 r1 hx2) hZ (w_39 hw) (w_6 hw) (by decide) (by decide)) qa5 qc5 (g := (mkF m 3 #[vA a_, vI x_] [(.int 0), (.int x_), (.ref a_)])) rfl (by rw [hml]; rfl) (Steps.refl _) (argsL := [(.int x_), (.int 0)]) (rest := []) (lenOf pd_9 rfl) rfl (Nat.le_of_eq rfl) (hb hby d379) (fun _ _ => ⟨rfl, e0, (by decide : 0 + 0 ≤ _), (by decide : 0 + 0 ≤ _)⟩)
  dsimp only [Pt.U, Pt.locs, Pt.cells, Pt.slots] at X5 l5 y5 z5 st5 hQ5
  rw [l5, y5, z5] at X5
  obtain ⟨x5_r, rfl, Nq5, Kq5, r5_0⟩ := hQ5
  have N5 := Fr.app N0 Nq5
  refine ⟨_, _, _, _, some (.int x5_r), X5, by decide, by decide, nofun, ?_, fun fs hr => castTop (ef_3 m a_ x_) ?_⟩
  · show Q_i1u2 Z c0 c1 x_ b k a_ cs sf h0 n0 _ T5.heap _
    rw [(Kq5 : T5.heap = h0)]
    exact ⟨x5_r, rfl, N5, rfl, r5_0⟩
  · show Steps _ _ _ (s₁.setTop (mkF m 0 #[vA a_, vI x_] [])) _
    refine XS.aloadN X0.here hx rfl (hb hby d376) rfl rfl ?_
    refine XS.iloadN X0.here hx rfl (hb hby d377) rfl ?_
    refine XS.iconst X0.here hx rfl (hb hby d378) ?_
    refine st5.trans ?_
    show Steps _ _ _ (T5.setTop (mkF m 6 #[vA a_, vI x_] [(.int x5_r)])) _
    exact retI X5 hx hret (hb hby d380) hr
def Q_i2l3 (Z : State) (c0 : Int32) (c1 : Int32) (c2 : Int32) (x_ : Int32) (b : Addr) (k : ClassId) (a_ : Addr) (cs : Int32) (h0 : Heap) (n0 : Nat) (v : Option Value) (h : Heap) (L : List Loc) : Prop := ∃ (r : Int32), (v = some (.int r)) ∧ (Fr n0 L) ∧ (h = h0) ∧ ((r < (0 : Int32)) ↔ (¬ (c0 = x_) ∧ ¬ (c1 = x_) ∧ ¬ (c2 = x_)))
theorem rm_i2l3 (l : Launch) (Z : State) (a0 : Array Value) (hw : HW Z a0) (ws : List Jvm.Cond) (c0 : Int32) (c1 : Int32) (c2 : Int32) (x_ : Int32) (b : Addr) (k : ClassId) (a_ : Addr) (cs : Int32) (h0 : Heap) (n0 : Nat) (Z0 : n0 ≤ h0.size) (P0 : Old Z n0 h0) (P1 : sta0 Z (.int cs)) (P2 : Exa Z h0 a_ "java/lang/String") (P3 : fld1 Z h0 a_ (.int 0)) (P4 : fld0 Z h0 a_ (.ref b)) (P5 : Arv Z h0 b k .byte (3 : Int32) [(.int (oB c0)), (.int (oB c1)), (.int (oB c2))] (.int 0)) (hcs : ¬ (cs = (0 : Int32))) (hx0 : ¬ (x_ < (0 : Int32))) (hx1 : ¬ ((255 : Int32) < x_)) (r0 : ¬ c0 < 0 ∧ ¬ (65535 : Int32) < c0) (r1 : ¬ c1 < 0 ∧ ¬ (65535 : Int32) < c1) (r2 : ¬ c2 < 0 ∧ ¬ (65535 : Int32) < c2) (hl0 : ¬ ((255 : Int32) < c0)) (hl1 : ¬ ((255 : Int32) < c1)) (hl2 : ¬ ((255 : Int32) < c2)) :
    MF l Z m_28 jdk_42_method_80_code 3 (some .int) ws (oR 2 0 0 32) #[(.ref a_), (.int x_), (.int 0)] h0 (Q_i2l3 Z c0 c1 c2 x_ b k a_ cs h0 n0) := by
  refine own_body (cls := "java/lang/String") (plainFor_of_name pn_5) rfl (fun p e s m below meth c s₁ hx hby hml hown hnm hret hZ X0 e0 => ?_)
  have N0 := Fr.nil n0
  have lt1 := own_l P2.lt
  have lt2 := own_l P3.lt
  have lt3 := own_l P4.lt
  have lt4 := own_l P5.lt
  obtain ⟨cq5, kq5, qa5, qb5, qc5⟩ := isOf hZ e0 P2
  obtain ⟨_, _, ⟨T5, L5, k5, n5⟩, -, X5, ⟨Lc5, hQ5, l5, y5, z5⟩, st5⟩ := X0.virtualBack hx (y := m_25) (z := m_25) hown (mvT hZ (w_40 hw)) (mvT hZ (w_41 hw)) (notFace_of_selects (args := #[]) (mvT hZ (w_43 hw))) (mvT hZ (w_43 hw)) (mvT hZ (w_42 hw)) (by decide) (backOf (W := 0) (rm_isl0 l Z a0 hw [] a_ cs h0 n0 (by omega) P0 P1 P3 hcs) hZ (w_44 hw) (w_6 hw) (by decide) (by decide)) qa5 qc5 (g := (mkF m 1 #[vA a_, vI x_, vI 0] [(.ref a_)])) rfl (by rw [hml]; rfl) (Steps.refl _) (argsL := []) (rest := []) (lenOf pd_16 rfl) rfl (Nat.le_of_eq rfl) (hb hby d365) (fun _ _ => ⟨rfl, e0, (by decide : 0 + 0 ≤ _), (by decide : 0 + 0 ≤ _)⟩)
  dsimp only [Pt.U, Pt.locs, Pt.cells, Pt.slots] at X5 l5 y5 z5 st5 hQ5
  rw [l5, y5, z5] at X5
  obtain ⟨rfl, Nq5, Kq5⟩ := hQ5
  have N5 := Fr.app N0 Nq5
  obtain ⟨T6, X6, e6, st6⟩ := getF X5 hx hZ hown (host := "") (Or.inl (w_24 hw)) Via.refl Kq5 P4 (g := (mkF m 8 #[vA a_, vI x_, vI 0] [(.ref a_)])) rfl rfl (hb hby d368)
  obtain ⟨cq7, kq7, qa7, qb7, qc7⟩ := isOf hZ e6 P2
  obtain ⟨_, _, ⟨T7, L7, k7, n7⟩, -, X7, ⟨Lc7, hQ7, l7, y7, z7⟩, st7⟩ := X6.virtualBack hx (y := m_27) (z := m_27) hown (mvT hZ (w_46 hw)) (mvT hZ (w_47 hw)) (notFace_of_selects (args := #[]) (mvT hZ (w_49 hw))) (mvT hZ (w_49 hw)) (mvT hZ (w_48 hw)) (by decide) (backOf (W := 3) (rm_len0_3 l Z a0 hw [] a_ b k ([(.int (oB c0)), (.int (oB c1)), (.int (oB c2))]) ((.int 0)) cs h0 n0 (by omega) P0 P1 P2 P3 P4 P5 hcs) hZ (w_50 hw) (w_6 hw) (by decide) (by decide)) qa7 qc7 (g := (mkF m 14 #[vA a_, vI x_, vI 0] [(.ref a_), (.int 0), (.int x_), (.ref b)])) rfl (by rw [hml]; rfl) (Steps.refl _) (argsL := []) (rest := [(.int 0), (.int x_), (.ref b)]) (lenOf pd_17 rfl) rfl (Nat.le_of_eq rfl) (hb hby d372) (fun _ _ => ⟨rfl, e6, (by decide : 0 + 0 ≤ _), (by decide : 0 + 0 ≤ _)⟩)
  dsimp only [Pt.U, Pt.locs, Pt.cells, Pt.slots] at X7 l7 y7 z7 st7 hQ7
  rw [l7, y7, z7] at X7
  obtain ⟨rfl, Nq7, Kq7⟩ := hQ7
  have N7 := Fr.app N5 Nq7
  obtain ⟨_, _, ⟨T8, L8, k8, n8⟩, -, X8, ⟨Lc8, hQ8, l8, y8, z8⟩, st8⟩ := Jvm.LawKit.callS X7 hx (y := m_17) hown (mvT hZ (w_56 hw)) (mvT hZ (w_57 hw)) (mvT hZ (w_58 hw)) (mvT hZ (w_59 hw)) (by decide) (backOf (W := 0) (rm_iol3 l Z a0 hw [] c0 c1 c2 x_ b k h0 n0 (by omega) P5 hx0 hx1 r0 r1 r2 hl0 hl1 hl2) hZ (w_59 hw) (w_58 hw) (by decide) (by decide)) (g := (mkF m 17 #[vA a_, vI x_, vI 0] [(.int 3), (.int 0), (.int x_), (.ref b)])) rfl (by rw [hml]; rfl) (argsL := [(.ref b), (.int x_), (.int 0), (.int 3)]) (rest := []) (lenOf pd_10 rfl) rfl (Nat.le_of_eq rfl) (hb hby d373) (fun _ _ => ⟨rfl, Kq7, (by decide : 0 + 0 ≤ _), (by decide : 0 + 0 ≤ _)⟩)
  dsimp only [Pt.U, Pt.locs, Pt.cells, Pt.slots] at X8 l8 y8 z8 st8 hQ8
  rw [l8, y8, z8] at X8
  obtain ⟨x8_r, rfl, Nq8, Kq8, r8_0⟩ := hQ8
  have N8 := Fr.app N7 Nq8
  refine ⟨_, _, _, _, some (.int x8_r), X8, by decide, by decide, nofun, ?_, fun fs hr => castTop (ef_4 m a_ x_ (0 : Int32)) ?_⟩
  · show Q_i2l3 Z c0 c1 c2 x_ b k a_ cs h0 n0 _ T8.heap _
    rw [(Kq8 : T8.heap = h0)]
    exact ⟨x8_r, rfl, N8, rfl, r8_0⟩
  · show Steps _ _ _ (s₁.setTop (mkF m 0 #[vA a_, vI x_, vI 0] [])) _
    refine XS.aloadN X0.here hx rfl (hb hby d364) rfl rfl ?_
    refine st5.trans ?_
    show Steps _ _ _ (T5.setTop (mkF m 4 #[vA a_, vI x_, vI 0] [(.int 1)])) _
    refine XS.ifNo X5.here hx rfl (hb hby d366) rfl ((if0 _ _).trans (feq ((by decide) : ¬ ((1 : Int32) = (0 : Int32)))).1) ?_
    refine XS.aloadN X5.here hx rfl (hb hby d367) rfl rfl ?_
    refine st6 _ ?_
    show Steps _ _ _ (T6.setTop (mkF m 11 #[vA a_, vI x_, vI 0] [(.ref b)])) _
    refine XS.iloadN X6.here hx rfl (hb hby d369) rfl ?_
    refine XS.iloadN X6.here hx rfl (hb hby d370) rfl ?_
    refine XS.aloadN X6.here hx rfl (hb hby d371) rfl rfl ?_
    refine st7.trans ?_
    show Steps _ _ _ (T7.setTop (mkF m 17 #[vA a_, vI x_, vI 0] [(.int 3), (.int 0), (.int x_), (.ref b)])) _
    refine st8 _ ?_
    show Steps _ _ _ (T8.setTop (mkF m 20 #[vA a_, vI x_, vI 0] [(.int x8_r)])) _
    refine XS.goto X8.here hx rfl (pc0 := 20) (pc' := 36) rfl (hb hby d374) (by decide) (by decide) ?_
    exact retI X8 hx hret (hb hby d375) hr
def Q_i1l3 (Z : State) (c0 : Int32) (c1 : Int32) (c2 : Int32) (x_ : Int32) (b : Addr) (k : ClassId) (a_ : Addr) (cs : Int32) (h0 : Heap) (n0 : Nat) (v : Option Value) (h : Heap) (L : List Loc) : Prop := ∃ (r : Int32), (v = some (.int r)) ∧ (Fr n0 L) ∧ (h = h0) ∧ ((r < (0 : Int32)) ↔ (¬ (c0 = x_) ∧ ¬ (c1 = x_) ∧ ¬ (c2 = x_)))
theorem rm_i1l3 (l : Launch) (Z : State) (a0 : Array Value) (hw : HW Z a0) (ws : List Jvm.Cond) (c0 : Int32) (c1 : Int32) (c2 : Int32) (x_ : Int32) (b : Addr) (k : ClassId) (a_ : Addr) (cs : Int32) (h0 : Heap) (n0 : Nat) (Z0 : n0 ≤ h0.size) (P0 : Old Z n0 h0) (P1 : sta0 Z (.int cs)) (P2 : Exa Z h0 a_ "java/lang/String") (P3 : fld1 Z h0 a_ (.int 0)) (P4 : fld0 Z h0 a_ (.ref b)) (P5 : Arv Z h0 b k .byte (3 : Int32) [(.int (oB c0)), (.int (oB c1)), (.int (oB c2))] (.int 0)) (hcs : ¬ (cs = (0 : Int32))) (hx0 : ¬ (x_ < (0 : Int32))) (hx1 : ¬ ((255 : Int32) < x_)) (r0 : ¬ c0 < 0 ∧ ¬ (65535 : Int32) < c0) (r1 : ¬ c1 < 0 ∧ ¬ (65535 : Int32) < c1) (r2 : ¬ c2 < 0 ∧ ¬ (65535 : Int32) < c2) (hl0 : ¬ ((255 : Int32) < c0)) (hl1 : ¬ ((255 : Int32) < c1)) (hl2 : ¬ ((255 : Int32) < c2)) :
    MF l Z m_29 jdk_42_method_79_code 2 (some .int) ws (oR 3 0 0 46) #[(.ref a_), (.int x_)] h0 (Q_i1l3 Z c0 c1 c2 x_ b k a_ cs h0 n0) := by
  refine own_body (cls := "java/lang/String") (plainFor_of_name pn_5) rfl (fun p e s m below meth c s₁ hx hby hml hown hnm hret hZ X0 e0 => ?_)
  have N0 := Fr.nil n0
  have lt1 := own_l P2.lt
  have lt2 := own_l P3.lt
  have lt3 := own_l P4.lt
  have lt4 := own_l P5.lt
  obtain ⟨cq5, kq5, qa5, qb5, qc5⟩ := isOf hZ e0 P2
  obtain ⟨_, _, ⟨T5, L5, k5, n5⟩, -, X5, ⟨Lc5, hQ5, l5, y5, z5⟩, st5⟩ := X0.virtualBack hx (y := m_28) (z := m_28) hown (mvT hZ (w_35 hw)) (mvT hZ (w_36 hw)) (notFace_of_selects (args := #[]) (mvT hZ (w_38 hw))) (mvT hZ (w_38 hw)) (mvT hZ (w_37 hw)) (by decide) (backOf (W := 0) (rm_i2l3 l Z a0 hw [] c0 c1 c2 x_ b k a_ cs h0 n0 (by omega) P0 P1 P2 P3 P4 P5 hcs hx0 hx1 r0 r1 r2 hl0 hl1 hl2) hZ (w_39 hw) (w_6 hw) (by decide) (by decide)) qa5 qc5 (g := (mkF m 3 #[vA a_, vI x_] [(.int 0), (.int x_), (.ref a_)])) rfl (by rw [hml]; rfl) (Steps.refl _) (argsL := [(.int x_), (.int 0)]) (rest := []) (lenOf pd_9 rfl) rfl (Nat.le_of_eq rfl) (hb hby d379) (fun _ _ => ⟨rfl, e0, (by decide : 0 + 0 ≤ _), (by decide : 0 + 0 ≤ _)⟩)
  dsimp only [Pt.U, Pt.locs, Pt.cells, Pt.slots] at X5 l5 y5 z5 st5 hQ5
  rw [l5, y5, z5] at X5
  obtain ⟨x5_r, rfl, Nq5, Kq5, r5_0⟩ := hQ5
  have N5 := Fr.app N0 Nq5
  refine ⟨_, _, _, _, some (.int x5_r), X5, by decide, by decide, nofun, ?_, fun fs hr => castTop (ef_3 m a_ x_) ?_⟩
  · show Q_i1l3 Z c0 c1 c2 x_ b k a_ cs h0 n0 _ T5.heap _
    rw [(Kq5 : T5.heap = h0)]
    exact ⟨x5_r, rfl, N5, rfl, r5_0⟩
  · show Steps _ _ _ (s₁.setTop (mkF m 0 #[vA a_, vI x_] [])) _
    refine XS.aloadN X0.here hx rfl (hb hby d376) rfl rfl ?_
    refine XS.iloadN X0.here hx rfl (hb hby d377) rfl ?_
    refine XS.iconst X0.here hx rfl (hb hby d378) ?_
    refine st5.trans ?_
    show Steps _ _ _ (T5.setTop (mkF m 6 #[vA a_, vI x_] [(.int x5_r)])) _
    exact retI X5 hx hret (hb hby d380) hr
def Q_i2u3 (Z : State) (c0 : Int32) (c1 : Int32) (c2 : Int32) (x_ : Int32) (b : Addr) (k : ClassId) (a_ : Addr) (cs : Int32) (sf : Value) (h0 : Heap) (n0 : Nat) (v : Option Value) (h : Heap) (L : List Loc) : Prop := ∃ (r : Int32), (v = some (.int r)) ∧ (Fr n0 L) ∧ (h = h0) ∧ ((r < (0 : Int32)) ↔ (¬ (c0 = x_) ∧ ¬ (c1 = x_) ∧ ¬ (c2 = x_)))
theorem rm_i2u3 (l : Launch) (Z : State) (a0 : Array Value) (hw : HW Z a0) (ws : List Jvm.Cond) (c0 : Int32) (c1 : Int32) (c2 : Int32) (x_ : Int32) (b : Addr) (k : ClassId) (a_ : Addr) (cs : Int32) (sf : Value) (h0 : Heap) (n0 : Nat) (Z0 : n0 ≤ h0.size) (P0 : Old Z n0 h0) (P1 : sta0 Z (.int cs)) (P2 : Exa Z h0 a_ "java/lang/String") (P3 : fld1 Z h0 a_ (.int 1)) (P4 : fld0 Z h0 a_ (.ref b)) (P5 : Arv Z h0 b k .byte (6 : Int32) [(.int (oL c0)), (.int (oH c0)), (.int (oL c1)), (.int (oH c1)), (.int (oL c2)), (.int (oH c2))] (.int 0)) (P6 : sta1 Z (.int 1)) (P7 : sta2 Z (.int 0)) (P8 : sta3 Z (.int 8)) (P9 : sta4 Z sf) (hcs : ¬ (cs = (0 : Int32))) (hsf : sf.isRef = true) (r0 : ¬ c0 < 0 ∧ ¬ (65535 : Int32) < c0) (r1 : ¬ c1 < 0 ∧ ¬ (65535 : Int32) < c1) (r2 : ¬ c2 < 0 ∧ ¬ (65535 : Int32) < c2) (hx2 : x_ < (65536 : Int32)) :
    MF l Z m_28 jdk_42_method_80_code 3 (some .int) ws (oR 5 0 0 73) #[(.ref a_), (.int x_), (.int 0)] h0 (Q_i2u3 Z c0 c1 c2 x_ b k a_ cs sf h0 n0) := by
  refine own_body (cls := "java/lang/String") (plainFor_of_name pn_5) rfl (fun p e s m below meth c s₁ hx hby hml hown hnm hret hZ X0 e0 => ?_)
  have N0 := Fr.nil n0
  have lt1 := own_l P2.lt
  have lt2 := own_l P3.lt
  have lt3 := own_l P4.lt
  have lt4 := own_l P5.lt
  obtain ⟨cq5, kq5, qa5, qb5, qc5⟩ := isOf hZ e0 P2
  obtain ⟨_, _, ⟨T5, L5, k5, n5⟩, -, X5, ⟨Lc5, hQ5, l5, y5, z5⟩, st5⟩ := X0.virtualBack hx (y := m_25) (z := m_25) hown (mvT hZ (w_40 hw)) (mvT hZ (w_41 hw)) (notFace_of_selects (args := #[]) (mvT hZ (w_43 hw))) (mvT hZ (w_43 hw)) (mvT hZ (w_42 hw)) (by decide) (backOf (W := 0) (rm_isl1 l Z a0 hw [] a_ cs h0 n0 (by omega) P0 P1 P3 hcs) hZ (w_44 hw) (w_6 hw) (by decide) (by decide)) qa5 qc5 (g := (mkF m 1 #[vA a_, vI x_, vI 0] [(.ref a_)])) rfl (by rw [hml]; rfl) (Steps.refl _) (argsL := []) (rest := []) (lenOf pd_16 rfl) rfl (Nat.le_of_eq rfl) (hb hby d365) (fun _ _ => ⟨rfl, e0, (by decide : 0 + 0 ≤ _), (by decide : 0 + 0 ≤ _)⟩)
  dsimp only [Pt.U, Pt.locs, Pt.cells, Pt.slots] at X5 l5 y5 z5 st5 hQ5
  rw [l5, y5, z5] at X5
  obtain ⟨rfl, Nq5, Kq5⟩ := hQ5
  have N5 := Fr.app N0 Nq5
  obtain ⟨T6, X6, e6, st6⟩ := getF X5 hx hZ hown (host := "") (Or.inl (w_24 hw)) Via.refl Kq5 P4 (g := (mkF m 24 #[vA a_, vI x_, vI 0] [(.ref a_)])) rfl rfl (hb hby d382)
  obtain ⟨cq7, kq7, qa7, qb7, qc7⟩ := isOf hZ e6 P2
  obtain ⟨_, _, ⟨T7, L7, k7, n7⟩, -, X7, ⟨Lc7, hQ7, l7, y7, z7⟩, st7⟩ := X6.virtualBack hx (y := m_27) (z := m_27) hown (mvT hZ (w_46 hw)) (mvT hZ (w_47 hw)) (notFace_of_selects (args := #[]) (mvT hZ (w_49 hw))) (mvT hZ (w_49 hw)) (mvT hZ (w_48 hw)) (by decide) (backOf (W := 3) (rm_len1_3 l Z a0 hw [] a_ b k ([(.int (oL c0)), (.int (oH c0)), (.int (oL c1)), (.int (oH c1)), (.int (oL c2)), (.int (oH c2))]) ((.int 0)) cs h0 n0 (by omega) P0 P1 P2 P3 P4 P5 hcs) hZ (w_50 hw) (w_6 hw) (by decide) (by decide)) qa7 qc7 (g := (mkF m 30 #[vA a_, vI x_, vI 0] [(.ref a_), (.int 0), (.int x_), (.ref b)])) rfl (by rw [hml]; rfl) (Steps.refl _) (argsL := []) (rest := [(.int 0), (.int x_), (.ref b)]) (lenOf pd_17 rfl) rfl (Nat.le_of_eq rfl) (hb hby d386) (fun _ _ => ⟨rfl, e6, (by decide : 0 + 0 ≤ _), (by decide : 0 + 0 ≤ _)⟩)
  dsimp only [Pt.U, Pt.locs, Pt.cells, Pt.slots] at X7 l7 y7 z7 st7 hQ7
  rw [l7, y7, z7] at X7
  obtain ⟨rfl, Nq7, Kq7⟩ := hQ7
  have N7 := Fr.app N5 Nq7
  obtain ⟨_, _, ⟨T8, L8, k8, n8⟩, -, X8, ⟨Lc8, hQ8, l8, y8, z8⟩, st8⟩ := Jvm.LawKit.callS X7 hx (y := m_24) hown (mvT hZ (w_105 hw)) (mvT hZ (w_106 hw)) (mvT hZ (w_72 hw)) (mvT hZ (w_107 hw)) (by decide) (backOf (W := 0) (rm_iou3 l Z a0 hw [] c0 c1 c2 x_ b k sf h0 n0 (by omega) P0 P5 P6 P7 P8 P9 r0 r1 r2 hsf hx2) hZ (w_107 hw) (w_72 hw) (by decide) (by decide)) (g := (mkF m 33 #[vA a_, vI x_, vI 0] [(.int 3), (.int 0), (.int x_), (.ref b)])) rfl (by rw [hml]; rfl) (argsL := [(.ref b), (.int x_), (.int 0), (.int 3)]) (rest := []) (lenOf pd_10 rfl) rfl (Nat.le_of_eq rfl) (hb hby d387) (fun _ _ => ⟨rfl, Kq7, (by decide : 0 + 0 ≤ _), (by decide : 0 + 0 ≤ _)⟩)
  dsimp only [Pt.U, Pt.locs, Pt.cells, Pt.slots] at X8 l8 y8 z8 st8 hQ8
  rw [l8, y8, z8] at X8
  obtain ⟨x8_r, rfl, Nq8, Kq8, r8_0⟩ := hQ8
  have N8 := Fr.app N7 Nq8
  refine ⟨_, _, _, _, some (.int x8_r), X8, by decide, by decide, nofun, ?_, fun fs hr => castTop (ef_4 m a_ x_ (0 : Int32)) ?_⟩
  · show Q_i2u3 Z c0 c1 c2 x_ b k a_ cs sf h0 n0 _ T8.heap _
    rw [(Kq8 : T8.heap = h0)]
    exact ⟨x8_r, rfl, N8, rfl, r8_0⟩
  · show Steps _ _ _ (s₁.setTop (mkF m 0 #[vA a_, vI x_, vI 0] [])) _
    refine XS.aloadN X0.here hx rfl (hb hby d364) rfl rfl ?_
    refine st5.trans ?_
    show Steps _ _ _ (T5.setTop (mkF m 4 #[vA a_, vI x_, vI 0] [(.int 0)])) _
    refine XS.ifYes X5.here hx rfl (pc0 := 4) (pc' := 23) rfl (hb hby d366) rfl ((if0 _ _).trans (teq ((by decide) : (0 : Int32) = (0 : Int32))).1) (by decide) (by decide) ?_
    refine XS.aloadN X5.here hx rfl (hb hby d381) rfl rfl ?_
    refine st6 _ ?_
    show Steps _ _ _ (T6.setTop (mkF m 27 #[vA a_, vI x_, vI 0] [(.ref b)])) _
    refine XS.iloadN X6.here hx rfl (hb hby d383) rfl ?_
    refine XS.iloadN X6.here hx rfl (hb hby d384) rfl ?_
    refine XS.aloadN X6.here hx rfl (hb hby d385) rfl rfl ?_
    refine st7.trans ?_
    show Steps _ _ _ (T7.setTop (mkF m 33 #[vA a_, vI x_, vI 0] [(.int 3), (.int 0), (.int x_), (.ref b)])) _
    refine st8 _ ?_
    show Steps _ _ _ (T8.setTop (mkF m 36 #[vA a_, vI x_, vI 0] [(.int x8_r)])) _
    exact retI X8 hx hret (hb hby d375) hr
def Q_i1u3 (Z : State) (c0 : Int32) (c1 : Int32) (c2 : Int32) (x_ : Int32) (b : Addr) (k : ClassId) (a_ : Addr) (cs : Int32) (sf : Value) (h0 : Heap) (n0 : Nat) (v : Option Value) (h : Heap) (L : List Loc) : Prop := ∃ (r : Int32), (v = some (.int r)) ∧ (Fr n0 L) ∧ (h = h0) ∧ ((r < (0 : Int32)) ↔ (¬ (c0 = x_) ∧ ¬ (c1 = x_) ∧ ¬ (c2 = x_)))
theorem rm_i1u3 (l : Launch) (Z : State) (a0 : Array Value) (hw : HW Z a0) (ws : List Jvm.Cond) (c0 : Int32) (c1 : Int32) (c2 : Int32) (x_ : Int32) (b : Addr) (k : ClassId) (a_ : Addr) (cs : Int32) (sf : Value) (h0 : Heap) (n0 : Nat) (Z0 : n0 ≤ h0.size) (P0 : Old Z n0 h0) (P1 : sta0 Z (.int cs)) (P2 : Exa Z h0 a_ "java/lang/String") (P3 : fld1 Z h0 a_ (.int 1)) (P4 : fld0 Z h0 a_ (.ref b)) (P5 : Arv Z h0 b k .byte (6 : Int32) [(.int (oL c0)), (.int (oH c0)), (.int (oL c1)), (.int (oH c1)), (.int (oL c2)), (.int (oH c2))] (.int 0)) (P6 : sta1 Z (.int 1)) (P7 : sta2 Z (.int 0)) (P8 : sta3 Z (.int 8)) (P9 : sta4 Z sf) (hcs : ¬ (cs = (0 : Int32))) (hsf : sf.isRef = true) (r0 : ¬ c0 < 0 ∧ ¬ (65535 : Int32) < c0) (r1 : ¬ c1 < 0 ∧ ¬ (65535 : Int32) < c1) (r2 : ¬ c2 < 0 ∧ ¬ (65535 : Int32) < c2) (hx2 : x_ < (65536 : Int32)) :
    MF l Z m_29 jdk_42_method_79_code 2 (some .int) ws (oR 6 0 0 87) #[(.ref a_), (.int x_)] h0 (Q_i1u3 Z c0 c1 c2 x_ b k a_ cs sf h0 n0) := by
  refine own_body (cls := "java/lang/String") (plainFor_of_name pn_5) rfl (fun p e s m below meth c s₁ hx hby hml hown hnm hret hZ X0 e0 => ?_)
  have N0 := Fr.nil n0
  have lt1 := own_l P2.lt
  have lt2 := own_l P3.lt
  have lt3 := own_l P4.lt
  have lt4 := own_l P5.lt
  obtain ⟨cq5, kq5, qa5, qb5, qc5⟩ := isOf hZ e0 P2
  obtain ⟨_, _, ⟨T5, L5, k5, n5⟩, -, X5, ⟨Lc5, hQ5, l5, y5, z5⟩, st5⟩ := X0.virtualBack hx (y := m_28) (z := m_28) hown (mvT hZ (w_35 hw)) (mvT hZ (w_36 hw)) (notFace_of_selects (args := #[]) (mvT hZ (w_38 hw))) (mvT hZ (w_38 hw)) (mvT hZ (w_37 hw)) (by decide) (backOf (W := 0) (rm_i2u3 l Z a0 hw [] c0 c1 c2 x_ b k a_ cs sf h0 n0 (by omega) P0 P1 P2 P3 P4 P5 P6 P7 P8 P9 hcs hsf r0 r1 r2 hx2) hZ (w_39 hw) (w_6 hw) (by decide) (by decide)) qa5 qc5 (g := (mkF m 3 #[vA a_, vI x_] [(.int 0), (.int x_), (.ref a_)])) rfl (by rw [hml]; rfl) (Steps.refl _) (argsL := [(.int x_), (.int 0)]) (rest := []) (lenOf pd_9 rfl) rfl (Nat.le_of_eq rfl) (hb hby d379) (fun _ _ => ⟨rfl, e0, (by decide : 0 + 0 ≤ _), (by decide : 0 + 0 ≤ _)⟩)
  dsimp only [Pt.U, Pt.locs, Pt.cells, Pt.slots] at X5 l5 y5 z5 st5 hQ5
  rw [l5, y5, z5] at X5
  obtain ⟨x5_r, rfl, Nq5, Kq5, r5_0⟩ := hQ5
  have N5 := Fr.app N0 Nq5
  refine ⟨_, _, _, _, some (.int x5_r), X5, by decide, by decide, nofun, ?_, fun fs hr => castTop (ef_3 m a_ x_) ?_⟩
  · show Q_i1u3 Z c0 c1 c2 x_ b k a_ cs sf h0 n0 _ T5.heap _
    rw [(Kq5 : T5.heap = h0)]
    exact ⟨x5_r, rfl, N5, rfl, r5_0⟩
  · show Steps _ _ _ (s₁.setTop (mkF m 0 #[vA a_, vI x_] [])) _
    refine XS.aloadN X0.here hx rfl (hb hby d376) rfl rfl ?_
    refine XS.iloadN X0.here hx rfl (hb hby d377) rfl ?_
    refine XS.iconst X0.here hx rfl (hb hby d378) ?_
    refine st5.trans ?_
    show Steps _ _ _ (T5.setTop (mkF m 6 #[vA a_, vI x_] [(.int x5_r)])) _
    exact retI X5 hx hret (hb hby d380) hr
def Q_i20 (Z : State) (x_ : Int32) (a_ : Addr) (b : Addr) (k : ClassId) (vs : List Value) (dv : Value) (cs : Int32) (h0 : Heap) (n0 : Nat) (v : Option Value) (h : Heap) (L : List Loc) : Prop := (v = some (.int (-1))) ∧ (Fr n0 L) ∧ (h = h0)
theorem rm_i20 (l : Launch) (Z : State) (a0 : Array Value) (hw : HW Z a0) (ws : List Jvm.Cond) (x_ : Int32) (a_ : Addr) (b : Addr) (k : ClassId) (vs : List Value) (dv : Value) (cs : Int32) (h0 : Heap) (n0 : Nat) (Z0 : n0 ≤ h0.size) (P0 : Old Z n0 h0) (P1 : sta0 Z (.int cs)) (P2 : Exa Z h0 a_ "java/lang/String") (P3 : fld1 Z h0 a_ (.int 0)) (P4 : fld0 Z h0 a_ (.ref b)) (P5 : Arv Z h0 b k .byte (0 : Int32) vs dv) (hcs : ¬ (cs = (0 : Int32))) (hx0 : ¬ (x_ < (0 : Int32))) (hx1 : ¬ ((255 : Int32) < x_)) :
    MF l Z m_28 jdk_42_method_80_code 3 (some .int) ws (oR 2 0 0 28) #[(.ref a_), (.int x_), (.int 0)] h0 (Q_i20 Z x_ a_ b k vs dv cs h0 n0) := by
  refine own_body (cls := "java/lang/String") (plainFor_of_name pn_5) rfl (fun p e s m below meth c s₁ hx hby hml hown hnm hret hZ X0 e0 => ?_)
  have N0 := Fr.nil n0
  have lt1 := own_l P2.lt
  have lt2 := own_l P3.lt
  have lt3 := own_l P4.lt
  have lt4 := own_l P5.lt
  obtain ⟨cq5, kq5, qa5, qb5, qc5⟩ := isOf hZ e0 P2
  obtain ⟨_, _, ⟨T5, L5, k5, n5⟩, -, X5, ⟨Lc5, hQ5, l5, y5, z5⟩, st5⟩ := X0.virtualBack hx (y := m_25) (z := m_25) hown (mvT hZ (w_40 hw)) (mvT hZ (w_41 hw)) (notFace_of_selects (args := #[]) (mvT hZ (w_43 hw))) (mvT hZ (w_43 hw)) (mvT hZ (w_42 hw)) (by decide) (backOf (W := 0) (rm_isl0 l Z a0 hw [] a_ cs h0 n0 (by omega) P0 P1 P3 hcs) hZ (w_44 hw) (w_6 hw) (by decide) (by decide)) qa5 qc5 (g := (mkF m 1 #[vA a_, vI x_, vI 0] [(.ref a_)])) rfl (by rw [hml]; rfl) (Steps.refl _) (argsL := []) (rest := []) (lenOf pd_16 rfl) rfl (Nat.le_of_eq rfl) (hb hby d365) (fun _ _ => ⟨rfl, e0, (by decide : 0 + 0 ≤ _), (by decide : 0 + 0 ≤ _)⟩)
  dsimp only [Pt.U, Pt.locs, Pt.cells, Pt.slots] at X5 l5 y5 z5 st5 hQ5
  rw [l5, y5, z5] at X5
  obtain ⟨rfl, Nq5, Kq5⟩ := hQ5
  have N5 := Fr.app N0 Nq5
  obtain ⟨T6, X6, e6, st6⟩ := getF X5 hx hZ hown (host := "") (Or.inl (w_24 hw)) Via.refl Kq5 P4 (g := (mkF m 8 #[vA a_, vI x_, vI 0] [(.ref a_)])) rfl rfl (hb hby d368)
  obtain ⟨cq7, kq7, qa7, qb7, qc7⟩ := isOf hZ e6 P2
  obtain ⟨_, _, ⟨T7, L7, k7, n7⟩, -, X7, ⟨Lc7, hQ7, l7, y7, z7⟩, st7⟩ := X6.virtualBack hx (y := m_27) (z := m_27) hown (mvT hZ (w_46 hw)) (mvT hZ (w_47 hw)) (notFace_of_selects (args := #[]) (mvT hZ (w_49 hw))) (mvT hZ (w_49 hw)) (mvT hZ (w_48 hw)) (by decide) (backOf (W := 3) (rm_len0_0 l Z a0 hw [] a_ b k vs dv cs h0 n0 (by omega) P0 P1 P2 P3 P4 P5 hcs) hZ (w_50 hw) (w_6 hw) (by decide) (by decide)) qa7 qc7 (g := (mkF m 14 #[vA a_, vI x_, vI 0] [(.ref a_), (.int 0), (.int x_), (.ref b)])) rfl (by rw [hml]; rfl) (Steps.refl _) (argsL := []) (rest := [(.int 0), (.int x_), (.ref b)]) (lenOf pd_17 rfl) rfl (Nat.le_of_eq rfl) (hb hby d372) (fun _ _ => ⟨rfl, e6, (by decide : 0 + 0 ≤ _), (by decide : 0 + 0 ≤ _)⟩)
  dsimp only [Pt.U, Pt.locs, Pt.cells, Pt.slots] at X7 l7 y7 z7 st7 hQ7
  rw [l7, y7, z7] at X7
  obtain ⟨rfl, Nq7, Kq7⟩ := hQ7
  have N7 := Fr.app N5 Nq7
  obtain ⟨_, _, ⟨T8, L8, k8, n8⟩, -, X8, ⟨Lc8, hQ8, l8, y8, z8⟩, st8⟩ := Jvm.LawKit.callS X7 hx (y := m_17) hown (mvT hZ (w_56 hw)) (mvT hZ (w_57 hw)) (mvT hZ (w_58 hw)) (mvT hZ (w_59 hw)) (by decide) (backOf (W := 0) (rm_iol0 l Z a0 hw [] x_ b k vs dv h0 n0 (by omega) P5 hx0 hx1) hZ (w_59 hw) (w_58 hw) (by decide) (by decide)) (g := (mkF m 17 #[vA a_, vI x_, vI 0] [(.int 0), (.int 0), (.int x_), (.ref b)])) rfl (by rw [hml]; rfl) (argsL := [(.ref b), (.int x_), (.int 0), (.int 0)]) (rest := []) (lenOf pd_10 rfl) rfl (Nat.le_of_eq rfl) (hb hby d373) (fun _ _ => ⟨rfl, Kq7, (by decide : 0 + 0 ≤ _), (by decide : 0 + 0 ≤ _)⟩)
  dsimp only [Pt.U, Pt.locs, Pt.cells, Pt.slots] at X8 l8 y8 z8 st8 hQ8
  rw [l8, y8, z8] at X8
  obtain ⟨rfl, Nq8, Kq8⟩ := hQ8
  have N8 := Fr.app N7 Nq8
  refine ⟨_, _, _, _, some (.int (-1)), X8, by decide, by decide, nofun, ?_, fun fs hr => castTop (ef_4 m a_ x_ (0 : Int32)) ?_⟩
  · show Q_i20 Z x_ a_ b k vs dv cs h0 n0 _ T8.heap _
    rw [(Kq8 : T8.heap = h0)]
    exact ⟨rfl, N8, rfl⟩
  · show Steps _ _ _ (s₁.setTop (mkF m 0 #[vA a_, vI x_, vI 0] [])) _
    refine XS.aloadN X0.here hx rfl (hb hby d364) rfl rfl ?_
    refine st5.trans ?_
    show Steps _ _ _ (T5.setTop (mkF m 4 #[vA a_, vI x_, vI 0] [(.int 1)])) _
    refine XS.ifNo X5.here hx rfl (hb hby d366) rfl ((if0 _ _).trans (feq ((by decide) : ¬ ((1 : Int32) = (0 : Int32)))).1) ?_
    refine XS.aloadN X5.here hx rfl (hb hby d367) rfl rfl ?_
    refine st6 _ ?_
    show Steps _ _ _ (T6.setTop (mkF m 11 #[vA a_, vI x_, vI 0] [(.ref b)])) _
    refine XS.iloadN X6.here hx rfl (hb hby d369) rfl ?_
    refine XS.iloadN X6.here hx rfl (hb hby d370) rfl ?_
    refine XS.aloadN X6.here hx rfl (hb hby d371) rfl rfl ?_
    refine st7.trans ?_
    show Steps _ _ _ (T7.setTop (mkF m 17 #[vA a_, vI x_, vI 0] [(.int 0), (.int 0), (.int x_), (.ref b)])) _
    refine st8 _ ?_
    show Steps _ _ _ (T8.setTop (mkF m 20 #[vA a_, vI x_, vI 0] [(.int (-1))])) _
    refine XS.goto X8.here hx rfl (pc0 := 20) (pc' := 36) rfl (hb hby d374) (by decide) (by decide) ?_
    exact retI X8 hx hret (hb hby d375) hr
def Q_i10 (Z : State) (x_ : Int32) (a_ : Addr) (b : Addr) (k : ClassId) (vs : List Value) (dv : Value) (cs : Int32) (h0 : Heap) (n0 : Nat) (v : Option Value) (h : Heap) (L : List Loc) : Prop := (v = some (.int (-1))) ∧ (Fr n0 L) ∧ (h = h0)
theorem rm_i10 (l : Launch) (Z : State) (a0 : Array Value) (hw : HW Z a0) (ws : List Jvm.Cond) (x_ : Int32) (a_ : Addr) (b : Addr) (k : ClassId) (vs : List Value) (dv : Value) (cs : Int32) (h0 : Heap) (n0 : Nat) (Z0 : n0 ≤ h0.size) (P0 : Old Z n0 h0) (P1 : sta0 Z (.int cs)) (P2 : Exa Z h0 a_ "java/lang/String") (P3 : fld1 Z h0 a_ (.int 0)) (P4 : fld0 Z h0 a_ (.ref b)) (P5 : Arv Z h0 b k .byte (0 : Int32) vs dv) (hcs : ¬ (cs = (0 : Int32))) (hx0 : ¬ (x_ < (0 : Int32))) (hx1 : ¬ ((255 : Int32) < x_)) :
    MF l Z m_29 jdk_42_method_79_code 2 (some .int) ws (oR 3 0 0 42) #[(.ref a_), (.int x_)] h0 (Q_i10 Z x_ a_ b k vs dv cs h0 n0) := by
  refine own_body (cls := "java/lang/String") (plainFor_of_name pn_5) rfl (fun p e s m below meth c s₁ hx hby hml hown hnm hret hZ X0 e0 => ?_)
  have N0 := Fr.nil n0
  have lt1 := own_l P2.lt
  have lt2 := own_l P3.lt
  have lt3 := own_l P4.lt
  have lt4 := own_l P5.lt
  obtain ⟨cq5, kq5, qa5, qb5, qc5⟩ := isOf hZ e0 P2
  obtain ⟨_, _, ⟨T5, L5, k5, n5⟩, -, X5, ⟨Lc5, hQ5, l5, y5, z5⟩, st5⟩ := X0.virtualBack hx (y := m_28) (z := m_28) hown (mvT hZ (w_35 hw)) (mvT hZ (w_36 hw)) (notFace_of_selects (args := #[]) (mvT hZ (w_38 hw))) (mvT hZ (w_38 hw)) (mvT hZ (w_37 hw)) (by decide) (backOf (W := 0) (rm_i20 l Z a0 hw [] x_ a_ b k vs dv cs h0 n0 (by omega) P0 P1 P2 P3 P4 P5 hcs hx0 hx1) hZ (w_39 hw) (w_6 hw) (by decide) (by decide)) qa5 qc5 (g := (mkF m 3 #[vA a_, vI x_] [(.int 0), (.int x_), (.ref a_)])) rfl (by rw [hml]; rfl) (Steps.refl _) (argsL := [(.int x_), (.int 0)]) (rest := []) (lenOf pd_9 rfl) rfl (Nat.le_of_eq rfl) (hb hby d379) (fun _ _ => ⟨rfl, e0, (by decide : 0 + 0 ≤ _), (by decide : 0 + 0 ≤ _)⟩)
  dsimp only [Pt.U, Pt.locs, Pt.cells, Pt.slots] at X5 l5 y5 z5 st5 hQ5
  rw [l5, y5, z5] at X5
  obtain ⟨rfl, Nq5, Kq5⟩ := hQ5
  have N5 := Fr.app N0 Nq5
  refine ⟨_, _, _, _, some (.int (-1)), X5, by decide, by decide, nofun, ?_, fun fs hr => castTop (ef_3 m a_ x_) ?_⟩
  · show Q_i10 Z x_ a_ b k vs dv cs h0 n0 _ T5.heap _
    rw [(Kq5 : T5.heap = h0)]
    exact ⟨rfl, N5, rfl⟩
  · show Steps _ _ _ (s₁.setTop (mkF m 0 #[vA a_, vI x_] [])) _
    refine XS.aloadN X0.here hx rfl (hb hby d376) rfl rfl ?_
    refine XS.iloadN X0.here hx rfl (hb hby d377) rfl ?_
    refine XS.iconst X0.here hx rfl (hb hby d378) ?_
    refine st5.trans ?_
    show Steps _ _ _ (T5.setTop (mkF m 6 #[vA a_, vI x_] [(.int (-1))])) _
    exact retI X5 hx hret (hb hby d380) hr
theorem d388 : decode prog_28_method_2_code 0 = .ok (.aload_n 0, 1) := by decide +kernel
theorem d389 : decode prog_28_method_2_code 1 = .ok (.bipush 10, 2) := by decide +kernel
theorem w_30 {Z : State} {a0 : Array Value} (hw : HW Z a0) : (Jvm.Cond.methodLink "com/example/branchward/branchward/Ids" (7 : Nat) m_29).before a0 Z = true := hw _ (List.mem_of_getElem? (i := 30) rfl)
theorem w_34 {Z : State} {a0 : Array Value} (hw : HW Z a0) : (Jvm.Cond.code m_29 jdk_42_method_79_code (2 : Nat) (Option.some FieldType.int)).before a0 Z = true := hw _ (List.mem_of_getElem? (i := 34) rfl)
theorem d390 : decode prog_28_method_2_code 3 = .ok (.invokevirtual 7, 3) := by decide +kernel
theorem w_33 {Z : State} {a0 : Array Value} (hw : HW Z a0) : (Jvm.Cond.selects "java/lang/String" m_29 m_29).before a0 Z = true := hw _ (List.mem_of_getElem? (i := 33) rfl)
theorem w_31 {Z : State} {a0 : Array Value} (hw : HW Z a0) : (Jvm.Cond.declares m_29).before a0 Z = true := hw _ (List.mem_of_getElem? (i := 31) rfl)
theorem w_32 {Z : State} {a0 : Array Value} (hw : HW Z a0) : (Jvm.Cond.instanceMethod m_29).before a0 Z = true := hw _ (List.mem_of_getElem? (i := 32) rfl)
theorem d391 : decode prog_28_method_2_code 6 = .ok (.ifCond .ge 12, 3) := by decide +kernel
theorem d392 : decode prog_28_method_2_code 18 = .ok (.iconst 1, 1) := by decide +kernel
theorem d393 : decode prog_28_method_2_code 19 = .ok (.goto 4, 3) := by decide +kernel
theorem d394 : decode prog_28_method_2_code 23 = .ok (.ireturn, 1) := by decide +kernel
theorem pn_7 : plainName "com/example/branchward/branchward/Ids" = true := by first | (simp [plainName, overriddenIn]; done) | decide +kernel
abbrev m_30 : MethodName := (⟨"com/example/branchward/branchward/Ids", "holdsLineBreak", "(Ljava/lang/String;)Z"⟩ : MethodName)
def Q_hbLA1 (Z : State) (a_ : Addr) (b : Addr) (k : ClassId) (cs : Int32) (sf : Value) (c0 : Int32) (h0 : Heap) (n0 : Nat) (v : Option Value) (h : Heap) (L : List Loc) : Prop := (v = some (.int 1)) ∧ (Fr n0 L) ∧ (h = h0)
theorem rm_hbLA1 (l : Launch) (Z : State) (a0 : Array Value) (hw : HW Z a0) (ws : List Jvm.Cond) (a_ : Addr) (b : Addr) (k : ClassId) (cs : Int32) (sf : Value) (c0 : Int32) (h0 : Heap) (n0 : Nat) (Z0 : n0 ≤ h0.size) (P0 : Old Z n0 h0) (P1 : sta0 Z (.int cs)) (P2 : Exa Z h0 a_ "java/lang/String") (P3 : fld1 Z h0 a_ (.int 0)) (P4 : fld0 Z h0 a_ (.ref b)) (P5 : Arv Z h0 b k .byte (1 : Int32) [(.int (oB c0))] (.int 0)) (P6 : sta1 Z (.int 1)) (P7 : sta2 Z (.int 0)) (P8 : sta3 Z (.int 8)) (P9 : sta4 Z sf) (hcs : ¬ (cs = (0 : Int32))) (hsf : sf.isRef = true) (r0 : ¬ c0 < 0 ∧ ¬ (65535 : Int32) < c0) (hl0 : ¬ ((255 : Int32) < c0)) (hA : ¬ ¬ (c0 = (10 : Int32))) :
    MF l Z m_30 prog_28_method_2_code 1 (some .boolean) ws (oR 8 0 0 140) #[(.ref a_)] h0 (Q_hbLA1 Z a_ b k cs sf c0 h0 n0) := by
  refine own_body (cls := "com/example/branchward/branchward/Ids") (plainFor_of_name pn_7) rfl (fun p e s m below meth c s₁ hx hby hml hown hnm hret hZ X0 e0 => ?_)
  have N0 := Fr.nil n0
  have lt1 := own_l P2.lt
  have lt2 := own_l P3.lt
  have lt3 := own_l P4.lt
  have lt4 := own_l P5.lt
  obtain ⟨cq5, kq5, qa5, qb5, qc5⟩ := isOf hZ e0 P2
  obtain ⟨_, _, ⟨T5, L5, k5, n5⟩, -, X5, ⟨Lc5, hQ5, l5, y5, z5⟩, st5⟩ := X0.virtualBack hx (y := m_29) (z := m_29) hown (mvT hZ (w_30 hw)) (mvT hZ (w_31 hw)) (notFace_of_selects (args := #[]) (mvT hZ (w_33 hw))) (mvT hZ (w_33 hw)) (mvT hZ (w_32 hw)) (by decide) (backOf (W := 0) (rm_i1l1 l Z a0 hw [] c0 ((10 : Int32)) b k a_ cs h0 n0 (by omega) P0 P1 P2 P3 P4 P5 hcs (by decide) (by decide) r0 hl0) hZ (w_34 hw) (w_6 hw) (by decide) (by decide)) qa5 qc5 (g := (mkF m 3 #[vA a_] [(.int 10), (.ref a_)])) rfl (by rw [hml]; rfl) (Steps.refl _) (argsL := [(.int 10)]) (rest := []) (lenOf pd_0 rfl) rfl (Nat.le_of_eq rfl) (hb hby d390) (fun _ _ => ⟨rfl, e0, (by decide : 0 + 0 ≤ _), (by decide : 0 + 0 ≤ _)⟩)
  dsimp only [Pt.U, Pt.locs, Pt.cells, Pt.slots] at X5 l5 y5 z5 st5 hQ5
  rw [l5, y5, z5] at X5
  obtain ⟨x5_r, rfl, Nq5, Kq5, r5_0⟩ := hQ5
  have N5 := Fr.app N0 Nq5
  refine ⟨_, _, _, _, some (.int 1), X5, by decide, by decide, nofun, ?_, fun fs hr => castTop (ef_12 m a_) ?_⟩
  · show Q_hbLA1 Z a_ b k cs sf c0 h0 n0 _ T5.heap _
    rw [(Kq5 : T5.heap = h0)]
    exact ⟨rfl, N5, rfl⟩
  · show Steps _ _ _ (s₁.setTop (mkF m 0 #[vA a_] [])) _
    refine XS.aloadN X0.here hx rfl (hb hby d388) rfl rfl ?_
    refine XS.bipush X0.here hx rfl (hb hby d389) ?_
    refine st5.trans ?_
    show Steps _ _ _ (T5.setTop (mkF m 6 #[vA a_] [(.int x5_r)])) _
    refine XS.ifYes X5.here hx rfl (pc0 := 6) (pc' := 18) rfl (hb hby d391) rfl ((if0 _ _).trans (flt ((fun q => hA (r5_0.mp q)) : ¬ (x5_r < (0 : Int32)))).2.1) (by decide) (by decide) ?_
    refine XS.iconst X5.here hx rfl (hb hby d392) ?_
    refine XS.goto X5.here hx rfl (pc0 := 19) (pc' := 23) rfl (hb hby d393) (by decide) (by decide) ?_
    exact retN X5 hx (t := .boolean) hret (by simp) (hb hby d394) hr
theorem d395 : decode prog_28_method_2_code 9 = .ok (.aload_n 0, 1) := by decide +kernel
theorem d396 : decode prog_28_method_2_code 10 = .ok (.bipush 13, 2) := by decide +kernel
theorem d397 : decode prog_28_method_2_code 12 = .ok (.invokevirtual 7, 3) := by decide +kernel
theorem d398 : decode prog_28_method_2_code 15 = .ok (.ifCond .lt 7, 3) := by decide +kernel
def Q_hbLB1 (Z : State) (a_ : Addr) (b : Addr) (k : ClassId) (cs : Int32) (sf : Value) (c0 : Int32) (h0 : Heap) (n0 : Nat) (v : Option Value) (h : Heap) (L : List Loc) : Prop := (v = some (.int 1)) ∧ (Fr n0 L) ∧ (h = h0)
theorem rm_hbLB1 (l : Launch) (Z : State) (a0 : Array Value) (hw : HW Z a0) (ws : List Jvm.Cond) (a_ : Addr) (b : Addr) (k : ClassId) (cs : Int32) (sf : Value) (c0 : Int32) (h0 : Heap) (n0 : Nat) (Z0 : n0 ≤ h0.size) (P0 : Old Z n0 h0) (P1 : sta0 Z (.int cs)) (P2 : Exa Z h0 a_ "java/lang/String") (P3 : fld1 Z h0 a_ (.int 0)) (P4 : fld0 Z h0 a_ (.ref b)) (P5 : Arv Z h0 b k .byte (1 : Int32) [(.int (oB c0))] (.int 0)) (P6 : sta1 Z (.int 1)) (P7 : sta2 Z (.int 0)) (P8 : sta3 Z (.int 8)) (P9 : sta4 Z sf) (hcs : ¬ (cs = (0 : Int32))) (hsf : sf.isRef = true) (r0 : ¬ c0 < 0 ∧ ¬ (65535 : Int32) < c0) (hl0 : ¬ ((255 : Int32) < c0)) (hA : ¬ (c0 = (10 : Int32))) (hB : ¬ ¬ (c0 = (13 : Int32))) :
    MF l Z m_30 prog_28_method_2_code 1 (some .boolean) ws (oR 8 0 0 140) #[(.ref a_)] h0 (Q_hbLB1 Z a_ b k cs sf c0 h0 n0) := by
  refine own_body (cls := "com/example/branchward/branchward/Ids") (plainFor_of_name pn_7) rfl (fun p e s m below meth c s₁ hx hby hml hown hnm hret hZ X0 e0 => ?_)
  have N0 := Fr.nil n0
  have lt1 := own_l P2.lt
  have lt2 := own_l P3.lt
  have lt3 := own_l P4.lt
  have lt4 := own_l P5.lt
  obtain ⟨cq5, kq5, qa5, qb5, qc5⟩ := isOf hZ e0 P2
  obtain ⟨_, _, ⟨T5, L5, k5, n5⟩, -, X5, ⟨Lc5, hQ5, l5, y5, z5⟩, st5⟩ := X0.virtualBack hx (y := m_29) (z := m_29) hown (mvT hZ (w_30 hw)) (mvT hZ (w_31 hw)) (notFace_of_selects (args := #[]) (mvT hZ (w_33 hw))) (mvT hZ (w_33 hw)) (mvT hZ (w_32 hw)) (by decide) (backOf (W := 0) (rm_i1l1 l Z a0 hw [] c0 ((10 : Int32)) b k a_ cs h0 n0 (by omega) P0 P1 P2 P3 P4 P5 hcs (by decide) (by decide) r0 hl0) hZ (w_34 hw) (w_6 hw) (by decide) (by decide)) qa5 qc5 (g := (mkF m 3 #[vA a_] [(.int 10), (.ref a_)])) rfl (by rw [hml]; rfl) (Steps.refl _) (argsL := [(.int 10)]) (rest := []) (lenOf pd_0 rfl) rfl (Nat.le_of_eq rfl) (hb hby d390) (fun _ _ => ⟨rfl, e0, (by decide : 0 + 0 ≤ _), (by decide : 0 + 0 ≤ _)⟩)
  dsimp only [Pt.U, Pt.locs, Pt.cells, Pt.slots] at X5 l5 y5 z5 st5 hQ5
  rw [l5, y5, z5] at X5
  obtain ⟨x5_r, rfl, Nq5, Kq5, r5_0⟩ := hQ5
  have N5 := Fr.app N0 Nq5
  obtain ⟨cq6, kq6, qa6, qb6, qc6⟩ := isOf hZ Kq5 P2
  obtain ⟨_, _, ⟨T6, L6, k6, n6⟩, -, X6, ⟨Lc6, hQ6, l6, y6, z6⟩, st6⟩ := X5.virtualBack hx (y := m_29) (z := m_29) hown (mvT hZ (w_30 hw)) (mvT hZ (w_31 hw)) (notFace_of_selects (args := #[]) (mvT hZ (w_33 hw))) (mvT hZ (w_33 hw)) (mvT hZ (w_32 hw)) (by decide) (backOf (W := 0) (rm_i1l1 l Z a0 hw [] c0 ((13 : Int32)) b k a_ cs h0 n0 (by omega) P0 P1 P2 P3 P4 P5 hcs (by decide) (by decide) r0 hl0) hZ (w_34 hw) (w_6 hw) (by decide) (by decide)) qa6 qc6 (g := (mkF m 12 #[vA a_] [(.int 13), (.ref a_)])) rfl (by rw [hml]; rfl) (Steps.refl _) (argsL := [(.int 13)]) (rest := []) (lenOf pd_0 rfl) rfl (Nat.le_of_eq rfl) (hb hby d397) (fun _ _ => ⟨rfl, Kq5, (by decide : 0 + 0 ≤ _), (by decide : 0 + 0 ≤ _)⟩)
  dsimp only [Pt.U, Pt.locs, Pt.cells, Pt.slots] at X6 l6 y6 z6 st6 hQ6
  rw [l6, y6, z6] at X6
  obtain ⟨x6_r, rfl, Nq6, Kq6, r6_0⟩ := hQ6
  have N6 := Fr.app N5 Nq6
  refine ⟨_, _, _, _, some (.int 1), X6, by decide, by decide, nofun, ?_, fun fs hr => castTop (ef_12 m a_) ?_⟩
  · show Q_hbLB1 Z a_ b k cs sf c0 h0 n0 _ T6.heap _
    rw [(Kq6 : T6.heap = h0)]
    exact ⟨rfl, N6, rfl⟩
  · show Steps _ _ _ (s₁.setTop (mkF m 0 #[vA a_] [])) _
    refine XS.aloadN X0.here hx rfl (hb hby d388) rfl rfl ?_
    refine XS.bipush X0.here hx rfl (hb hby d389) ?_
    refine st5.trans ?_
    show Steps _ _ _ (T5.setTop (mkF m 6 #[vA a_] [(.int x5_r)])) _
    refine XS.ifNo X5.here hx rfl (hb hby d391) rfl ((if0 _ _).trans (tlt ((r5_0.mpr hA) : x5_r < (0 : Int32))).2.1) ?_
    refine XS.aloadN X5.here hx rfl (hb hby d395) rfl rfl ?_
    refine XS.bipush X5.here hx rfl (hb hby d396) ?_
    refine st6.trans ?_
    show Steps _ _ _ (T6.setTop (mkF m 15 #[vA a_] [(.int x6_r)])) _
    refine XS.ifNo X6.here hx rfl (hb hby d398) rfl ((if0 _ _).trans (flt ((fun q => hB (r6_0.mp q)) : ¬ (x6_r < (0 : Int32)))).1) ?_
    refine XS.iconst X6.here hx rfl (hb hby d392) ?_
    refine XS.goto X6.here hx rfl (pc0 := 19) (pc' := 23) rfl (hb hby d393) (by decide) (by decide) ?_
    exact retN X6 hx (t := .boolean) hret (by simp) (hb hby d394) hr
theorem d399 : decode prog_28_method_2_code 22 = .ok (.iconst 0, 1) := by decide +kernel
def Q_hbLC1 (Z : State) (a_ : Addr) (b : Addr) (k : ClassId) (cs : Int32) (sf : Value) (c0 : Int32) (h0 : Heap) (n0 : Nat) (v : Option Value) (h : Heap) (L : List Loc) : Prop := (v = some (.int 0)) ∧ (Fr n0 L) ∧ (h = h0)
theorem rm_hbLC1 (l : Launch) (Z : State) (a0 : Array Value) (hw : HW Z a0) (ws : List Jvm.Cond) (a_ : Addr) (b : Addr) (k : ClassId) (cs : Int32) (sf : Value) (c0 : Int32) (h0 : Heap) (n0 : Nat) (Z0 : n0 ≤ h0.size) (P0 : Old Z n0 h0) (P1 : sta0 Z (.int cs)) (P2 : Exa Z h0 a_ "java/lang/String") (P3 : fld1 Z h0 a_ (.int 0)) (P4 : fld0 Z h0 a_ (.ref b)) (P5 : Arv Z h0 b k .byte (1 : Int32) [(.int (oB c0))] (.int 0)) (P6 : sta1 Z (.int 1)) (P7 : sta2 Z (.int 0)) (P8 : sta3 Z (.int 8)) (P9 : sta4 Z sf) (hcs : ¬ (cs = (0 : Int32))) (hsf : sf.isRef = true) (r0 : ¬ c0 < 0 ∧ ¬ (65535 : Int32) < c0) (hl0 : ¬ ((255 : Int32) < c0)) (hA : ¬ (c0 = (10 : Int32))) (hB : ¬ (c0 = (13 : Int32))) :
    MF l Z m_30 prog_28_method_2_code 1 (some .boolean) ws (oR 8 0 0 140) #[(.ref a_)] h0 (Q_hbLC1 Z a_ b k cs sf c0 h0 n0) := by
  refine own_body (cls := "com/example/branchward/branchward/Ids") (plainFor_of_name pn_7) rfl (fun p e s m below meth c s₁ hx hby hml hown hnm hret hZ X0 e0 => ?_)
  have N0 := Fr.nil n0
  have lt1 := own_l P2.lt
  have lt2 := own_l P3.lt
  have lt3 := own_l P4.lt
  have lt4 := own_l P5.lt
  obtain ⟨cq5, kq5, qa5, qb5, qc5⟩ := isOf hZ e0 P2
  obtain ⟨_, _, ⟨T5, L5, k5, n5⟩, -, X5, ⟨Lc5, hQ5, l5, y5, z5⟩, st5⟩ := X0.virtualBack hx (y := m_29) (z := m_29) hown (mvT hZ (w_30 hw)) (mvT hZ (w_31 hw)) (notFace_of_selects (args := #[]) (mvT hZ (w_33 hw))) (mvT hZ (w_33 hw)) (mvT hZ (w_32 hw)) (by decide) (backOf (W := 0) (rm_i1l1 l Z a0 hw [] c0 ((10 : Int32)) b k a_ cs h0 n0 (by omega) P0 P1 P2 P3 P4 P5 hcs (by decide) (by decide) r0 hl0) hZ (w_34 hw) (w_6 hw) (by decide) (by decide)) qa5 qc5 (g := (mkF m 3 #[vA a_] [(.int 10), (.ref a_)])) rfl (by rw [hml]; rfl) (Steps.refl _) (argsL := [(.int 10)]) (rest := []) (lenOf pd_0 rfl) rfl (Nat.le_of_eq rfl) (hb hby d390) (fun _ _ => ⟨rfl, e0, (by decide : 0 + 0 ≤ _), (by decide : 0 + 0 ≤ _)⟩)
  dsimp only [Pt.U, Pt.locs, Pt.cells, Pt.slots] at X5 l5 y5 z5 st5 hQ5
  rw [l5, y5, z5] at X5
  obtain ⟨x5_r, rfl, Nq5, Kq5, r5_0⟩ := hQ5
  have N5 := Fr.app N0 Nq5
  obtain ⟨cq6, kq6, qa6, qb6, qc6⟩ := isOf hZ Kq5 P2
  obtain ⟨_, _, ⟨T6, L6, k6, n6⟩, -, X6, ⟨Lc6, hQ6, l6, y6, z6⟩, st6⟩ := X5.virtualBack hx (y := m_29) (z := m_29) hown (mvT hZ (w_30 hw)) (mvT hZ (w_31 hw)) (notFace_of_selects (args := #[]) (mvT hZ (w_33 hw))) (mvT hZ (w_33 hw)) (mvT hZ (w_32 hw)) (by decide) (backOf (W := 0) (rm_i1l1 l Z a0 hw [] c0 ((13 : Int32)) b k a_ cs h0 n0 (by omega) P0 P1 P2 P3 P4 P5 hcs (by decide) (by decide) r0 hl0) hZ (w_34 hw) (w_6 hw) (by decide) (by decide)) qa6 qc6 (g := (mkF m 12 #[vA a_] [(.int 13), (.ref a_)])) rfl (by rw [hml]; rfl) (Steps.refl _) (argsL := [(.int 13)]) (rest := []) (lenOf pd_0 rfl) rfl (Nat.le_of_eq rfl) (hb hby d397) (fun _ _ => ⟨rfl, Kq5, (by decide : 0 + 0 ≤ _), (by decide : 0 + 0 ≤ _)⟩)
  dsimp only [Pt.U, Pt.locs, Pt.cells, Pt.slots] at X6 l6 y6 z6 st6 hQ6
  rw [l6, y6, z6] at X6
  obtain ⟨x6_r, rfl, Nq6, Kq6, r6_0⟩ := hQ6
  have N6 := Fr.app N5 Nq6
  refine ⟨_, _, _, _, some (.int 0), X6, by decide, by decide, nofun, ?_, fun fs hr => castTop (ef_12 m a_) ?_⟩
  · show Q_hbLC1 Z a_ b k cs sf c0 h0 n0 _ T6.heap _
    rw [(Kq6 : T6.heap = h0)]
    exact ⟨rfl, N6, rfl⟩
  · show Steps _ _ _ (s₁.setTop (mkF m 0 #[vA a_] [])) _
    refine XS.aloadN X0.here hx rfl (hb hby d388) rfl rfl ?_
    refine XS.bipush X0.here hx rfl (hb hby d389) ?_
    refine st5.trans ?_
    show Steps _ _ _ (T5.setTop (mkF m 6 #[vA a_] [(.int x5_r)])) _
    refine XS.ifNo X5.here hx rfl (hb hby d391) rfl ((if0 _ _).trans (tlt ((r5_0.mpr hA) : x5_r < (0 : Int32))).2.1) ?_
    refine XS.aloadN X5.here hx rfl (hb hby d395) rfl rfl ?_
    refine XS.bipush X5.here hx rfl (hb hby d396) ?_
    refine st6.trans ?_
    show Steps _ _ _ (T6.setTop (mkF m 15 #[vA a_] [(.int x6_r)])) _
    refine XS.ifYes X6.here hx rfl (pc0 := 15) (pc' := 22) rfl (hb hby d398) rfl ((if0 _ _).trans (tlt ((r6_0.mpr hB) : x6_r < (0 : Int32))).1) (by decide) (by decide) ?_
    refine XS.iconst X6.here hx rfl (hb hby d399) ?_
    exact retN X6 hx (t := .boolean) hret (by simp) (hb hby d394) hr
def Q_hbUA1 (Z : State) (a_ : Addr) (b : Addr) (k : ClassId) (cs : Int32) (sf : Value) (c0 : Int32) (h0 : Heap) (n0 : Nat) (v : Option Value) (h : Heap) (L : List Loc) : Prop := (v = some (.int 1)) ∧ (Fr n0 L) ∧ (h = h0)
theorem rm_hbUA1 (l : Launch) (Z : State) (a0 : Array Value) (hw : HW Z a0) (ws : List Jvm.Cond) (a_ : Addr) (b : Addr) (k : ClassId) (cs : Int32) (sf : Value) (c0 : Int32) (h0 : Heap) (n0 : Nat) (Z0 : n0 ≤ h0.size) (P0 : Old Z n0 h0) (P1 : sta0 Z (.int cs)) (P2 : Exa Z h0 a_ "java/lang/String") (P3 : fld1 Z h0 a_ (.int 1)) (P4 : fld0 Z h0 a_ (.ref b)) (P5 : Arv Z h0 b k .byte (2 : Int32) [(.int (oL c0)), (.int (oH c0))] (.int 0)) (P6 : sta1 Z (.int 1)) (P7 : sta2 Z (.int 0)) (P8 : sta3 Z (.int 8)) (P9 : sta4 Z sf) (hcs : ¬ (cs = (0 : Int32))) (hsf : sf.isRef = true) (r0 : ¬ c0 < 0 ∧ ¬ (65535 : Int32) < c0) (hA : ¬ ¬ (c0 = (10 : Int32))) :
    MF l Z m_30 prog_28_method_2_code 1 (some .boolean) ws (oR 8 0 0 140) #[(.ref a_)] h0 (Q_hbUA1 Z a_ b k cs sf c0 h0 n0) := by
  refine own_body (cls := "com/example/branchward/branchward/Ids") (plainFor_of_name pn_7) rfl (fun p e s m below meth c s₁ hx hby hml hown hnm hret hZ X0 e0 => ?_)
  have N0 := Fr.nil n0
  have lt1 := own_l P2.lt
  have lt2 := own_l P3.lt
  have lt3 := own_l P4.lt
  have lt4 := own_l P5.lt
  obtain ⟨cq5, kq5, qa5, qb5, qc5⟩ := isOf hZ e0 P2
  obtain ⟨_, _, ⟨T5, L5, k5, n5⟩, -, X5, ⟨Lc5, hQ5, l5, y5, z5⟩, st5⟩ := X0.virtualBack hx (y := m_29) (z := m_29) hown (mvT hZ (w_30 hw)) (mvT hZ (w_31 hw)) (notFace_of_selects (args := #[]) (mvT hZ (w_33 hw))) (mvT hZ (w_33 hw)) (mvT hZ (w_32 hw)) (by decide) (backOf (W := 0) (rm_i1u1 l Z a0 hw [] c0 ((10 : Int32)) b k a_ cs sf h0 n0 (by omega) P0 P1 P2 P3 P4 P5 P6 P7 P8 P9 hcs hsf r0 (by decide)) hZ (w_34 hw) (w_6 hw) (by decide) (by decide)) qa5 qc5 (g := (mkF m 3 #[vA a_] [(.int 10), (.ref a_)])) rfl (by rw [hml]; rfl) (Steps.refl _) (argsL := [(.int 10)]) (rest := []) (lenOf pd_0 rfl) rfl (Nat.le_of_eq rfl) (hb hby d390) (fun _ _ => ⟨rfl, e0, (by decide : 0 + 0 ≤ _), (by decide : 0 + 0 ≤ _)⟩)
  dsimp only [Pt.U, Pt.locs, Pt.cells, Pt.slots] at X5 l5 y5 z5 st5 hQ5
  rw [l5, y5, z5] at X5
  obtain ⟨x5_r, rfl, Nq5, Kq5, r5_0⟩ := hQ5
  have N5 := Fr.app N0 Nq5
  refine ⟨_, _, _, _, some (.int 1), X5, by decide, by decide, nofun, ?_, fun fs hr => castTop (ef_12 m a_) ?_⟩
  · show Q_hbUA1 Z a_ b k cs sf c0 h0 n0 _ T5.heap _
    rw [(Kq5 : T5.heap = h0)]
    exact ⟨rfl, N5, rfl⟩
  · show Steps _ _ _ (s₁.setTop (mkF m 0 #[vA a_] [])) _
    refine XS.aloadN X0.here hx rfl (hb hby d388) rfl rfl ?_
    refine XS.bipush X0.here hx rfl (hb hby d389) ?_
    refine st5.trans ?_
    show Steps _ _ _ (T5.setTop (mkF m 6 #[vA a_] [(.int x5_r)])) _
    refine XS.ifYes X5.here hx rfl (pc0 := 6) (pc' := 18) rfl (hb hby d391) rfl ((if0 _ _).trans (flt ((fun q => hA (r5_0.mp q)) : ¬ (x5_r < (0 : Int32)))).2.1) (by decide) (by decide) ?_
    refine XS.iconst X5.here hx rfl (hb hby d392) ?_
    refine XS.goto X5.here hx rfl (pc0 := 19) (pc' := 23) rfl (hb hby d393) (by decide) (by decide) ?_
    exact retN X5 hx (t := .boolean) hret (by simp) (hb hby d394) hr
def Q_hbUB1 (Z : State) (a_ : Addr) (b : Addr) (k : ClassId) (cs : Int32) (sf : Value) (c0 : Int32) (h0 : Heap) (n0 : Nat) (v : Option Value) (h : Heap) (L : List Loc) : Prop := (v = some (.int 1)) ∧ (Fr n0 L) ∧ (h = h0)
theorem rm_hbUB1 (l : Launch) (Z : State) (a0 : Array Value) (hw : HW Z a0) (ws : List Jvm.Cond) (a_ : Addr) (b : Addr) (k : ClassId) (cs : Int32) (sf : Value) (c0 : Int32) (h0 : Heap) (n0 : Nat) (Z0 : n0 ≤ h0.size) (P0 : Old Z n0 h0) (P1 : sta0 Z (.int cs)) (P2 : Exa Z h0 a_ "java/lang/String") (P3 : fld1 Z h0 a_ (.int 1)) (P4 : fld0 Z h0 a_ (.ref b)) (P5 : Arv Z h0 b k .byte (2 : Int32) [(.int (oL c0)), (.int (oH c0))] (.int 0)) (P6 : sta1 Z (.int 1)) (P7 : sta2 Z (.int 0)) (P8 : sta3 Z (.int 8)) (P9 : sta4 Z sf) (hcs : ¬ (cs = (0 : Int32))) (hsf : sf.isRef = true) (r0 : ¬ c0 < 0 ∧ ¬ (65535 : Int32) < c0) (hA : ¬ (c0 = (10 : Int32))) (hB : ¬ ¬ (c0 = (13 : Int32))) :
    MF l Z m_30 prog_28_method_2_code 1 (some .boolean) ws (oR 8 0 0 140) #[(.ref a_)] h0 (Q_hbUB1 Z a_ b k cs sf c0 h0 n0) := by
  refine own_body (cls := "com/example/branchward/branchward/Ids") (plainFor_of_name pn_7) rfl (fun p e s m below meth c s₁ hx hby hml hown hnm hret hZ X0 e0 => ?_)
  have N0 := Fr.nil n0
  have lt1 := own_l P2.lt
  have lt2 := own_l P3.lt
  have lt3 := own_l P4.lt
  have lt4 := own_l P5.lt
  obtain ⟨cq5, kq5, qa5, qb5, qc5⟩ := isOf hZ e0 P2
  obtain ⟨_, _, ⟨T5, L5, k5, n5⟩, -, X5, ⟨Lc5, hQ5, l5, y5, z5⟩, st5⟩ := X0.virtualBack hx (y := m_29) (z := m_29) hown (mvT hZ (w_30 hw)) (mvT hZ (w_31 hw)) (notFace_of_selects (args := #[]) (mvT hZ (w_33 hw))) (mvT hZ (w_33 hw)) (mvT hZ (w_32 hw)) (by decide) (backOf (W := 0) (rm_i1u1 l Z a0 hw [] c0 ((10 : Int32)) b k a_ cs sf h0 n0 (by omega) P0 P1 P2 P3 P4 P5 P6 P7 P8 P9 hcs hsf r0 (by decide)) hZ (w_34 hw) (w_6 hw) (by decide) (by decide)) qa5 qc5 (g := (mkF m 3 #[vA a_] [(.int 10), (.ref a_)])) rfl (by rw [hml]; rfl) (Steps.refl _) (argsL := [(.int 10)]) (rest := []) (lenOf pd_0 rfl) rfl (Nat.le_of_eq rfl) (hb hby d390) (fun _ _ => ⟨rfl, e0, (by decide : 0 + 0 ≤ _), (by decide : 0 + 0 ≤ _)⟩)
  dsimp only [Pt.U, Pt.locs, Pt.cells, Pt.slots] at X5 l5 y5 z5 st5 hQ5
  rw [l5, y5, z5] at X5
  obtain ⟨x5_r, rfl, Nq5, Kq5, r5_0⟩ := hQ5
  have N5 := Fr.app N0 Nq5
  obtain ⟨cq6, kq6, qa6, qb6, qc6⟩ := isOf hZ Kq5 P2
  obtain ⟨_, _, ⟨T6, L6, k6, n6⟩, -, X6, ⟨Lc6, hQ6, l6, y6, z6⟩, st6⟩ := X5.virtualBack hx (y := m_29) (z := m_29) hown (mvT hZ (w_30 hw)) (mvT hZ (w_31 hw)) (notFace_of_selects (args := #[]) (mvT hZ (w_33 hw))) (mvT hZ (w_33 hw)) (mvT hZ (w_32 hw)) (by decide) (backOf (W := 0) (rm_i1u1 l Z a0 hw [] c0 ((13 : Int32)) b k a_ cs sf h0 n0 (by omega) P0 P1 P2 P3 P4 P5 P6 P7 P8 P9 hcs hsf r0 (by decide)) hZ (w_34 hw) (w_6 hw) (by decide) (by decide)) qa6 qc6 (g := (mkF m 12 #[vA a_] [(.int 13), (.ref a_)])) rfl (by rw [hml]; rfl) (Steps.refl _) (argsL := [(.int 13)]) (rest := []) (lenOf pd_0 rfl) rfl (Nat.le_of_eq rfl) (hb hby d397) (fun _ _ => ⟨rfl, Kq5, (by decide : 0 + 0 ≤ _), (by decide : 0 + 0 ≤ _)⟩)
  dsimp only [Pt.U, Pt.locs, Pt.cells, Pt.slots] at X6 l6 y6 z6 st6 hQ6
  rw [l6, y6, z6] at X6
  obtain ⟨x6_r, rfl, Nq6, Kq6, r6_0⟩ := hQ6
  have N6 := Fr.app N5 Nq6
  refine ⟨_, _, _, _, some (.int 1), X6, by decide, by decide, nofun, ?_, fun fs hr => castTop (ef_12 m a_) ?_⟩
  · show Q_hbUB1 Z a_ b k cs sf c0 h0 n0 _ T6.heap _
    rw [(Kq6 : T6.heap = h0)]
    exact ⟨rfl, N6, rfl⟩
  · show Steps _ _ _ (s₁.setTop (mkF m 0 #[vA a_] [])) _
    refine XS.aloadN X0.here hx rfl (hb hby d388) rfl rfl ?_
    refine XS.bipush X0.here hx rfl (hb hby d389) ?_
    refine st5.trans ?_
    show Steps _ _ _ (T5.setTop (mkF m 6 #[vA a_] [(.int x5_r)])) _
    refine XS.ifNo X5.here hx rfl (hb hby d391) rfl ((if0 _ _).trans (tlt ((r5_0.mpr hA) : x5_r < (0 : Int32))).2.1) ?_
    refine XS.aloadN X5.here hx rfl (hb hby d395) rfl rfl ?_
    refine XS.bipush X5.here hx rfl (hb hby d396) ?_
    refine st6.trans ?_
    show Steps _ _ _ (T6.setTop (mkF m 15 #[vA a_] [(.int x6_r)])) _
    refine XS.ifNo X6.here hx rfl (hb hby d398) rfl ((if0 _ _).trans (flt ((fun q => hB (r6_0.mp q)) : ¬ (x6_r < (0 : Int32)))).1) ?_
    refine XS.iconst X6.here hx rfl (hb hby d392) ?_
    refine XS.goto X6.here hx rfl (pc0 := 19) (pc' := 23) rfl (hb hby d393) (by decide) (by decide) ?_
    exact retN X6 hx (t := .boolean) hret (by simp) (hb hby d394) hr
def Q_hbUC1 (Z : State) (a_ : Addr) (b : Addr) (k : ClassId) (cs : Int32) (sf : Value) (c0 : Int32) (h0 : Heap) (n0 : Nat) (v : Option Value) (h : Heap) (L : List Loc) : Prop := (v = some (.int 0)) ∧ (Fr n0 L) ∧ (h = h0)
theorem rm_hbUC1 (l : Launch) (Z : State) (a0 : Array Value) (hw : HW Z a0) (ws : List Jvm.Cond) (a_ : Addr) (b : Addr) (k : ClassId) (cs : Int32) (sf : Value) (c0 : Int32) (h0 : Heap) (n0 : Nat) (Z0 : n0 ≤ h0.size) (P0 : Old Z n0 h0) (P1 : sta0 Z (.int cs)) (P2 : Exa Z h0 a_ "java/lang/String") (P3 : fld1 Z h0 a_ (.int 1)) (P4 : fld0 Z h0 a_ (.ref b)) (P5 : Arv Z h0 b k .byte (2 : Int32) [(.int (oL c0)), (.int (oH c0))] (.int 0)) (P6 : sta1 Z (.int 1)) (P7 : sta2 Z (.int 0)) (P8 : sta3 Z (.int 8)) (P9 : sta4 Z sf) (hcs : ¬ (cs = (0 : Int32))) (hsf : sf.isRef = true) (r0 : ¬ c0 < 0 ∧ ¬ (65535 : Int32) < c0) (hA : ¬ (c0 = (10 : Int32))) (hB : ¬ (c0 = (13 : Int32))) :
    MF l Z m_30 prog_28_method_2_code 1 (some .boolean) ws (oR 8 0 0 140) #[(.ref a_)] h0 (Q_hbUC1 Z a_ b k cs sf c0 h0 n0) := by
  refine own_body (cls := "com/example/branchward/branchward/Ids") (plainFor_of_name pn_7) rfl (fun p e s m below meth c s₁ hx hby hml hown hnm hret hZ X0 e0 => ?_)
  have N0 := Fr.nil n0
  have lt1 := own_l P2.lt
  have lt2 := own_l P3.lt
  have lt3 := own_l P4.lt
  have lt4 := own_l P5.lt
  obtain ⟨cq5, kq5, qa5, qb5, qc5⟩ := isOf hZ e0 P2
  obtain ⟨_, _, ⟨T5, L5, k5, n5⟩, -, X5, ⟨Lc5, hQ5, l5, y5, z5⟩, st5⟩ := X0.virtualBack hx (y := m_29) (z := m_29) hown (mvT hZ (w_30 hw)) (mvT hZ (w_31 hw)) (notFace_of_selects (args := #[]) (mvT hZ (w_33 hw))) (mvT hZ (w_33 hw)) (mvT hZ (w_32 hw)) (by decide) (backOf (W := 0) (rm_i1u1 l Z a0 hw [] c0 ((10 : Int32)) b k a_ cs sf h0 n0 (by omega) P0 P1 P2 P3 P4 P5 P6 P7 P8 P9 hcs hsf r0 (by decide)) hZ (w_34 hw) (w_6 hw) (by decide) (by decide)) qa5 qc5 (g := (mkF m 3 #[vA a_] [(.int 10), (.ref a_)])) rfl (by rw [hml]; rfl) (Steps.refl _) (argsL := [(.int 10)]) (rest := []) (lenOf pd_0 rfl) rfl (Nat.le_of_eq rfl) (hb hby d390) (fun _ _ => ⟨rfl, e0, (by decide : 0 + 0 ≤ _), (by decide : 0 + 0 ≤ _)⟩)
  dsimp only [Pt.U, Pt.locs, Pt.cells, Pt.slots] at X5 l5 y5 z5 st5 hQ5
  rw [l5, y5, z5] at X5
  obtain ⟨x5_r, rfl, Nq5, Kq5, r5_0⟩ := hQ5
  have N5 := Fr.app N0 Nq5
  obtain ⟨cq6, kq6, qa6, qb6, qc6⟩ := isOf hZ Kq5 P2
  obtain ⟨_, _, ⟨T6, L6, k6, n6⟩, -, X6, ⟨Lc6, hQ6, l6, y6, z6⟩, st6⟩ := X5.virtualBack hx (y := m_29) (z := m_29) hown (mvT hZ (w_30 hw)) (mvT hZ (w_31 hw)) (notFace_of_selects (args := #[]) (mvT hZ (w_33 hw))) (mvT hZ (w_33 hw)) (mvT hZ (w_32 hw)) (by decide) (backOf (W := 0) (rm_i1u1 l Z a0 hw [] c0 ((13 : Int32)) b k a_ cs sf h0 n0 (by omega) P0 P1 P2 P3 P4 P5 P6 P7 P8 P9 hcs hsf r0 (by decide)) hZ (w_34 hw) (w_6 hw) (by decide) (by decide)) qa6 qc6 (g := (mkF m 12 #[vA a_] [(.int 13), (.ref a_)])) rfl (by rw [hml]; rfl) (Steps.refl _) (argsL := [(.int 13)]) (rest := []) (lenOf pd_0 rfl) rfl (Nat.le_of_eq rfl) (hb hby d397) (fun _ _ => ⟨rfl, Kq5, (by decide : 0 + 0 ≤ _), (by decide : 0 + 0 ≤ _)⟩)
  dsimp only [Pt.U, Pt.locs, Pt.cells, Pt.slots] at X6 l6 y6 z6 st6 hQ6
  rw [l6, y6, z6] at X6
  obtain ⟨x6_r, rfl, Nq6, Kq6, r6_0⟩ := hQ6
  have N6 := Fr.app N5 Nq6
  refine ⟨_, _, _, _, some (.int 0), X6, by decide, by decide, nofun, ?_, fun fs hr => castTop (ef_12 m a_) ?_⟩
  · show Q_hbUC1 Z a_ b k cs sf c0 h0 n0 _ T6.heap _
    rw [(Kq6 : T6.heap = h0)]
    exact ⟨rfl, N6, rfl⟩
  · show Steps _ _ _ (s₁.setTop (mkF m 0 #[vA a_] [])) _
    refine XS.aloadN X0.here hx rfl (hb hby d388) rfl rfl ?_
    refine XS.bipush X0.here hx rfl (hb hby d389) ?_
    refine st5.trans ?_
    show Steps _ _ _ (T5.setTop (mkF m 6 #[vA a_] [(.int x5_r)])) _
    refine XS.ifNo X5.here hx rfl (hb hby d391) rfl ((if0 _ _).trans (tlt ((r5_0.mpr hA) : x5_r < (0 : Int32))).2.1) ?_
    refine XS.aloadN X5.here hx rfl (hb hby d395) rfl rfl ?_
    refine XS.bipush X5.here hx rfl (hb hby d396) ?_
    refine st6.trans ?_
    show Steps _ _ _ (T6.setTop (mkF m 15 #[vA a_] [(.int x6_r)])) _
    refine XS.ifYes X6.here hx rfl (pc0 := 15) (pc' := 22) rfl (hb hby d398) rfl ((if0 _ _).trans (tlt ((r6_0.mpr hB) : x6_r < (0 : Int32))).1) (by decide) (by decide) ?_
    refine XS.iconst X6.here hx rfl (hb hby d399) ?_
    exact retN X6 hx (t := .boolean) hret (by simp) (hb hby d394) hr
def Q_hbA1 (Z : State) (a_ : Addr) (cs : Int32) (sf : Value) (c0 : Int32) (h0 : Heap) (n0 : Nat) (v : Option Value) (h : Heap) (L : List Loc) : Prop := (v = some (.int 1)) ∧ (Fr n0 L) ∧ (h = h0)
theorem rm_hbA1 (l : Launch) (Z : State) (a0 : Array Value) (hw : HW Z a0) (ws : List Jvm.Cond) (a_ : Addr) (cs : Int32) (sf : Value) (c0 : Int32) (h0 : Heap) (n0 : Nat) (Z0 : n0 ≤ h0.size) (P0 : Old Z n0 h0) (P1 : sta0 Z (.int cs)) (P2 : Exa Z h0 a_ "java/lang/String") (P3 : sta1 Z (.int 1)) (P4 : sta2 Z (.int 0)) (P5 : sta3 Z (.int 8)) (P6 : sta4 Z sf) (P7 : (SL Z h0 a_ [c0] ∨ SU Z h0 a_ [c0])) (hcs : ¬ (cs = (0 : Int32))) (hsf : sf.isRef = true) (r0 : ¬ c0 < 0 ∧ ¬ (65535 : Int32) < c0) (hA : ¬ ¬ (c0 = (10 : Int32))) :
    MF l Z m_30 prog_28_method_2_code 1 (some .boolean) ws (oR 8 0 0 140) #[(.ref a_)] h0 (Q_hbA1 Z a_ cs sf c0 h0 n0) := by
  rcases P7 with ⟨t, kb, fv, fc, hl, ar⟩ | ⟨t, kb, fv, fc, ar⟩
  · exact rm_hbLA1 l Z a0 hw ws a_ t kb cs sf c0 h0 n0 Z0 P0 P1 P2 fc fv ar P3 P4 P5 P6 hcs hsf r0 (hl _ (List.mem_of_getElem? (i := 0) rfl)) hA
  · exact rm_hbUA1 l Z a0 hw ws a_ t kb cs sf c0 h0 n0 Z0 P0 P1 P2 fc fv ar P3 P4 P5 P6 hcs hsf r0 hA
def Q_hbB1 (Z : State) (a_ : Addr) (cs : Int32) (sf : Value) (c0 : Int32) (h0 : Heap) (n0 : Nat) (v : Option Value) (h : Heap) (L : List Loc) : Prop := (v = some (.int 1)) ∧ (Fr n0 L) ∧ (h = h0)
theorem rm_hbB1 (l : Launch) (Z : State) (a0 : Array Value) (hw : HW Z a0) (ws : List Jvm.Cond) (a_ : Addr) (cs : Int32) (sf : Value) (c0 : Int32) (h0 : Heap) (n0 : Nat) (Z0 : n0 ≤ h0.size) (P0 : Old Z n0 h0) (P1 : sta0 Z (.int cs)) (P2 : Exa Z h0 a_ "java/lang/String") (P3 : sta1 Z (.int 1)) (P4 : sta2 Z (.int 0)) (P5 : sta3 Z (.int 8)) (P6 : sta4 Z sf) (P7 : (SL Z h0 a_ [c0] ∨ SU Z h0 a_ [c0])) (hcs : ¬ (cs = (0 : Int32))) (hsf : sf.isRef = true) (r0 : ¬ c0 < 0 ∧ ¬ (65535 : Int32) < c0) (hA : ¬ (c0 = (10 : Int32))) (hB : ¬ ¬ (c0 = (13 : Int32))) :
    MF l Z m_30 prog_28_method_2_code 1 (some .boolean) ws (oR 8 0 0 140) #[(.ref a_)] h0 (Q_hbB1 Z a_ cs sf c0 h0 n0) := by
  rcases P7 with ⟨t, kb, fv, fc, hl, ar⟩ | ⟨t, kb, fv, fc, ar⟩
  · exact rm_hbLB1 l Z a0 hw ws a_ t kb cs sf c0 h0 n0 Z0 P0 P1 P2 fc fv ar P3 P4 P5 P6 hcs hsf r0 (hl _ (List.mem_of_getElem? (i := 0) rfl)) hA hB
  · exact rm_hbUB1 l Z a0 hw ws a_ t kb cs sf c0 h0 n0 Z0 P0 P1 P2 fc fv ar P3 P4 P5 P6 hcs hsf r0 hA hB
def Q_hbC1 (Z : State) (a_ : Addr) (cs : Int32) (sf : Value) (c0 : Int32) (h0 : Heap) (n0 : Nat) (v : Option Value) (h : Heap) (L : List Loc) : Prop := (v = some (.int 0)) ∧ (Fr n0 L) ∧ (h = h0)
theorem rm_hbC1 (l : Launch) (Z : State) (a0 : Array Value) (hw : HW Z a0) (ws : List Jvm.Cond) (a_ : Addr) (cs : Int32) (sf : Value) (c0 : Int32) (h0 : Heap) (n0 : Nat) (Z0 : n0 ≤ h0.size) (P0 : Old Z n0 h0) (P1 : sta0 Z (.int cs)) (P2 : Exa Z h0 a_ "java/lang/String") (P3 : sta1 Z (.int 1)) (P4 : sta2 Z (.int 0)) (P5 : sta3 Z (.int 8)) (P6 : sta4 Z sf) (P7 : (SL Z h0 a_ [c0] ∨ SU Z h0 a_ [c0])) (hcs : ¬ (cs = (0 : Int32))) (hsf : sf.isRef = true) (r0 : ¬ c0 < 0 ∧ ¬ (65535 : Int32) < c0) (hA : ¬ (c0 = (10 : Int32))) (hB : ¬ (c0 = (13 : Int32))) :
    MF l Z m_30 prog_28_method_2_code 1 (some .boolean) ws (oR 8 0 0 140) #[(.ref a_)] h0 (Q_hbC1 Z a_ cs sf c0 h0 n0) := by
  rcases P7 with ⟨t, kb, fv, fc, hl, ar⟩ | ⟨t, kb, fv, fc, ar⟩
  · exact rm_hbLC1 l Z a0 hw ws a_ t kb cs sf c0 h0 n0 Z0 P0 P1 P2 fc fv ar P3 P4 P5 P6 hcs hsf r0 (hl _ (List.mem_of_getElem? (i := 0) rfl)) hA hB
  · exact rm_hbUC1 l Z a0 hw ws a_ t kb cs sf c0 h0 n0 Z0 P0 P1 P2 fc fv ar P3 P4 P5 P6 hcs hsf r0 hA hB
def Q_hbLA2 (Z : State) (a_ : Addr) (b : Addr) (k : ClassId) (cs : Int32) (sf : Value) (c0 : Int32) (c1 : Int32) (h0 : Heap) (n0 : Nat) (v : Option Value) (h : Heap) (L : List Loc) : Prop := (v = some (.int 1)) ∧ (Fr n0 L) ∧ (h = h0)
theorem rm_hbLA2 (l : Launch) (Z : State) (a0 : Array Value) (hw : HW Z a0) (ws : List Jvm.Cond) (a_ : Addr) (b : Addr) (k : ClassId) (cs : Int32) (sf : Value) (c0 : Int32) (c1 : Int32) (h0 : Heap) (n0 : Nat) (Z0 : n0 ≤ h0.size) (P0 : Old Z n0 h0) (P1 : sta0 Z (.int cs)) (P2 : Exa Z h0 a_ "java/lang/String") (P3 : fld1 Z h0 a_ (.int 0)) (P4 : fld0 Z h0 a_ (.ref b)) (P5 : Arv Z h0 b k .byte (2 : Int32) [(.int (oB c0)), (.int (oB c1))] (.int 0)) (P6 : sta1 Z (.int 1)) (P7 : sta2 Z (.int 0)) (P8 : sta3 Z (.int 8)) (P9 : sta4 Z sf) (hcs : ¬ (cs = (0 : Int32))) (hsf : sf.isRef = true) (r0 : ¬ c0 < 0 ∧ ¬ (65535 : Int32) < c0) (r1 : ¬ c1 < 0 ∧ ¬ (65535 : Int32) < c1) (hl0 : ¬ ((255 : Int32) < c0)) (hl1 : ¬ ((255 : Int32) < c1)) (hA : ¬ (¬ (c0 = (10 : Int32)) ∧ ¬ (c1 = (10 : Int32)))) :
    MF l Z m_30 prog_28_method_2_code 1 (some .boolean) ws (oR 8 0 0 140) #[(.ref a_)] h0 (Q_hbLA2 Z a_ b k cs sf c0 c1 h0 n0) := by
  refine own_body (cls := "com/example/branchward/branchward/Ids") (plainFor_of_name pn_7) rfl (fun p e s m below meth c s₁ hx hby hml hown hnm hret hZ X0 e0 => ?_)
  have N0 := Fr.nil n0
  have lt1 := own_l P2.lt
  have lt2 := own_l P3.lt
  have lt3 := own_l P4.lt
  have lt4 := own_l P5.lt
  obtain ⟨cq5, kq5, qa5, qb5, qc5⟩ := isOf hZ e0 P2
  obtain ⟨_, _, ⟨T5, L5, k5, n5⟩, -, X5, ⟨Lc5, hQ5, l5, y5, z5⟩, st5⟩ := X0.virtualBack hx (y := m_29) (z := m_29) hown (mvT hZ (w_30 hw)) (mvT hZ (w_31 hw)) (notFace_of_selects (args := #[]) (mvT hZ (w_33 hw))) (mvT hZ (w_33 hw)) (mvT hZ (w_32 hw)) (by decide) (backOf (W := 0) (rm_i1l2 l Z a0 hw [] c0 c1 ((10 : Int32)) b k a_ cs h0 n0 (by omega) P0 P1 P2 P3 P4 P5 hcs (by decide) (by decide) r0 r1 hl0 hl1) hZ (w_34 hw) (w_6 hw) (by decide) (by decide)) qa5 qc5 (g := (mkF m 3 #[vA a_] [(.int 10), (.ref a_)])) rfl (by rw [hml]; rfl) (Steps.refl _) (argsL := [(.int 10)]) (rest := []) (lenOf pd_0 rfl) rfl (Nat.le_of_eq rfl) (hb hby d390) (fun _ _ => ⟨rfl, e0, (by decide : 0 + 0 ≤ _), (by decide : 0 + 0 ≤ _)⟩)
  dsimp only [Pt.U, Pt.locs, Pt.cells, Pt.slots] at X5 l5 y5 z5 st5 hQ5
  rw [l5, y5, z5] at X5
  obtain ⟨x5_r, rfl, Nq5, Kq5, r5_0⟩ := hQ5
  have N5 := Fr.app N0 Nq5
  refine ⟨_, _, _, _, some (.int 1), X5, by decide, by decide, nofun, ?_, fun fs hr => castTop (ef_12 m a_) ?_⟩
  · show Q_hbLA2 Z a_ b k cs sf c0 c1 h0 n0 _ T5.heap _
    rw [(Kq5 : T5.heap = h0)]
    exact ⟨rfl, N5, rfl⟩
  · show Steps _ _ _ (s₁.setTop (mkF m 0 #[vA a_] [])) _
    refine XS.aloadN X0.here hx rfl (hb hby d388) rfl rfl ?_
    refine XS.bipush X0.here hx rfl (hb hby d389) ?_
    refine st5.trans ?_
    show Steps _ _ _ (T5.setTop (mkF m 6 #[vA a_] [(.int x5_r)])) _
    refine XS.ifYes X5.here hx rfl (pc0 := 6) (pc' := 18) rfl (hb hby d391) rfl ((if0 _ _).trans (flt ((fun q => hA (r5_0.mp q)) : ¬ (x5_r < (0 : Int32)))).2.1) (by decide) (by decide) ?_
    refine XS.iconst X5.here hx rfl (hb hby d392) ?_
    refine XS.goto X5.here hx rfl (pc0 := 19) (pc' := 23) rfl (hb hby d393) (by decide) (by decide) ?_
    exact retN X5 hx (t := .boolean) hret (by simp) (hb hby d394) hr
def Q_hbLB2 (Z : State) (a_ : Addr) (b : Addr) (k : ClassId) (cs : Int32) (sf : Value) (c0 : Int32) (c1 : Int32) (h0 : Heap) (n0 : Nat) (v : Option Value) (h : Heap) (L : List Loc) : Prop := (v = some (.int 1)) ∧ (Fr n0 L) ∧ (h = h0)
theorem rm_hbLB2 (l : Launch) (Z : State) (a0 : Array Value) (hw : HW Z a0) (ws : List Jvm.Cond) (a_ : Addr) (b : Addr) (k : ClassId) (cs : Int32) (sf : Value) (c0 : Int32) (c1 : Int32) (h0 : Heap) (n0 : Nat) (Z0 : n0 ≤ h0.size) (P0 : Old Z n0 h0) (P1 : sta0 Z (.int cs)) (P2 : Exa Z h0 a_ "java/lang/String") (P3 : fld1 Z h0 a_ (.int 0)) (P4 : fld0 Z h0 a_ (.ref b)) (P5 : Arv Z h0 b k .byte (2 : Int32) [(.int (oB c0)), (.int (oB c1))] (.int 0)) (P6 : sta1 Z (.int 1)) (P7 : sta2 Z (.int 0)) (P8 : sta3 Z (.int 8)) (P9 : sta4 Z sf) (hcs : ¬ (cs = (0 : Int32))) (hsf : sf.isRef = true) (r0 : ¬ c0 < 0 ∧ ¬ (65535 : Int32) < c0) (r1 : ¬ c1 < 0 ∧ ¬ (65535 : Int32) < c1) (hl0 : ¬ ((255 : Int32) < c0)) (hl1 : ¬ ((255 : Int32) < c1)) (hA : (¬ (c0 = (10 : Int32)) ∧ ¬ (c1 = (10 : Int32)))) (hB : ¬ (¬ (c0 = (13 : Int32)) ∧ ¬ (c1 = (13 : Int32)))) :
    MF l Z m_30 prog_28_method_2_code 1 (some .boolean) ws (oR 8 0 0 140) #[(.ref a_)] h0 (Q_hbLB2 Z a_ b k cs sf c0 c1 h0 n0) := by
  refine own_body (cls := "com/example/branchward/branchward/Ids") (plainFor_of_name pn_7) rfl (fun p e s m below meth c s₁ hx hby hml hown hnm hret hZ X0 e0 => ?_)
  have N0 := Fr.nil n0
  have lt1 := own_l P2.lt
  have lt2 := own_l P3.lt
  have lt3 := own_l P4.lt
  have lt4 := own_l P5.lt
  obtain ⟨cq5, kq5, qa5, qb5, qc5⟩ := isOf hZ e0 P2
  obtain ⟨_, _, ⟨T5, L5, k5, n5⟩, -, X5, ⟨Lc5, hQ5, l5, y5, z5⟩, st5⟩ := X0.virtualBack hx (y := m_29) (z := m_29) hown (mvT hZ (w_30 hw)) (mvT hZ (w_31 hw)) (notFace_of_selects (args := #[]) (mvT hZ (w_33 hw))) (mvT hZ (w_33 hw)) (mvT hZ (w_32 hw)) (by decide) (backOf (W := 0) (rm_i1l2 l Z a0 hw [] c0 c1 ((10 : Int32)) b k a_ cs h0 n0 (by omega) P0 P1 P2 P3 P4 P5 hcs (by decide) (by decide) r0 r1 hl0 hl1) hZ (w_34 hw) (w_6 hw) (by decide) (by decide)) qa5 qc5 (g := (mkF m 3 #[vA a_] [(.int 10), (.ref a_)])) rfl (by rw [hml]; rfl) (Steps.refl _) (argsL := [(.int 10)]) (rest := []) (lenOf pd_0 rfl) rfl (Nat.le_of_eq rfl) (hb hby d390) (fun _ _ => ⟨rfl, e0, (by decide : 0 + 0 ≤ _), (by decide : 0 + 0 ≤ _)⟩)
  dsimp only [Pt.U, Pt.locs, Pt.cells, Pt.slots] at X5 l5 y5 z5 st5 hQ5
  rw [l5, y5, z5] at X5
  obtain ⟨x5_r, rfl, Nq5, Kq5, r5_0⟩ := hQ5
  have N5 := Fr.app N0 Nq5
  obtain ⟨cq6, kq6, qa6, qb6, qc6⟩ := isOf hZ Kq5 P2
  obtain ⟨_, _, ⟨T6, L6, k6, n6⟩, -, X6, ⟨Lc6, hQ6, l6, y6, z6⟩, st6⟩ := X5.virtualBack hx (y := m_29) (z := m_29) hown (mvT hZ (w_30 hw)) (mvT hZ (w_31 hw)) (notFace_of_selects (args := #[]) (mvT hZ (w_33 hw))) (mvT hZ (w_33 hw)) (mvT hZ (w_32 hw)) (by decide) (backOf (W := 0) (rm_i1l2 l Z a0 hw [] c0 c1 ((13 : Int32)) b k a_ cs h0 n0 (by omega) P0 P1 P2 P3 P4 P5 hcs (by decide) (by decide) r0 r1 hl0 hl1) hZ (w_34 hw) (w_6 hw) (by decide) (by decide)) qa6 qc6 (g := (mkF m 12 #[vA a_] [(.int 13), (.ref a_)])) rfl (by rw [hml]; rfl) (Steps.refl _) (argsL := [(.int 13)]) (rest := []) (lenOf pd_0 rfl) rfl (Nat.le_of_eq rfl) (hb hby d397) (fun _ _ => ⟨rfl, Kq5, (by decide : 0 + 0 ≤ _), (by decide : 0 + 0 ≤ _)⟩)
  dsimp only [Pt.U, Pt.locs, Pt.cells, Pt.slots] at X6 l6 y6 z6 st6 hQ6
  rw [l6, y6, z6] at X6
  obtain ⟨x6_r, rfl, Nq6, Kq6, r6_0⟩ := hQ6
  have N6 := Fr.app N5 Nq6
  refine ⟨_, _, _, _, some (.int 1), X6, by decide, by decide, nofun, ?_, fun fs hr => castTop (ef_12 m a_) ?_⟩
  · show Q_hbLB2 Z a_ b k cs sf c0 c1 h0 n0 _ T6.heap _
    rw [(Kq6 : T6.heap = h0)]
    exact ⟨rfl, N6, rfl⟩
  · show Steps _ _ _ (s₁.setTop (mkF m 0 #[vA a_] [])) _
    refine XS.aloadN X0.here hx rfl (hb hby d388) rfl rfl ?_
    refine XS.bipush X0.here hx rfl (hb hby d389) ?_
    refine st5.trans ?_
    show Steps _ _ _ (T5.setTop (mkF m 6 #[vA a_] [(.int x5_r)])) _
    refine XS.ifNo X5.here hx rfl (hb hby d391) rfl ((if0 _ _).trans (tlt ((r5_0.mpr hA) : x5_r < (0 : Int32))).2.1) ?_
    refine XS.aloadN X5.here hx rfl (hb hby d395) rfl rfl ?_
    refine XS.bipush X5.here hx rfl (hb hby d396) ?_
    refine st6.trans ?_
    show Steps _ _ _ (T6.setTop (mkF m 15 #[vA a_] [(.int x6_r)])) _
    refine XS.ifNo X6.here hx rfl (hb hby d398) rfl ((if0 _ _).trans (flt ((fun q => hB (r6_0.mp q)) : ¬ (x6_r < (0 : Int32)))).1) ?_
    refine XS.iconst X6.here hx rfl (hb hby d392) ?_
    refine XS.goto X6.here hx rfl (pc0 := 19) (pc' := 23) rfl (hb hby d393) (by decide) (by decide) ?_
    exact retN X6 hx (t := .boolean) hret (by simp) (hb hby d394) hr
def Q_hbLC2 (Z : State) (a_ : Addr) (b : Addr) (k : ClassId) (cs : Int32) (sf : Value) (c0 : Int32) (c1 : Int32) (h0 : Heap) (n0 : Nat) (v : Option Value) (h : Heap) (L : List Loc) : Prop := (v = some (.int 0)) ∧ (Fr n0 L) ∧ (h = h0)
theorem rm_hbLC2 (l : Launch) (Z : State) (a0 : Array Value) (hw : HW Z a0) (ws : List Jvm.Cond) (a_ : Addr) (b : Addr) (k : ClassId) (cs : Int32) (sf : Value) (c0 : Int32) (c1 : Int32) (h0 : Heap) (n0 : Nat) (Z0 : n0 ≤ h0.size) (P0 : Old Z n0 h0) (P1 : sta0 Z (.int cs)) (P2 : Exa Z h0 a_ "java/lang/String") (P3 : fld1 Z h0 a_ (.int 0)) (P4 : fld0 Z h0 a_ (.ref b)) (P5 : Arv Z h0 b k .byte (2 : Int32) [(.int (oB c0)), (.int (oB c1))] (.int 0)) (P6 : sta1 Z (.int 1)) (P7 : sta2 Z (.int 0)) (P8 : sta3 Z (.int 8)) (P9 : sta4 Z sf) (hcs : ¬ (cs = (0 : Int32))) (hsf : sf.isRef = true) (r0 : ¬ c0 < 0 ∧ ¬ (65535 : Int32) < c0) (r1 : ¬ c1 < 0 ∧ ¬ (65535 : Int32) < c1) (hl0 : ¬ ((255 : Int32) < c0)) (hl1 : ¬ ((255 : Int32) < c1)) (hA : (¬ (c0 = (10 : Int32)) ∧ ¬ (c1 = (10 : Int32)))) (hB : (¬ (c0 = (13 : Int32)) ∧ ¬ (c1 = (13 : Int32)))) :
    MF l Z m_30 prog_28_method_2_code 1 (some .boolean) ws (oR 8 0 0 140) #[(.ref a_)] h0 (Q_hbLC2 Z a_ b k cs sf c0 c1 h0 n0) := by
  refine own_body (cls := "com/example/branchward/branchward/Ids") (plainFor_of_name pn_7) rfl (fun p e s m below meth c s₁ hx hby hml hown hnm hret hZ X0 e0 => ?_)
  have N0 := Fr.nil n0
  have lt1 := own_l P2.lt
  have lt2 := own_l P3.lt
  have lt3 := own_l P4.lt
  have lt4 := own_l P5.lt
  obtain ⟨cq5, kq5, qa5, qb5, qc5⟩ := isOf hZ e0 P2
  obtain ⟨_, _, ⟨T5, L5, k5, n5⟩, -, X5, ⟨Lc5, hQ5, l5, y5, z5⟩, st5⟩ := X0.virtualBack hx (y := m_29) (z := m_29) hown (mvT hZ (w_30 hw)) (mvT hZ (w_31 hw)) (notFace_of_selects (args := #[]) (mvT hZ (w_33 hw))) (mvT hZ (w_33 hw)) (mvT hZ (w_32 hw)) (by decide) (backOf (W := 0) (rm_i1l2 l Z a0 hw [] c0 c1 ((10 : Int32)) b k a_ cs h0 n0 (by omega) P0 P1 P2 P3 P4 P5 hcs (by decide) (by decide) r0 r1 hl0 hl1) hZ (w_34 hw) (w_6 hw) (by decide) (by decide)) qa5 qc5 (g := (mkF m 3 #[vA a_] [(.int 10), (.ref a_)])) rfl (by rw [hml]; rfl) (Steps.refl _) (argsL := [(.int 10)]) (rest := []) (lenOf pd_0 rfl) rfl (Nat.le_of_eq rfl) (hb hby d390) (fun _ _ => ⟨rfl, e0, (by decide : 0 + 0 ≤ _), (by decide : 0 + 0 ≤ _)⟩)
  dsimp only [Pt.U, Pt.locs, Pt.cells, Pt.slots] at X5 l5 y5 z5 st5 hQ5
  rw [l5, y5, z5] at X5
  obtain ⟨x5_r, rfl, Nq5, Kq5, r5_0⟩ := hQ5
  have N5 := Fr.app N0 Nq5
  obtain ⟨cq6, kq6, qa6, qb6, qc6⟩ := isOf hZ Kq5 P2
  obtain ⟨_, _, ⟨T6, L6, k6, n6⟩, -, X6, ⟨Lc6, hQ6, l6, y6, z6⟩, st6⟩ := X5.virtualBack hx (y := m_29) (z := m_29) hown (mvT hZ (w_30 hw)) (mvT hZ (w_31 hw)) (notFace_of_selects (args := #[]) (mvT hZ (w_33 hw))) (mvT hZ (w_33 hw)) (mvT hZ (w_32 hw)) (by decide) (backOf (W := 0) (rm_i1l2 l Z a0 hw [] c0 c1 ((13 : Int32)) b k a_ cs h0 n0 (by omega) P0 P1 P2 P3 P4 P5 hcs (by decide) (by decide) r0 r1 hl0 hl1) hZ (w_34 hw) (w_6 hw) (by decide) (by decide)) qa6 qc6 (g := (mkF m 12 #[vA a_] [(.int 13), (.ref a_)])) rfl (by rw [hml]; rfl) (Steps.refl _) (argsL := [(.int 13)]) (rest := []) (lenOf pd_0 rfl) rfl (Nat.le_of_eq rfl) (hb hby d397) (fun _ _ => ⟨rfl, Kq5, (by decide : 0 + 0 ≤ _), (by decide : 0 + 0 ≤ _)⟩)
  dsimp only [Pt.U, Pt.locs, Pt.cells, Pt.slots] at X6 l6 y6 z6 st6 hQ6
  rw [l6, y6, z6] at X6
  obtain ⟨x6_r, rfl, Nq6, Kq6, r6_0⟩ := hQ6
  have N6 := Fr.app N5 Nq6
  refine ⟨_, _, _, _, some (.int 0), X6, by decide, by decide, nofun, ?_, fun fs hr => castTop (ef_12 m a_) ?_⟩
  · show Q_hbLC2 Z a_ b k cs sf c0 c1 h0 n0 _ T6.heap _
    rw [(Kq6 : T6.heap = h0)]
    exact ⟨rfl, N6, rfl⟩
  · show Steps _ _ _ (s₁.setTop (mkF m 0 #[vA a_] [])) _
    refine XS.aloadN X0.here hx rfl (hb hby d388) rfl rfl ?_
    refine XS.bipush X0.here hx rfl (hb hby d389) ?_
    refine st5.trans ?_
    show Steps _ _ _ (T5.setTop (mkF m 6 #[vA a_] [(.int x5_r)])) _
    refine XS.ifNo X5.here hx rfl (hb hby d391) rfl ((if0 _ _).trans (tlt ((r5_0.mpr hA) : x5_r < (0 : Int32))).2.1) ?_
    refine XS.aloadN X5.here hx rfl (hb hby d395) rfl rfl ?_
    refine XS.bipush X5.here hx rfl (hb hby d396) ?_
    refine st6.trans ?_
    show Steps _ _ _ (T6.setTop (mkF m 15 #[vA a_] [(.int x6_r)])) _
    refine XS.ifYes X6.here hx rfl (pc0 := 15) (pc' := 22) rfl (hb hby d398) rfl ((if0 _ _).trans (tlt ((r6_0.mpr hB) : x6_r < (0 : Int32))).1) (by decide) (by decide) ?_
    refine XS.iconst X6.here hx rfl (hb hby d399) ?_
    exact retN X6 hx (t := .boolean) hret (by simp) (hb hby d394) hr
def Q_hbUA2 (Z : State) (a_ : Addr) (b : Addr) (k : ClassId) (cs : Int32) (sf : Value) (c0 : Int32) (c1 : Int32) (h0 : Heap) (n0 : Nat) (v : Option Value) (h : Heap) (L : List Loc) : Prop := (v = some (.int 1)) ∧ (Fr n0 L) ∧ (h = h0)
theorem rm_hbUA2 (l : Launch) (Z : State) (a0 : Array Value) (hw : HW Z a0) (ws : List Jvm.Cond) (a_ : Addr) (b : Addr) (k : ClassId) (cs : Int32) (sf : Value) (c0 : Int32) (c1 : Int32) (h0 : Heap) (n0 : Nat) (Z0 : n0 ≤ h0.size) (P0 : Old Z n0 h0) (P1 : sta0 Z (.int cs)) (P2 : Exa Z h0 a_ "java/lang/String") (P3 : fld1 Z h0 a_ (.int 1)) (P4 : fld0 Z h0 a_ (.ref b)) (P5 : Arv Z h0 b k .byte (4 : Int32) [(.int (oL c0)), (.int (oH c0)), (.int (oL c1)), (.int (oH c1))] (.int 0)) (P6 : sta1 Z (.int 1)) (P7 : sta2 Z (.int 0)) (P8 : sta3 Z (.int 8)) (P9 : sta4 Z sf) (hcs : ¬ (cs = (0 : Int32))) (hsf : sf.isRef = true) (r0 : ¬ c0 < 0 ∧ ¬ (65535 : Int32) < c0) (r1 : ¬ c1 < 0 ∧ ¬ (65535 : Int32) < c1) (hA : ¬ (¬ (c0 = (10 : Int32)) ∧ ¬ (c1 = (10 : Int32)))) :
    MF l Z m_30 prog_28_method_2_code 1 (some .boolean) ws (oR 8 0 0 140) #[(.ref a_)] h0 (Q_hbUA2 Z a_ b k cs sf c0 c1 h0 n0) := by
  refine own_body (cls := "com/example/branchward/branchward/Ids") (plainFor_of_name pn_7) rfl (fun p e s m below meth c s₁ hx hby hml hown hnm hret hZ X0 e0 => ?_)
  have N0 := Fr.nil n0
  have lt1 := own_l P2.lt
  have lt2 := own_l P3.lt
  have lt3 := own_l P4.lt
  have lt4 := own_l P5.lt
  obtain ⟨cq5, kq5, qa5, qb5, qc5⟩ := isOf hZ e0 P2
  obtain ⟨_, _, ⟨T5, L5, k5, n5⟩, -, X5, ⟨Lc5, hQ5, l5, y5, z5⟩, st5⟩ := X0.virtualBack hx (y := m_29) (z := m_29) hown (mvT hZ (w_30 hw)) (mvT hZ (w_31 hw)) (notFace_of_selects (args := #[]) (mvT hZ (w_33 hw))) (mvT hZ (w_33 hw)) (mvT hZ (w_32 hw)) (by decide) (backOf (W := 0) (rm_i1u2 l Z a0 hw [] c0 c1 ((10 : Int32)) b k a_ cs sf h0 n0 (by omega) P0 P1 P2 P3 P4 P5 P6 P7 P8 P9 hcs hsf r0 r1 (by decide)) hZ (w_34 hw) (w_6 hw) (by decide) (by decide)) qa5 qc5 (g := (mkF m 3 #[vA a_] [(.int 10), (.ref a_)])) rfl (by rw [hml]; rfl) (Steps.refl _) (argsL := [(.int 10)]) (rest := []) (lenOf pd_0 rfl) rfl (Nat.le_of_eq rfl) (hb hby d390) (fun _ _ => ⟨rfl, e0, (by decide : 0 + 0 ≤ _), (by decide : 0 + 0 ≤ _)⟩)
  dsimp only [Pt.U, Pt.locs, Pt.cells, Pt.slots] at X5 l5 y5 z5 st5 hQ5
  rw [l5, y5, z5] at X5
  obtain ⟨x5_r, rfl, Nq5, Kq5, r5_0⟩ := hQ5
  have N5 := Fr.app N0 Nq5
  refine ⟨_, _, _, _, some (.int 1), X5, by decide, by decide, nofun, ?_, fun fs hr => castTop (ef_12 m a_) ?_⟩
  · show Q_hbUA2 Z a_ b k cs sf c0 c1 h0 n0 _ T5.heap _
    rw [(Kq5 : T5.heap = h0)]
    exact ⟨rfl, N5, rfl⟩
  · show Steps _ _ _ (s₁.setTop (mkF m 0 #[vA a_] [])) _
    refine XS.aloadN X0.here hx rfl (hb hby d388) rfl rfl ?_
    refine XS.bipush X0.here hx rfl (hb hby d389) ?_
    refine st5.trans ?_
    show Steps _ _ _ (T5.setTop (mkF m 6 #[vA a_] [(.int x5_r)])) _
    refine XS.ifYes X5.here hx rfl (pc0 := 6) (pc' := 18) rfl (hb hby d391) rfl ((if0 _ _).trans (flt ((fun q => hA (r5_0.mp q)) : ¬ (x5_r < (0 : Int32)))).2.1) (by decide) (by decide) ?_
    refine XS.iconst X5.here hx rfl (hb hby d392) ?_
    refine XS.goto X5.here hx rfl (pc0 := 19) (pc' := 23) rfl (hb hby d393) (by decide) (by decide) ?_
    exact retN X5 hx (t := .boolean) hret (by simp) (hb hby d394) hr
def Q_hbUB2 (Z : State) (a_ : Addr) (b : Addr) (k : ClassId) (cs : Int32) (sf : Value) (c0 : Int32) (c1 : Int32) (h0 : Heap) (n0 : Nat) (v : Option Value) (h : Heap) (L : List Loc) : Prop := (v = some (.int 1)) ∧ (Fr n0 L) ∧ (h = h0)
theorem rm_hbUB2 (l : Launch) (Z : State) (a0 : Array Value) (hw : HW Z a0) (ws : List Jvm.Cond) (a_ : Addr) (b : Addr) (k : ClassId) (cs : Int32) (sf : Value) (c0 : Int32) (c1 : Int32) (h0 : Heap) (n0 : Nat) (Z0 : n0 ≤ h0.size) (P0 : Old Z n0 h0) (P1 : sta0 Z (.int cs)) (P2 : Exa Z h0 a_ "java/lang/String") (P3 : fld1 Z h0 a_ (.int 1)) (P4 : fld0 Z h0 a_ (.ref b)) (P5 : Arv Z h0 b k .byte (4 : Int32) [(.int (oL c0)), (.int (oH c0)), (.int (oL c1)), (.int (oH c1))] (.int 0)) (P6 : sta1 Z (.int 1)) (P7 : sta2 Z (.int 0)) (P8 : sta3 Z (.int 8)) (P9 : sta4 Z sf) (hcs : ¬ (cs = (0 : Int32))) (hsf : sf.isRef = true) (r0 : ¬ c0 < 0 ∧ ¬ (65535 : Int32) < c0) (r1 : ¬ c1 < 0 ∧ ¬ (65535 : Int32) < c1) (hA : (¬ (c0 = (10 : Int32)) ∧ ¬ (c1 = (10 : Int32)))) (hB : ¬ (¬ (c0 = (13 : Int32)) ∧ ¬ (c1 = (13 : Int32)))) :
    MF l Z m_30 prog_28_method_2_code 1 (some .boolean) ws (oR 8 0 0 140) #[(.ref a_)] h0 (Q_hbUB2 Z a_ b k cs sf c0 c1 h0 n0) := by
  refine own_body (cls := "com/example/branchward/branchward/Ids") (plainFor_of_name pn_7) rfl (fun p e s m below meth c s₁ hx hby hml hown hnm hret hZ X0 e0 => ?_)
  have N0 := Fr.nil n0
  have lt1 := own_l P2.lt
  have lt2 := own_l P3.lt
  have lt3 := own_l P4.lt
  have lt4 := own_l P5.lt
  obtain ⟨cq5, kq5, qa5, qb5, qc5⟩ := isOf hZ e0 P2
  obtain ⟨_, _, ⟨T5, L5, k5, n5⟩, -, X5, ⟨Lc5, hQ5, l5, y5, z5⟩, st5⟩ := X0.virtualBack hx (y := m_29) (z := m_29) hown (mvT hZ (w_30 hw)) (mvT hZ (w_31 hw)) (notFace_of_selects (args := #[]) (mvT hZ (w_33 hw))) (mvT hZ (w_33 hw)) (mvT hZ (w_32 hw)) (by decide) (backOf (W := 0) (rm_i1u2 l Z a0 hw [] c0 c1 ((10 : Int32)) b k a_ cs sf h0 n0 (by omega) P0 P1 P2 P3 P4 P5 P6 P7 P8 P9 hcs hsf r0 r1 (by decide)) hZ (w_34 hw) (w_6 hw) (by decide) (by decide)) qa5 qc5 (g := (mkF m 3 #[vA a_] [(.int 10), (.ref a_)])) rfl (by rw [hml]; rfl) (Steps.refl _) (argsL := [(.int 10)]) (rest := []) (lenOf pd_0 rfl) rfl (Nat.le_of_eq rfl) (hb hby d390) (fun _ _ => ⟨rfl, e0, (by decide : 0 + 0 ≤ _), (by decide : 0 + 0 ≤ _)⟩)
  dsimp only [Pt.U, Pt.locs, Pt.cells, Pt.slots] at X5 l5 y5 z5 st5 hQ5
  rw [l5, y5, z5] at X5
  obtain ⟨x5_r, rfl, Nq5, Kq5, r5_0⟩ := hQ5
  have N5 := Fr.app N0 Nq5
  obtain ⟨cq6, kq6, qa6, qb6, qc6⟩ := isOf hZ Kq5 P2
  obtain ⟨_, _, ⟨T6, L6, k6, n6⟩, -, X6, ⟨Lc6, hQ6, l6, y6, z6⟩, st6⟩ := X5.virtualBack hx (y := m_29) (z := m_29) hown (mvT hZ (w_30 hw)) (mvT hZ (w_31 hw)) (notFace_of_selects (args := #[]) (mvT hZ (w_33 hw))) (mvT hZ (w_33 hw)) (mvT hZ (w_32 hw)) (by decide) (backOf (W := 0) (rm_i1u2 l Z a0 hw [] c0 c1 ((13 : Int32)) b k a_ cs sf h0 n0 (by omega) P0 P1 P2 P3 P4 P5 P6 P7 P8 P9 hcs hsf r0 r1 (by decide)) hZ (w_34 hw) (w_6 hw) (by decide) (by decide)) qa6 qc6 (g := (mkF m 12 #[vA a_] [(.int 13), (.ref a_)])) rfl (by rw [hml]; rfl) (Steps.refl _) (argsL := [(.int 13)]) (rest := []) (lenOf pd_0 rfl) rfl (Nat.le_of_eq rfl) (hb hby d397) (fun _ _ => ⟨rfl, Kq5, (by decide : 0 + 0 ≤ _), (by decide : 0 + 0 ≤ _)⟩)
  dsimp only [Pt.U, Pt.locs, Pt.cells, Pt.slots] at X6 l6 y6 z6 st6 hQ6
  rw [l6, y6, z6] at X6
  obtain ⟨x6_r, rfl, Nq6, Kq6, r6_0⟩ := hQ6
  have N6 := Fr.app N5 Nq6
  refine ⟨_, _, _, _, some (.int 1), X6, by decide, by decide, nofun, ?_, fun fs hr => castTop (ef_12 m a_) ?_⟩
  · show Q_hbUB2 Z a_ b k cs sf c0 c1 h0 n0 _ T6.heap _
    rw [(Kq6 : T6.heap = h0)]
    exact ⟨rfl, N6, rfl⟩
  · show Steps _ _ _ (s₁.setTop (mkF m 0 #[vA a_] [])) _
    refine XS.aloadN X0.here hx rfl (hb hby d388) rfl rfl ?_
    refine XS.bipush X0.here hx rfl (hb hby d389) ?_
    refine st5.trans ?_
    show Steps _ _ _ (T5.setTop (mkF m 6 #[vA a_] [(.int x5_r)])) _
    refine XS.ifNo X5.here hx rfl (hb hby d391) rfl ((if0 _ _).trans (tlt ((r5_0.mpr hA) : x5_r < (0 : Int32))).2.1) ?_
    refine XS.aloadN X5.here hx rfl (hb hby d395) rfl rfl ?_
    refine XS.bipush X5.here hx rfl (hb hby d396) ?_
    refine st6.trans ?_
    show Steps _ _ _ (T6.setTop (mkF m 15 #[vA a_] [(.int x6_r)])) _
    refine XS.ifNo X6.here hx rfl (hb hby d398) rfl ((if0 _ _).trans (flt ((fun q => hB (r6_0.mp q)) : ¬ (x6_r < (0 : Int32)))).1) ?_
    refine XS.iconst X6.here hx rfl (hb hby d392) ?_
    refine XS.goto X6.here hx rfl (pc0 := 19) (pc' := 23) rfl (hb hby d393) (by decide) (by decide) ?_
    exact retN X6 hx (t := .boolean) hret (by simp) (hb hby d394) hr
def Q_hbUC2 (Z : State) (a_ : Addr) (b : Addr) (k : ClassId) (cs : Int32) (sf : Value) (c0 : Int32) (c1 : Int32) (h0 : Heap) (n0 : Nat) (v : Option Value) (h : Heap) (L : List Loc) : Prop := (v = some (.int 0)) ∧ (Fr n0 L) ∧ (h = h0)
theorem rm_hbUC2 (l : Launch) (Z : State) (a0 : Array Value) (hw : HW Z a0) (ws : List Jvm.Cond) (a_ : Addr) (b : Addr) (k : ClassId) (cs : Int32) (sf : Value) (c0 : Int32) (c1 : Int32) (h0 : Heap) (n0 : Nat) (Z0 : n0 ≤ h0.size) (P0 : Old Z n0 h0) (P1 : sta0 Z (.int cs)) (P2 : Exa Z h0 a_ "java/lang/String") (P3 : fld1 Z h0 a_ (.int 1)) (P4 : fld0 Z h0 a_ (.ref b)) (P5 : Arv Z h0 b k .byte (4 : Int32) [(.int (oL c0)), (.int (oH c0)), (.int (oL c1)), (.int (oH c1))] (.int 0)) (P6 : sta1 Z (.int 1)) (P7 : sta2 Z (.int 0)) (P8 : sta3 Z (.int 8)) (P9 : sta4 Z sf) (hcs : ¬ (cs = (0 : Int32))) (hsf : sf.isRef = true) (r0 : ¬ c0 < 0 ∧ ¬ (65535 : Int32) < c0) (r1 : ¬ c1 < 0 ∧ ¬ (65535 : Int32) < c1) (hA : (¬ (c0 = (10 : Int32)) ∧ ¬ (c1 = (10 : Int32)))) (hB : (¬ (c0 = (13 : Int32)) ∧ ¬ (c1 = (13 : Int32)))) :
    MF l Z m_30 prog_28_method_2_code 1 (some .boolean) ws (oR 8 0 0 140) #[(.ref a_)] h0 (Q_hbUC2 Z a_ b k cs sf c0 c1 h0 n0) := by
  refine own_body (cls := "com/example/branchward/branchward/Ids") (plainFor_of_name pn_7) rfl (fun p e s m below meth c s₁ hx hby hml hown hnm hret hZ X0 e0 => ?_)
  have N0 := Fr.nil n0
  have lt1 := own_l P2.lt
  have lt2 := own_l P3.lt
  have lt3 := own_l P4.lt
  have lt4 := own_l P5.lt
  obtain ⟨cq5, kq5, qa5, qb5, qc5⟩ := isOf hZ e0 P2
  obtain ⟨_, _, ⟨T5, L5, k5, n5⟩, -, X5, ⟨Lc5, hQ5, l5, y5, z5⟩, st5⟩ := X0.virtualBack hx (y := m_29) (z := m_29) hown (mvT hZ (w_30 hw)) (mvT hZ (w_31 hw)) (notFace_of_selects (args := #[]) (mvT hZ (w_33 hw))) (mvT hZ (w_33 hw)) (mvT hZ (w_32 hw)) (by decide) (backOf (W := 0) (rm_i1u2 l Z a0 hw [] c0 c1 ((10 : Int32)) b k a_ cs sf h0 n0 (by omega) P0 P1 P2 P3 P4 P5 P6 P7 P8 P9 hcs hsf r0 r1 (by decide)) hZ (w_34 hw) (w_6 hw) (by decide) (by decide)) qa5 qc5 (g := (mkF m 3 #[vA a_] [(.int 10), (.ref a_)])) rfl (by rw [hml]; rfl) (Steps.refl _) (argsL := [(.int 10)]) (rest := []) (lenOf pd_0 rfl) rfl (Nat.le_of_eq rfl) (hb hby d390) (fun _ _ => ⟨rfl, e0, (by decide : 0 + 0 ≤ _), (by decide : 0 + 0 ≤ _)⟩)
  dsimp only [Pt.U, Pt.locs, Pt.cells, Pt.slots] at X5 l5 y5 z5 st5 hQ5
  rw [l5, y5, z5] at X5
  obtain ⟨x5_r, rfl, Nq5, Kq5, r5_0⟩ := hQ5
  have N5 := Fr.app N0 Nq5
  obtain ⟨cq6, kq6, qa6, qb6, qc6⟩ := isOf hZ Kq5 P2
  obtain ⟨_, _, ⟨T6, L6, k6, n6⟩, -, X6, ⟨Lc6, hQ6, l6, y6, z6⟩, st6⟩ := X5.virtualBack hx (y := m_29) (z := m_29) hown (mvT hZ (w_30 hw)) (mvT hZ (w_31 hw)) (notFace_of_selects (args := #[]) (mvT hZ (w_33 hw))) (mvT hZ (w_33 hw)) (mvT hZ (w_32 hw)) (by decide) (backOf (W := 0) (rm_i1u2 l Z a0 hw [] c0 c1 ((13 : Int32)) b k a_ cs sf h0 n0 (by omega) P0 P1 P2 P3 P4 P5 P6 P7 P8 P9 hcs hsf r0 r1 (by decide)) hZ (w_34 hw) (w_6 hw) (by decide) (by decide)) qa6 qc6 (g := (mkF m 12 #[vA a_] [(.int 13), (.ref a_)])) rfl (by rw [hml]; rfl) (Steps.refl _) (argsL := [(.int 13)]) (rest := []) (lenOf pd_0 rfl) rfl (Nat.le_of_eq rfl) (hb hby d397) (fun _ _ => ⟨rfl, Kq5, (by decide : 0 + 0 ≤ _), (by decide : 0 + 0 ≤ _)⟩)
  dsimp only [Pt.U, Pt.locs, Pt.cells, Pt.slots] at X6 l6 y6 z6 st6 hQ6
  rw [l6, y6, z6] at X6
  obtain ⟨x6_r, rfl, Nq6, Kq6, r6_0⟩ := hQ6
  have N6 := Fr.app N5 Nq6
  refine ⟨_, _, _, _, some (.int 0), X6, by decide, by decide, nofun, ?_, fun fs hr => castTop (ef_12 m a_) ?_⟩
  · show Q_hbUC2 Z a_ b k cs sf c0 c1 h0 n0 _ T6.heap _
    rw [(Kq6 : T6.heap = h0)]
    exact ⟨rfl, N6, rfl⟩
  · show Steps _ _ _ (s₁.setTop (mkF m 0 #[vA a_] [])) _
    refine XS.aloadN X0.here hx rfl (hb hby d388) rfl rfl ?_
    refine XS.bipush X0.here hx rfl (hb hby d389) ?_
    refine st5.trans ?_
    show Steps _ _ _ (T5.setTop (mkF m 6 #[vA a_] [(.int x5_r)])) _
    refine XS.ifNo X5.here hx rfl (hb hby d391) rfl ((if0 _ _).trans (tlt ((r5_0.mpr hA) : x5_r < (0 : Int32))).2.1) ?_
    refine XS.aloadN X5.here hx rfl (hb hby d395) rfl rfl ?_
    refine XS.bipush X5.here hx rfl (hb hby d396) ?_
    refine st6.trans ?_
    show Steps _ _ _ (T6.setTop (mkF m 15 #[vA a_] [(.int x6_r)])) _
    refine XS.ifYes X6.here hx rfl (pc0 := 15) (pc' := 22) rfl (hb hby d398) rfl ((if0 _ _).trans (tlt ((r6_0.mpr hB) : x6_r < (0 : Int32))).1) (by decide) (by decide) ?_
    refine XS.iconst X6.here hx rfl (hb hby d399) ?_
    exact retN X6 hx (t := .boolean) hret (by simp) (hb hby d394) hr
def Q_hbA2 (Z : State) (a_ : Addr) (cs : Int32) (sf : Value) (c0 : Int32) (c1 : Int32) (h0 : Heap) (n0 : Nat) (v : Option Value) (h : Heap) (L : List Loc) : Prop := (v = some (.int 1)) ∧ (Fr n0 L) ∧ (h = h0)
theorem rm_hbA2 (l : Launch) (Z : State) (a0 : Array Value) (hw : HW Z a0) (ws : List Jvm.Cond) (a_ : Addr) (cs : Int32) (sf : Value) (c0 : Int32) (c1 : Int32) (h0 : Heap) (n0 : Nat) (Z0 : n0 ≤ h0.size) (P0 : Old Z n0 h0) (P1 : sta0 Z (.int cs)) (P2 : Exa Z h0 a_ "java/lang/String") (P3 : sta1 Z (.int 1)) (P4 : sta2 Z (.int 0)) (P5 : sta3 Z (.int 8)) (P6 : sta4 Z sf) (P7 : (SL Z h0 a_ [c0, c1] ∨ SU Z h0 a_ [c0, c1])) (hcs : ¬ (cs = (0 : Int32))) (hsf : sf.isRef = true) (r0 : ¬ c0 < 0 ∧ ¬ (65535 : Int32) < c0) (r1 : ¬ c1 < 0 ∧ ¬ (65535 : Int32) < c1) (hA : ¬ (¬ (c0 = (10 : Int32)) ∧ ¬ (c1 = (10 : Int32)))) :
    MF l Z m_30 prog_28_method_2_code 1 (some .boolean) ws (oR 8 0 0 140) #[(.ref a_)] h0 (Q_hbA2 Z a_ cs sf c0 c1 h0 n0) := by
  rcases P7 with ⟨t, kb, fv, fc, hl, ar⟩ | ⟨t, kb, fv, fc, ar⟩
  · exact rm_hbLA2 l Z a0 hw ws a_ t kb cs sf c0 c1 h0 n0 Z0 P0 P1 P2 fc fv ar P3 P4 P5 P6 hcs hsf r0 r1 (hl _ (List.mem_of_getElem? (i := 0) rfl)) (hl _ (List.mem_of_getElem? (i := 1) rfl)) hA
  · exact rm_hbUA2 l Z a0 hw ws a_ t kb cs sf c0 c1 h0 n0 Z0 P0 P1 P2 fc fv ar P3 P4 P5 P6 hcs hsf r0 r1 hA
def Q_hbB2 (Z : State) (a_ : Addr) (cs : Int32) (sf : Value) (c0 : Int32) (c1 : Int32) (h0 : Heap) (n0 : Nat) (v : Option Value) (h : Heap) (L : List Loc) : Prop := (v = some (.int 1)) ∧ (Fr n0 L) ∧ (h = h0)
theorem rm_hbB2 (l : Launch) (Z : State) (a0 : Array Value) (hw : HW Z a0) (ws : List Jvm.Cond) (a_ : Addr) (cs : Int32) (sf : Value) (c0 : Int32) (c1 : Int32) (h0 : Heap) (n0 : Nat) (Z0 : n0 ≤ h0.size) (P0 : Old Z n0 h0) (P1 : sta0 Z (.int cs)) (P2 : Exa Z h0 a_ "java/lang/String") (P3 : sta1 Z (.int 1)) (P4 : sta2 Z (.int 0)) (P5 : sta3 Z (.int 8)) (P6 : sta4 Z sf) (P7 : (SL Z h0 a_ [c0, c1] ∨ SU Z h0 a_ [c0, c1])) (hcs : ¬ (cs = (0 : Int32))) (hsf : sf.isRef = true) (r0 : ¬ c0 < 0 ∧ ¬ (65535 : Int32) < c0) (r1 : ¬ c1 < 0 ∧ ¬ (65535 : Int32) < c1) (hA : (¬ (c0 = (10 : Int32)) ∧ ¬ (c1 = (10 : Int32)))) (hB : ¬ (¬ (c0 = (13 : Int32)) ∧ ¬ (c1 = (13 : Int32)))) :
    MF l Z m_30 prog_28_method_2_code 1 (some .boolean) ws (oR 8 0 0 140) #[(.ref a_)] h0 (Q_hbB2 Z a_ cs sf c0 c1 h0 n0) := by
  rcases P7 with ⟨t, kb, fv, fc, hl, ar⟩ | ⟨t, kb, fv, fc, ar⟩
  · exact rm_hbLB2 l Z a0 hw ws a_ t kb cs sf c0 c1 h0 n0 Z0 P0 P1 P2 fc fv ar P3 P4 P5 P6 hcs hsf r0 r1 (hl _ (List.mem_of_getElem? (i := 0) rfl)) (hl _ (List.mem_of_getElem? (i := 1) rfl)) hA hB
  · exact rm_hbUB2 l Z a0 hw ws a_ t kb cs sf c0 c1 h0 n0 Z0 P0 P1 P2 fc fv ar P3 P4 P5 P6 hcs hsf r0 r1 hA hB
def Q_hbC2 (Z : State) (a_ : Addr) (cs : Int32) (sf : Value) (c0 : Int32) (c1 : Int32) (h0 : Heap) (n0 : Nat) (v : Option Value) (h : Heap) (L : List Loc) : Prop := (v = some (.int 0)) ∧ (Fr n0 L) ∧ (h = h0)
theorem rm_hbC2 (l : Launch) (Z : State) (a0 : Array Value) (hw : HW Z a0) (ws : List Jvm.Cond) (a_ : Addr) (cs : Int32) (sf : Value) (c0 : Int32) (c1 : Int32) (h0 : Heap) (n0 : Nat) (Z0 : n0 ≤ h0.size) (P0 : Old Z n0 h0) (P1 : sta0 Z (.int cs)) (P2 : Exa Z h0 a_ "java/lang/String") (P3 : sta1 Z (.int 1)) (P4 : sta2 Z (.int 0)) (P5 : sta3 Z (.int 8)) (P6 : sta4 Z sf) (P7 : (SL Z h0 a_ [c0, c1] ∨ SU Z h0 a_ [c0, c1])) (hcs : ¬ (cs = (0 : Int32))) (hsf : sf.isRef = true) (r0 : ¬ c0 < 0 ∧ ¬ (65535 : Int32) < c0) (r1 : ¬ c1 < 0 ∧ ¬ (65535 : Int32) < c1) (hA : (¬ (c0 = (10 : Int32)) ∧ ¬ (c1 = (10 : Int32)))) (hB : (¬ (c0 = (13 : Int32)) ∧ ¬ (c1 = (13 : Int32)))) :
    MF l Z m_30 prog_28_method_2_code 1 (some .boolean) ws (oR 8 0 0 140) #[(.ref a_)] h0 (Q_hbC2 Z a_ cs sf c0 c1 h0 n0) := by
  rcases P7 with ⟨t, kb, fv, fc, hl, ar⟩ | ⟨t, kb, fv, fc, ar⟩
  · exact rm_hbLC2 l Z a0 hw ws a_ t kb cs sf c0 c1 h0 n0 Z0 P0 P1 P2 fc fv ar P3 P4 P5 P6 hcs hsf r0 r1 (hl _ (List.mem_of_getElem? (i := 0) rfl)) (hl _ (List.mem_of_getElem? (i := 1) rfl)) hA hB
  · exact rm_hbUC2 l Z a0 hw ws a_ t kb cs sf c0 c1 h0 n0 Z0 P0 P1 P2 fc fv ar P3 P4 P5 P6 hcs hsf r0 r1 hA hB
def Q_hbLA3 (Z : State) (a_ : Addr) (b : Addr) (k : ClassId) (cs : Int32) (sf : Value) (c0 : Int32) (c1 : Int32) (c2 : Int32) (h0 : Heap) (n0 : Nat) (v : Option Value) (h : Heap) (L : List Loc) : Prop := (v = some (.int 1)) ∧ (Fr n0 L) ∧ (h = h0)
theorem rm_hbLA3 (l : Launch) (Z : State) (a0 : Array Value) (hw : HW Z a0) (ws : List Jvm.Cond) (a_ : Addr) (b : Addr) (k : ClassId) (cs : Int32) (sf : Value) (c0 : Int32) (c1 : Int32) (c2 : Int32) (h0 : Heap) (n0 : Nat) (Z0 : n0 ≤ h0.size) (P0 : Old Z n0 h0) (P1 : sta0 Z (.int cs)) (P2 : Exa Z h0 a_ "java/lang/String") (P3 : fld1 Z h0 a_ (.int 0)) (P4 : fld0 Z h0 a_ (.ref b)) (P5 : Arv Z h0 b k .byte (3 : Int32) [(.int (oB c0)), (.int (oB c1)), (.int (oB c2))] (.int 0)) (P6 : sta1 Z (.int 1)) (P7 : sta2 Z (.int 0)) (P8 : sta3 Z (.int 8)) (P9 : sta4 Z sf) (hcs : ¬ (cs = (0 : Int32))) (hsf : sf.isRef = true) (r0 : ¬ c0 < 0 ∧ ¬ (65535 : Int32) < c0) (r1 : ¬ c1 < 0 ∧ ¬ (65535 : Int32) < c1) (r2 : ¬ c2 < 0 ∧ ¬ (65535 : Int32) < c2) (hl0 : ¬ ((255 : Int32) < c0)) (hl1 : ¬ ((255 : Int32) < c1)) (hl2 : ¬ ((255 : Int32) < c2)) (hA : ¬ (¬ (c0 = (10 : Int32)) ∧ ¬ (c1 = (10 : Int32)) ∧ ¬ (c2 = (10 : Int32)))) :
    MF l Z m_30 prog_28_method_2_code 1 (some .boolean) ws (oR 8 0 0 140) #[(.ref a_)] h0 (Q_hbLA3 Z a_ b k cs sf c0 c1 c2 h0 n0) := by
  refine own_body (cls := "com/example/branchward/branchward/Ids") (plainFor_of_name pn_7) rfl (fun p e s m below meth c s₁ hx hby hml hown hnm hret hZ X0 e0 => ?_)
  have N0 := Fr.nil n0
  have lt1 := own_l P2.lt
  have lt2 := own_l P3.lt
  have lt3 := own_l P4.lt
  have lt4 := own_l P5.lt
  obtain ⟨cq5, kq5, qa5, qb5, qc5⟩ := isOf hZ e0 P2
  obtain ⟨_, _, ⟨T5, L5, k5, n5⟩, -, X5, ⟨Lc5, hQ5, l5, y5, z5⟩, st5⟩ := X0.virtualBack hx (y := m_29) (z := m_29) hown (mvT hZ (w_30 hw)) (mvT hZ (w_31 hw)) (notFace_of_selects (args := #[]) (mvT hZ (w_33 hw))) (mvT hZ (w_33 hw)) (mvT hZ (w_32 hw)) (by decide) (backOf (W := 0) (rm_i1l3 l Z a0 hw [] c0 c1 c2 ((10 : Int32)) b k a_ cs h0 n0 (by omega) P0 P1 P2 P3 P4 P5 hcs (by decide) (by decide) r0 r1 r2 hl0 hl1 hl2) hZ (w_34 hw) (w_6 hw) (by decide) (by decide)) qa5 qc5 (g := (mkF m 3 #[vA a_] [(.int 10), (.ref a_)])) rfl (by rw [hml]; rfl) (Steps.refl _) (argsL := [(.int 10)]) (rest := []) (lenOf pd_0 rfl) rfl (Nat.le_of_eq rfl) (hb hby d390) (fun _ _ => ⟨rfl, e0, (by decide : 0 + 0 ≤ _), (by decide : 0 + 0 ≤ _)⟩)
  dsimp only [Pt.U, Pt.locs, Pt.cells, Pt.slots] at X5 l5 y5 z5 st5 hQ5
  rw [l5, y5, z5] at X5
  obtain ⟨x5_r, rfl, Nq5, Kq5, r5_0⟩ := hQ5
  have N5 := Fr.app N0 Nq5
  refine ⟨_, _, _, _, some (.int 1), X5, by decide, by decide, nofun, ?_, fun fs hr => castTop (ef_12 m a_) ?_⟩
  · show Q_hbLA3 Z a_ b k cs sf c0 c1 c2 h0 n0 _ T5.heap _
    rw [(Kq5 : T5.heap = h0)]
    exact ⟨rfl, N5, rfl⟩
  · show Steps _ _ _ (s₁.setTop (mkF m 0 #[vA a_] [])) _
    refine XS.aloadN X0.here hx rfl (hb hby d388) rfl rfl ?_
    refine XS.bipush X0.here hx rfl (hb hby d389) ?_
    refine st5.trans ?_
    show Steps _ _ _ (T5.setTop (mkF m 6 #[vA a_] [(.int x5_r)])) _
    refine XS.ifYes X5.here hx rfl (pc0 := 6) (pc' := 18) rfl (hb hby d391) rfl ((if0 _ _).trans (flt ((fun q => hA (r5_0.mp q)) : ¬ (x5_r < (0 : Int32)))).2.1) (by decide) (by decide) ?_
    refine XS.iconst X5.here hx rfl (hb hby d392) ?_
    refine XS.goto X5.here hx rfl (pc0 := 19) (pc' := 23) rfl (hb hby d393) (by decide) (by decide) ?_
    exact retN X5 hx (t := .boolean) hret (by simp) (hb hby d394) hr
def Q_hbLB3 (Z : State) (a_ : Addr) (b : Addr) (k : ClassId) (cs : Int32) (sf : Value) (c0 : Int32) (c1 : Int32) (c2 : Int32) (h0 : Heap) (n0 : Nat) (v : Option Value) (h : Heap) (L : List Loc) : Prop := (v = some (.int 1)) ∧ (Fr n0 L) ∧ (h = h0)
theorem rm_hbLB3 (l : Launch) (Z : State) (a0 : Array Value) (hw : HW Z a0) (ws : List Jvm.Cond) (a_ : Addr) (b : Addr) (k : ClassId) (cs : Int32) (sf : Value) (c0 : Int32) (c1 : Int32) (c2 : Int32) (h0 : Heap) (n0 : Nat) (Z0 : n0 ≤ h0.size) (P0 : Old Z n0 h0) (P1 : sta0 Z (.int cs)) (P2 : Exa Z h0 a_ "java/lang/String") (P3 : fld1 Z h0 a_ (.int 0)) (P4 : fld0 Z h0 a_ (.ref b)) (P5 : Arv Z h0 b k .byte (3 : Int32) [(.int (oB c0)), (.int (oB c1)), (.int (oB c2))] (.int 0)) (P6 : sta1 Z (.int 1)) (P7 : sta2 Z (.int 0)) (P8 : sta3 Z (.int 8)) (P9 : sta4 Z sf) (hcs : ¬ (cs = (0 : Int32))) (hsf : sf.isRef = true) (r0 : ¬ c0 < 0 ∧ ¬ (65535 : Int32) < c0) (r1 : ¬ c1 < 0 ∧ ¬ (65535 : Int32) < c1) (r2 : ¬ c2 < 0 ∧ ¬ (65535 : Int32) < c2) (hl0 : ¬ ((255 : Int32) < c0)) (hl1 : ¬ ((255 : Int32) < c1)) (hl2 : ¬ ((255 : Int32) < c2)) (hA : (¬ (c0 = (10 : Int32)) ∧ ¬ (c1 = (10 : Int32)) ∧ ¬ (c2 = (10 : Int32)))) (hB : ¬ (¬ (c0 = (13 : Int32)) ∧ ¬ (c1 = (13 : Int32)) ∧ ¬ (c2 = (13 : Int32)))) :
    MF l Z m_30 prog_28_method_2_code 1 (some .boolean) ws (oR 8 0 0 140) #[(.ref a_)] h0 (Q_hbLB3 Z a_ b k cs sf c0 c1 c2 h0 n0) := by
  refine own_body (cls := "com/example/branchward/branchward/Ids") (plainFor_of_name pn_7) rfl (fun p e s m below meth c s₁ hx hby hml hown hnm hret hZ X0 e0 => ?_)
  have N0 := Fr.nil n0
  have lt1 := own_l P2.lt
  have lt2 := own_l P3.lt
  have lt3 := own_l P4.lt
  have lt4 := own_l P5.lt
  obtain ⟨cq5, kq5, qa5, qb5, qc5⟩ := isOf hZ e0 P2
  obtain ⟨_, _, ⟨T5, L5, k5, n5⟩, -, X5, ⟨Lc5, hQ5, l5, y5, z5⟩, st5⟩ := X0.virtualBack hx (y := m_29) (z := m_29) hown (mvT hZ (w_30 hw)) (mvT hZ (w_31 hw)) (notFace_of_selects (args := #[]) (mvT hZ (w_33 hw))) (mvT hZ (w_33 hw)) (mvT hZ (w_32 hw)) (by decide) (backOf (W := 0) (rm_i1l3 l Z a0 hw [] c0 c1 c2 ((10 : Int32)) b k a_ cs h0 n0 (by omega) P0 P1 P2 P3 P4 P5 hcs (by decide) (by decide) r0 r1 r2 hl0 hl1 hl2) hZ (w_34 hw) (w_6 hw) (by decide) (by decide)) qa5 qc5 (g := (mkF m 3 #[vA a_] [(.int 10), (.ref a_)])) rfl (by rw [hml]; rfl) (Steps.refl _) (argsL := [(.int 10)]) (rest := []) (lenOf pd_0 rfl) rfl (Nat.le_of_eq rfl) (hb hby d390) (fun _ _ => ⟨rfl, e0, (by decide : 0 + 0 ≤ _), (by decide : 0 + 0 ≤ _)⟩)
  dsimp only [Pt.U, Pt.locs, Pt.cells, Pt.slots] at X5 l5 y5 z5 st5 hQ5
  rw [l5, y5, z5] at X5
  obtain ⟨x5_r, rfl, Nq5, Kq5, r5_0⟩ := hQ5
  have N5 := Fr.app N0 Nq5
  obtain ⟨cq6, kq6, qa6, qb6, qc6⟩ := isOf hZ Kq5 P2
  obtain ⟨_, _, ⟨T6, L6, k6, n6⟩, -, X6, ⟨Lc6, hQ6, l6, y6, z6⟩, st6⟩ := X5.virtualBack hx (y := m_29) (z := m_29) hown (mvT hZ (w_30 hw)) (mvT hZ (w_31 hw)) (notFace_of_selects (args := #[]) (mvT hZ (w_33 hw))) (mvT hZ (w_33 hw)) (mvT hZ (w_32 hw)) (by decide) (backOf (W := 0) (rm_i1l3 l Z a0 hw [] c0 c1 c2 ((13 : Int32)) b k a_ cs h0 n0 (by omega) P0 P1 P2 P3 P4 P5 hcs (by decide) (by decide) r0 r1 r2 hl0 hl1 hl2) hZ (w_34 hw) (w_6 hw) (by decide) (by decide)) qa6 qc6 (g := (mkF m 12 #[vA a_] [(.int 13), (.ref a_)])) rfl (by rw [hml]; rfl) (Steps.refl _) (argsL := [(.int 13)]) (rest := []) (lenOf pd_0 rfl) rfl (Nat.le_of_eq rfl) (hb hby d397) (fun _ _ => ⟨rfl, Kq5, (by decide : 0 + 0 ≤ _), (by decide : 0 + 0 ≤ _)⟩)
  dsimp only [Pt.U, Pt.locs, Pt.cells, Pt.slots] at X6 l6 y6 z6 st6 hQ6
  rw [l6, y6, z6] at X6
  obtain ⟨x6_r, rfl, Nq6, Kq6, r6_0⟩ := hQ6
  have N6 := Fr.app N5 Nq6
  refine ⟨_, _, _, _, some (.int 1), X6, by decide, by decide, nofun, ?_, fun fs hr => castTop (ef_12 m a_) ?_⟩
  · show Q_hbLB3 Z a_ b k cs sf c0 c1 c2 h0 n0 _ T6.heap _
    rw [(Kq6 : T6.heap = h0)]
    exact ⟨rfl, N6, rfl⟩
  · show Steps _ _ _ (s₁.setTop (mkF m 0 #[vA a_] [])) _
    refine XS.aloadN X0.here hx rfl (hb hby d388) rfl rfl ?_
    refine XS.bipush X0.here hx rfl (hb hby d389) ?_
    refine st5.trans ?_
    show Steps _ _ _ (T5.setTop (mkF m 6 #[vA a_] [(.int x5_r)])) _
    refine XS.ifNo X5.here hx rfl (hb hby d391) rfl ((if0 _ _).trans (tlt ((r5_0.mpr hA) : x5_r < (0 : Int32))).2.1) ?_
    refine XS.aloadN X5.here hx rfl (hb hby d395) rfl rfl ?_
    refine XS.bipush X5.here hx rfl (hb hby d396) ?_
    refine st6.trans ?_
    show Steps _ _ _ (T6.setTop (mkF m 15 #[vA a_] [(.int x6_r)])) _
    refine XS.ifNo X6.here hx rfl (hb hby d398) rfl ((if0 _ _).trans (flt ((fun q => hB (r6_0.mp q)) : ¬ (x6_r < (0 : Int32)))).1) ?_
    refine XS.iconst X6.here hx rfl (hb hby d392) ?_
    refine XS.goto X6.here hx rfl (pc0 := 19) (pc' := 23) rfl (hb hby d393) (by decide) (by decide) ?_
    exact retN X6 hx (t := .boolean) hret (by simp) (hb hby d394) hr
def Q_hbLC3 (Z : State) (a_ : Addr) (b : Addr) (k : ClassId) (cs : Int32) (sf : Value) (c0 : Int32) (c1 : Int32) (c2 : Int32) (h0 : Heap) (n0 : Nat) (v : Option Value) (h : Heap) (L : List Loc) : Prop := (v = some (.int 0)) ∧ (Fr n0 L) ∧ (h = h0)
theorem rm_hbLC3 (l : Launch) (Z : State) (a0 : Array Value) (hw : HW Z a0) (ws : List Jvm.Cond) (a_ : Addr) (b : Addr) (k : ClassId) (cs : Int32) (sf : Value) (c0 : Int32) (c1 : Int32) (c2 : Int32) (h0 : Heap) (n0 : Nat) (Z0 : n0 ≤ h0.size) (P0 : Old Z n0 h0) (P1 : sta0 Z (.int cs)) (P2 : Exa Z h0 a_ "java/lang/String") (P3 : fld1 Z h0 a_ (.int 0)) (P4 : fld0 Z h0 a_ (.ref b)) (P5 : Arv Z h0 b k .byte (3 : Int32) [(.int (oB c0)), (.int (oB c1)), (.int (oB c2))] (.int 0)) (P6 : sta1 Z (.int 1)) (P7 : sta2 Z (.int 0)) (P8 : sta3 Z (.int 8)) (P9 : sta4 Z sf) (hcs : ¬ (cs = (0 : Int32))) (hsf : sf.isRef = true) (r0 : ¬ c0 < 0 ∧ ¬ (65535 : Int32) < c0) (r1 : ¬ c1 < 0 ∧ ¬ (65535 : Int32) < c1) (r2 : ¬ c2 < 0 ∧ ¬ (65535 : Int32) < c2) (hl0 : ¬ ((255 : Int32) < c0)) (hl1 : ¬ ((255 : Int32) < c1)) (hl2 : ¬ ((255 : Int32) < c2)) (hA : (¬ (c0 = (10 : Int32)) ∧ ¬ (c1 = (10 : Int32)) ∧ ¬ (c2 = (10 : Int32)))) (hB : (¬ (c0 = (13 : Int32)) ∧ ¬ (c1 = (13 : Int32)) ∧ ¬ (c2 = (13 : Int32)))) :
    MF l Z m_30 prog_28_method_2_code 1 (some .boolean) ws (oR 8 0 0 140) #[(.ref a_)] h0 (Q_hbLC3 Z a_ b k cs sf c0 c1 c2 h0 n0) := by
  refine own_body (cls := "com/example/branchward/branchward/Ids") (plainFor_of_name pn_7) rfl (fun p e s m below meth c s₁ hx hby hml hown hnm hret hZ X0 e0 => ?_)
  have N0 := Fr.nil n0
  have lt1 := own_l P2.lt
  have lt2 := own_l P3.lt
  have lt3 := own_l P4.lt
  have lt4 := own_l P5.lt
  obtain ⟨cq5, kq5, qa5, qb5, qc5⟩ := isOf hZ e0 P2
  obtain ⟨_, _, ⟨T5, L5, k5, n5⟩, -, X5, ⟨Lc5, hQ5, l5, y5, z5⟩, st5⟩ := X0.virtualBack hx (y := m_29) (z := m_29) hown (mvT hZ (w_30 hw)) (mvT hZ (w_31 hw)) (notFace_of_selects (args := #[]) (mvT hZ (w_33 hw))) (mvT hZ (w_33 hw)) (mvT hZ (w_32 hw)) (by decide) (backOf (W := 0) (rm_i1l3 l Z a0 hw [] c0 c1 c2 ((10 : Int32)) b k a_ cs h0 n0 (by omega) P0 P1 P2 P3 P4 P5 hcs (by decide) (by decide) r0 r1 r2 hl0 hl1 hl2) hZ (w_34 hw) (w_6 hw) (by decide) (by decide)) qa5 qc5 (g := (mkF m 3 #[vA a_] [(.int 10), (.ref a_)])) rfl (by rw [hml]; rfl) (Steps.refl _) (argsL := [(.int 10)]) (rest := []) (lenOf pd_0 rfl) rfl (Nat.le_of_eq rfl) (hb hby d390) (fun _ _ => ⟨rfl, e0, (by decide : 0 + 0 ≤ _), (by decide : 0 + 0 ≤ _)⟩)
  dsimp only [Pt.U, Pt.locs, Pt.cells, Pt.slots] at X5 l5 y5 z5 st5 hQ5
  rw [l5, y5, z5] at X5
  obtain ⟨x5_r, rfl, Nq5, Kq5, r5_0⟩ := hQ5
  have N5 := Fr.app N0 Nq5
  obtain ⟨cq6, kq6, qa6, qb6, qc6⟩ := isOf hZ Kq5 P2
  obtain ⟨_, _, ⟨T6, L6, k6, n6⟩, -, X6, ⟨Lc6, hQ6, l6, y6, z6⟩, st6⟩ := X5.virtualBack hx (y := m_29) (z := m_29) hown (mvT hZ (w_30 hw)) (mvT hZ (w_31 hw)) (notFace_of_selects (args := #[]) (mvT hZ (w_33 hw))) (mvT hZ (w_33 hw)) (mvT hZ (w_32 hw)) (by decide) (backOf (W := 0) (rm_i1l3 l Z a0 hw [] c0 c1 c2 ((13 : Int32)) b k a_ cs h0 n0 (by omega) P0 P1 P2 P3 P4 P5 hcs (by decide) (by decide) r0 r1 r2 hl0 hl1 hl2) hZ (w_34 hw) (w_6 hw) (by decide) (by decide)) qa6 qc6 (g := (mkF m 12 #[vA a_] [(.int 13), (.ref a_)])) rfl (by rw [hml]; rfl) (Steps.refl _) (argsL := [(.int 13)]) (rest := []) (lenOf pd_0 rfl) rfl (Nat.le_of_eq rfl) (hb hby d397) (fun _ _ => ⟨rfl, Kq5, (by decide : 0 + 0 ≤ _), (by decide : 0 + 0 ≤ _)⟩)
  dsimp only [Pt.U, Pt.locs, Pt.cells, Pt.slots] at X6 l6 y6 z6 st6 hQ6
  rw [l6, y6, z6] at X6
  obtain ⟨x6_r, rfl, Nq6, Kq6, r6_0⟩ := hQ6
  have N6 := Fr.app N5 Nq6
  refine ⟨_, _, _, _, some (.int 0), X6, by decide, by decide, nofun, ?_, fun fs hr => castTop (ef_12 m a_) ?_⟩
  · show Q_hbLC3 Z a_ b k cs sf c0 c1 c2 h0 n0 _ T6.heap _
    rw [(Kq6 : T6.heap = h0)]
    exact ⟨rfl, N6, rfl⟩
  · show Steps _ _ _ (s₁.setTop (mkF m 0 #[vA a_] [])) _
    refine XS.aloadN X0.here hx rfl (hb hby d388) rfl rfl ?_
    refine XS.bipush X0.here hx rfl (hb hby d389) ?_
    refine st5.trans ?_
    show Steps _ _ _ (T5.setTop (mkF m 6 #[vA a_] [(.int x5_r)])) _
    refine XS.ifNo X5.here hx rfl (hb hby d391) rfl ((if0 _ _).trans (tlt ((r5_0.mpr hA) : x5_r < (0 : Int32))).2.1) ?_
    refine XS.aloadN X5.here hx rfl (hb hby d395) rfl rfl ?_
    refine XS.bipush X5.here hx rfl (hb hby d396) ?_
    refine st6.trans ?_
    show Steps _ _ _ (T6.setTop (mkF m 15 #[vA a_] [(.int x6_r)])) _
    refine XS.ifYes X6.here hx rfl (pc0 := 15) (pc' := 22) rfl (hb hby d398) rfl ((if0 _ _).trans (tlt ((r6_0.mpr hB) : x6_r < (0 : Int32))).1) (by decide) (by decide) ?_
    refine XS.iconst X6.here hx rfl (hb hby d399) ?_
    exact retN X6 hx (t := .boolean) hret (by simp) (hb hby d394) hr
def Q_hbUA3 (Z : State) (a_ : Addr) (b : Addr) (k : ClassId) (cs : Int32) (sf : Value) (c0 : Int32) (c1 : Int32) (c2 : Int32) (h0 : Heap) (n0 : Nat) (v : Option Value) (h : Heap) (L : List Loc) : Prop := (v = some (.int 1)) ∧ (Fr n0 L) ∧ (h = h0)
theorem rm_hbUA3 (l : Launch) (Z : State) (a0 : Array Value) (hw : HW Z a0) (ws : List Jvm.Cond) (a_ : Addr) (b : Addr) (k : ClassId) (cs : Int32) (sf : Value) (c0 : Int32) (c1 : Int32) (c2 : Int32) (h0 : Heap) (n0 : Nat) (Z0 : n0 ≤ h0.size) (P0 : Old Z n0 h0) (P1 : sta0 Z (.int cs)) (P2 : Exa Z h0 a_ "java/lang/String") (P3 : fld1 Z h0 a_ (.int 1)) (P4 : fld0 Z h0 a_ (.ref b)) (P5 : Arv Z h0 b k .byte (6 : Int32) [(.int (oL c0)), (.int (oH c0)), (.int (oL c1)), (.int (oH c1)), (.int (oL c2)), (.int (oH c2))] (.int 0)) (P6 : sta1 Z (.int 1)) (P7 : sta2 Z (.int 0)) (P8 : sta3 Z (.int 8)) (P9 : sta4 Z sf) (hcs : ¬ (cs = (0 : Int32))) (hsf : sf.isRef = true) (r0 : ¬ c0 < 0 ∧ ¬ (65535 : Int32) < c0) (r1 : ¬ c1 < 0 ∧ ¬ (65535 : Int32) < c1) (r2 : ¬ c2 < 0 ∧ ¬ (65535 : Int32) < c2) (hA : ¬ (¬ (c0 = (10 : Int32)) ∧ ¬ (c1 = (10 : Int32)) ∧ ¬ (c2 = (10 : Int32)))) :
    MF l Z m_30 prog_28_method_2_code 1 (some .boolean) ws (oR 8 0 0 140) #[(.ref a_)] h0 (Q_hbUA3 Z a_ b k cs sf c0 c1 c2 h0 n0) := by
  refine own_body (cls := "com/example/branchward/branchward/Ids") (plainFor_of_name pn_7) rfl (fun p e s m below meth c s₁ hx hby hml hown hnm hret hZ X0 e0 => ?_)
  have N0 := Fr.nil n0
  have lt1 := own_l P2.lt
  have lt2 := own_l P3.lt
  have lt3 := own_l P4.lt
  have lt4 := own_l P5.lt
  obtain ⟨cq5, kq5, qa5, qb5, qc5⟩ := isOf hZ e0 P2
  obtain ⟨_, _, ⟨T5, L5, k5, n5⟩, -, X5, ⟨Lc5, hQ5, l5, y5, z5⟩, st5⟩ := X0.virtualBack hx (y := m_29) (z := m_29) hown (mvT hZ (w_30 hw)) (mvT hZ (w_31 hw)) (notFace_of_selects (args := #[]) (mvT hZ (w_33 hw))) (mvT hZ (w_33 hw)) (mvT hZ (w_32 hw)) (by decide) (backOf (W := 0) (rm_i1u3 l Z a0 hw [] c0 c1 c2 ((10 : Int32)) b k a_ cs sf h0 n0 (by omega) P0 P1 P2 P3 P4 P5 P6 P7 P8 P9 hcs hsf r0 r1 r2 (by decide)) hZ (w_34 hw) (w_6 hw) (by decide) (by decide)) qa5 qc5 (g := (mkF m 3 #[vA a_] [(.int 10), (.ref a_)])) rfl (by rw [hml]; rfl) (Steps.refl _) (argsL := [(.int 10)]) (rest := []) (lenOf pd_0 rfl) rfl (Nat.le_of_eq rfl) (hb hby d390) (fun _ _ => ⟨rfl, e0, (by decide : 0 + 0 ≤ _), (by decide : 0 + 0 ≤ _)⟩)
  dsimp only [Pt.U, Pt.locs, Pt.cells, Pt.slots] at X5 l5 y5 z5 st5 hQ5
  rw [l5, y5, z5] at X5
  obtain ⟨x5_r, rfl, Nq5, Kq5, r5_0⟩ := hQ5
  have N5 := Fr.app N0 Nq5
  refine ⟨_, _, _, _, some (.int 1), X5, by decide, by decide, nofun, ?_, fun fs hr => castTop (ef_12 m a_) ?_⟩
  · show Q_hbUA3 Z a_ b k cs sf c0 c1 c2 h0 n0 _ T5.heap _
    rw [(Kq5 : T5.heap = h0)]
    exact ⟨rfl, N5, rfl⟩
  · show Steps _ _ _ (s₁.setTop (mkF m 0 #[vA a_] [])) _
    refine XS.aloadN X0.here hx rfl (hb hby d388) rfl rfl ?_
    refine XS.bipush X0.here hx rfl (hb hby d389) ?_
    refine st5.trans ?_
    show Steps _ _ _ (T5.setTop (mkF m 6 #[vA a_] [(.int x5_r)])) _
    refine XS.ifYes X5.here hx rfl (pc0 := 6) (pc' := 18) rfl (hb hby d391) rfl ((if0 _ _).trans (flt ((fun q => hA (r5_0.mp q)) : ¬ (x5_r < (0 : Int32)))).2.1) (by decide) (by decide) ?_
    refine XS.iconst X5.here hx rfl (hb hby d392) ?_
    refine XS.goto X5.here hx rfl (pc0 := 19) (pc' := 23) rfl (hb hby d393) (by decide) (by decide) ?_
    exact retN X5 hx (t := .boolean) hret (by simp) (hb hby d394) hr
def Q_hbUB3 (Z : State) (a_ : Addr) (b : Addr) (k : ClassId) (cs : Int32) (sf : Value) (c0 : Int32) (c1 : Int32) (c2 : Int32) (h0 : Heap) (n0 : Nat) (v : Option Value) (h : Heap) (L : List Loc) : Prop := (v = some (.int 1)) ∧ (Fr n0 L) ∧ (h = h0)
theorem rm_hbUB3 (l : Launch) (Z : State) (a0 : Array Value) (hw : HW Z a0) (ws : List Jvm.Cond) (a_ : Addr) (b : Addr) (k : ClassId) (cs : Int32) (sf : Value) (c0 : Int32) (c1 : Int32) (c2 : Int32) (h0 : Heap) (n0 : Nat) (Z0 : n0 ≤ h0.size) (P0 : Old Z n0 h0) (P1 : sta0 Z (.int cs)) (P2 : Exa Z h0 a_ "java/lang/String") (P3 : fld1 Z h0 a_ (.int 1)) (P4 : fld0 Z h0 a_ (.ref b)) (P5 : Arv Z h0 b k .byte (6 : Int32) [(.int (oL c0)), (.int (oH c0)), (.int (oL c1)), (.int (oH c1)), (.int (oL c2)), (.int (oH c2))] (.int 0)) (P6 : sta1 Z (.int 1)) (P7 : sta2 Z (.int 0)) (P8 : sta3 Z (.int 8)) (P9 : sta4 Z sf) (hcs : ¬ (cs = (0 : Int32))) (hsf : sf.isRef = true) (r0 : ¬ c0 < 0 ∧ ¬ (65535 : Int32) < c0) (r1 : ¬ c1 < 0 ∧ ¬ (65535 : Int32) < c1) (r2 : ¬ c2 < 0 ∧ ¬ (65535 : Int32) < c2) (hA : (¬ (c0 = (10 : Int32)) ∧ ¬ (c1 = (10 : Int32)) ∧ ¬ (c2 = (10 : Int32)))) (hB : ¬ (¬ (c0 = (13 : Int32)) ∧ ¬ (c1 = (13 : Int32)) ∧ ¬ (c2 = (13 : Int32)))) :
    MF l Z m_30 prog_28_method_2_code 1 (some .boolean) ws (oR 8 0 0 140) #[(.ref a_)] h0 (Q_hbUB3 Z a_ b k cs sf c0 c1 c2 h0 n0) := by
  refine own_body (cls := "com/example/branchward/branchward/Ids") (plainFor_of_name pn_7) rfl (fun p e s m below meth c s₁ hx hby hml hown hnm hret hZ X0 e0 => ?_)
  have N0 := Fr.nil n0
  have lt1 := own_l P2.lt
  have lt2 := own_l P3.lt
  have lt3 := own_l P4.lt
  have lt4 := own_l P5.lt
  obtain ⟨cq5, kq5, qa5, qb5, qc5⟩ := isOf hZ e0 P2
  obtain ⟨_, _, ⟨T5, L5, k5, n5⟩, -, X5, ⟨Lc5, hQ5, l5, y5, z5⟩, st5⟩ := X0.virtualBack hx (y := m_29) (z := m_29) hown (mvT hZ (w_30 hw)) (mvT hZ (w_31 hw)) (notFace_of_selects (args := #[]) (mvT hZ (w_33 hw))) (mvT hZ (w_33 hw)) (mvT hZ (w_32 hw)) (by decide) (backOf (W := 0) (rm_i1u3 l Z a0 hw [] c0 c1 c2 ((10 : Int32)) b k a_ cs sf h0 n0 (by omega) P0 P1 P2 P3 P4 P5 P6 P7 P8 P9 hcs hsf r0 r1 r2 (by decide)) hZ (w_34 hw) (w_6 hw) (by decide) (by decide)) qa5 qc5 (g := (mkF m 3 #[vA a_] [(.int 10), (.ref a_)])) rfl (by rw [hml]; rfl) (Steps.refl _) (argsL := [(.int 10)]) (rest := []) (lenOf pd_0 rfl) rfl (Nat.le_of_eq rfl) (hb hby d390) (fun _ _ => ⟨rfl, e0, (by decide : 0 + 0 ≤ _), (by decide : 0 + 0 ≤ _)⟩)
  dsimp only [Pt.U, Pt.locs, Pt.cells, Pt.slots] at X5 l5 y5 z5 st5 hQ5
  rw [l5, y5, z5] at X5
  obtain ⟨x5_r, rfl, Nq5, Kq5, r5_0⟩ := hQ5
  have N5 := Fr.app N0 Nq5
  obtain ⟨cq6, kq6, qa6, qb6, qc6⟩ := isOf hZ Kq5 P2
  obtain ⟨_, _, ⟨T6, L6, k6, n6⟩, -, X6, ⟨Lc6, hQ6, l6, y6, z6⟩, st6⟩ := X5.virtualBack hx (y := m_29) (z := m_29) hown (mvT hZ (w_30 hw)) (mvT hZ (w_31 hw)) (notFace_of_selects (args := #[]) (mvT hZ (w_33 hw))) (mvT hZ (w_33 hw)) (mvT hZ (w_32 hw)) (by decide) (backOf (W := 0) (rm_i1u3 l Z a0 hw [] c0 c1 c2 ((13 : Int32)) b k a_ cs sf h0 n0 (by omega) P0 P1 P2 P3 P4 P5 P6 P7 P8 P9 hcs hsf r0 r1 r2 (by decide)) hZ (w_34 hw) (w_6 hw) (by decide) (by decide)) qa6 qc6 (g := (mkF m 12 #[vA a_] [(.int 13), (.ref a_)])) rfl (by rw [hml]; rfl) (Steps.refl _) (argsL := [(.int 13)]) (rest := []) (lenOf pd_0 rfl) rfl (Nat.le_of_eq rfl) (hb hby d397) (fun _ _ => ⟨rfl, Kq5, (by decide : 0 + 0 ≤ _), (by decide : 0 + 0 ≤ _)⟩)
  dsimp only [Pt.U, Pt.locs, Pt.cells, Pt.slots] at X6 l6 y6 z6 st6 hQ6
  rw [l6, y6, z6] at X6
  obtain ⟨x6_r, rfl, Nq6, Kq6, r6_0⟩ := hQ6
  have N6 := Fr.app N5 Nq6
  refine ⟨_, _, _, _, some (.int 1), X6, by decide, by decide, nofun, ?_, fun fs hr => castTop (ef_12 m a_) ?_⟩
  · show Q_hbUB3 Z a_ b k cs sf c0 c1 c2 h0 n0 _ T6.heap _
    rw [(Kq6 : T6.heap = h0)]
    exact ⟨rfl, N6, rfl⟩
  · show Steps _ _ _ (s₁.setTop (mkF m 0 #[vA a_] [])) _
    refine XS.aloadN X0.here hx rfl (hb hby d388) rfl rfl ?_
    refine XS.bipush X0.here hx rfl (hb hby d389) ?_
    refine st5.trans ?_
    show Steps _ _ _ (T5.setTop (mkF m 6 #[vA a_] [(.int x5_r)])) _
    refine XS.ifNo X5.here hx rfl (hb hby d391) rfl ((if0 _ _).trans (tlt ((r5_0.mpr hA) : x5_r < (0 : Int32))).2.1) ?_
    refine XS.aloadN X5.here hx rfl (hb hby d395) rfl rfl ?_
    refine XS.bipush X5.here hx rfl (hb hby d396) ?_
    refine st6.trans ?_
    show Steps _ _ _ (T6.setTop (mkF m 15 #[vA a_] [(.int x6_r)])) _
    refine XS.ifNo X6.here hx rfl (hb hby d398) rfl ((if0 _ _).trans (flt ((fun q => hB (r6_0.mp q)) : ¬ (x6_r < (0 : Int32)))).1) ?_
    refine XS.iconst X6.here hx rfl (hb hby d392) ?_
    refine XS.goto X6.here hx rfl (pc0 := 19) (pc' := 23) rfl (hb hby d393) (by decide) (by decide) ?_
    exact retN X6 hx (t := .boolean) hret (by simp) (hb hby d394) hr
def Q_hbUC3 (Z : State) (a_ : Addr) (b : Addr) (k : ClassId) (cs : Int32) (sf : Value) (c0 : Int32) (c1 : Int32) (c2 : Int32) (h0 : Heap) (n0 : Nat) (v : Option Value) (h : Heap) (L : List Loc) : Prop := (v = some (.int 0)) ∧ (Fr n0 L) ∧ (h = h0)
theorem rm_hbUC3 (l : Launch) (Z : State) (a0 : Array Value) (hw : HW Z a0) (ws : List Jvm.Cond) (a_ : Addr) (b : Addr) (k : ClassId) (cs : Int32) (sf : Value) (c0 : Int32) (c1 : Int32) (c2 : Int32) (h0 : Heap) (n0 : Nat) (Z0 : n0 ≤ h0.size) (P0 : Old Z n0 h0) (P1 : sta0 Z (.int cs)) (P2 : Exa Z h0 a_ "java/lang/String") (P3 : fld1 Z h0 a_ (.int 1)) (P4 : fld0 Z h0 a_ (.ref b)) (P5 : Arv Z h0 b k .byte (6 : Int32) [(.int (oL c0)), (.int (oH c0)), (.int (oL c1)), (.int (oH c1)), (.int (oL c2)), (.int (oH c2))] (.int 0)) (P6 : sta1 Z (.int 1)) (P7 : sta2 Z (.int 0)) (P8 : sta3 Z (.int 8)) (P9 : sta4 Z sf) (hcs : ¬ (cs = (0 : Int32))) (hsf : sf.isRef = true) (r0 : ¬ c0 < 0 ∧ ¬ (65535 : Int32) < c0) (r1 : ¬ c1 < 0 ∧ ¬ (65535 : Int32) < c1) (r2 : ¬ c2 < 0 ∧ ¬ (65535 : Int32) < c2) (hA : (¬ (c0 = (10 : Int32)) ∧ ¬ (c1 = (10 : Int32)) ∧ ¬ (c2 = (10 : Int32)))) (hB : (¬ (c0 = (13 : Int32)) ∧ ¬ (c1 = (13 : Int32)) ∧ ¬ (c2 = (13 : Int32)))) :
    MF l Z m_30 prog_28_method_2_code 1 (some .boolean) ws (oR 8 0 0 140) #[(.ref a_)] h0 (Q_hbUC3 Z a_ b k cs sf c0 c1 c2 h0 n0) := by
  refine own_body (cls := "com/example/branchward/branchward/Ids") (plainFor_of_name pn_7) rfl (fun p e s m below meth c s₁ hx hby hml hown hnm hret hZ X0 e0 => ?_)
  have N0 := Fr.nil n0
  have lt1 := own_l P2.lt
  have lt2 := own_l P3.lt
  have lt3 := own_l P4.lt
  have lt4 := own_l P5.lt
  obtain ⟨cq5, kq5, qa5, qb5, qc5⟩ := isOf hZ e0 P2
  obtain ⟨_, _, ⟨T5, L5, k5, n5⟩, -, X5, ⟨Lc5, hQ5, l5, y5, z5⟩, st5⟩ := X0.virtualBack hx (y := m_29) (z := m_29) hown (mvT hZ (w_30 hw)) (mvT hZ (w_31 hw)) (notFace_of_selects (args := #[]) (mvT hZ (w_33 hw))) (mvT hZ (w_33 hw)) (mvT hZ (w_32 hw)) (by decide) (backOf (W := 0) (rm_i1u3 l Z a0 hw [] c0 c1 c2 ((10 : Int32)) b k a_ cs sf h0 n0 (by omega) P0 P1 P2 P3 P4 P5 P6 P7 P8 P9 hcs hsf r0 r1 r2 (by decide)) hZ (w_34 hw) (w_6 hw) (by decide) (by decide)) qa5 qc5 (g := (mkF m 3 #[vA a_] [(.int 10), (.ref a_)])) rfl (by rw [hml]; rfl) (Steps.refl _) (argsL := [(.int 10)]) (rest := []) (lenOf pd_0 rfl) rfl (Nat.le_of_eq rfl) (hb hby d390) (fun _ _ => ⟨rfl, e0, (by decide : 0 + 0 ≤ _), (by decide : 0 + 0 ≤ _)⟩)
  dsimp only [Pt.U, Pt.locs, Pt.cells, Pt.slots] at X5 l5 y5 z5 st5 hQ5
  rw [l5, y5, z5] at X5
  obtain ⟨x5_r, rfl, Nq5, Kq5, r5_0⟩ := hQ5
  have N5 := Fr.app N0 Nq5
  obtain ⟨cq6, kq6, qa6, qb6, qc6⟩ := isOf hZ Kq5 P2
  obtain ⟨_, _, ⟨T6, L6, k6, n6⟩, -, X6, ⟨Lc6, hQ6, l6, y6, z6⟩, st6⟩ := X5.virtualBack hx (y := m_29) (z := m_29) hown (mvT hZ (w_30 hw)) (mvT hZ (w_31 hw)) (notFace_of_selects (args := #[]) (mvT hZ (w_33 hw))) (mvT hZ (w_33 hw)) (mvT hZ (w_32 hw)) (by decide) (backOf (W := 0) (rm_i1u3 l Z a0 hw [] c0 c1 c2 ((13 : Int32)) b k a_ cs sf h0 n0 (by omega) P0 P1 P2 P3 P4 P5 P6 P7 P8 P9 hcs hsf r0 r1 r2 (by decide)) hZ (w_34 hw) (w_6 hw) (by decide) (by decide)) qa6 qc6 (g := (mkF m 12 #[vA a_] [(.int 13), (.ref a_)])) rfl (by rw [hml]; rfl) (Steps.refl _) (argsL := [(.int 13)]) (rest := []) (lenOf pd_0 rfl) rfl (Nat.le_of_eq rfl) (hb hby d397) (fun _ _ => ⟨rfl, Kq5, (by decide : 0 + 0 ≤ _), (by decide : 0 + 0 ≤ _)⟩)
  dsimp only [Pt.U, Pt.locs, Pt.cells, Pt.slots] at X6 l6 y6 z6 st6 hQ6
  rw [l6, y6, z6] at X6
  obtain ⟨x6_r, rfl, Nq6, Kq6, r6_0⟩ := hQ6
  have N6 := Fr.app N5 Nq6
  refine ⟨_, _, _, _, some (.int 0), X6, by decide, by decide, nofun, ?_, fun fs hr => castTop (ef_12 m a_) ?_⟩
  · show Q_hbUC3 Z a_ b k cs sf c0 c1 c2 h0 n0 _ T6.heap _
    rw [(Kq6 : T6.heap = h0)]
    exact ⟨rfl, N6, rfl⟩
  · show Steps _ _ _ (s₁.setTop (mkF m 0 #[vA a_] [])) _
    refine XS.aloadN X0.here hx rfl (hb hby d388) rfl rfl ?_
    refine XS.bipush X0.here hx rfl (hb hby d389) ?_
    refine st5.trans ?_
    show Steps _ _ _ (T5.setTop (mkF m 6 #[vA a_] [(.int x5_r)])) _
    refine XS.ifNo X5.here hx rfl (hb hby d391) rfl ((if0 _ _).trans (tlt ((r5_0.mpr hA) : x5_r < (0 : Int32))).2.1) ?_
    refine XS.aloadN X5.here hx rfl (hb hby d395) rfl rfl ?_
    refine XS.bipush X5.here hx rfl (hb hby d396) ?_
    refine st6.trans ?_
    show Steps _ _ _ (T6.setTop (mkF m 15 #[vA a_] [(.int x6_r)])) _
    refine XS.ifYes X6.here hx rfl (pc0 := 15) (pc' := 22) rfl (hb hby d398) rfl ((if0 _ _).trans (tlt ((r6_0.mpr hB) : x6_r < (0 : Int32))).1) (by decide) (by decide) ?_
    refine XS.iconst X6.here hx rfl (hb hby d399) ?_
    exact retN X6 hx (t := .boolean) hret (by simp) (hb hby d394) hr
def Q_hbA3 (Z : State) (a_ : Addr) (cs : Int32) (sf : Value) (c0 : Int32) (c1 : Int32) (c2 : Int32) (h0 : Heap) (n0 : Nat) (v : Option Value) (h : Heap) (L : List Loc) : Prop := (v = some (.int 1)) ∧ (Fr n0 L) ∧ (h = h0)
theorem rm_hbA3 (l : Launch) (Z : State) (a0 : Array Value) (hw : HW Z a0) (ws : List Jvm.Cond) (a_ : Addr) (cs : Int32) (sf : Value) (c0 : Int32) (c1 : Int32) (c2 : Int32) (h0 : Heap) (n0 : Nat) (Z0 : n0 ≤ h0.size) (P0 : Old Z n0 h0) (P1 : sta0 Z (.int cs)) (P2 : Exa Z h0 a_ "java/lang/String") (P3 : sta1 Z (.int 1)) (P4 : sta2 Z (.int 0)) (P5 : sta3 Z (.int 8)) (P6 : sta4 Z sf) (P7 : (SL Z h0 a_ [c0, c1, c2] ∨ SU Z h0 a_ [c0, c1, c2])) (hcs : ¬ (cs = (0 : Int32))) (hsf : sf.isRef = true) (r0 : ¬ c0 < 0 ∧ ¬ (65535 : Int32) < c0) (r1 : ¬ c1 < 0 ∧ ¬ (65535 : Int32) < c1) (r2 : ¬ c2 < 0 ∧ ¬ (65535 : Int32) < c2) (hA : ¬ (¬ (c0 = (10 : Int32)) ∧ ¬ (c1 = (10 : Int32)) ∧ ¬ (c2 = (10 : Int32)))) :
    MF l Z m_30 prog_28_method_2_code 1 (some .boolean) ws (oR 8 0 0 140) #[(.ref a_)] h0 (Q_hbA3 Z a_ cs sf c0 c1 c2 h0 n0) := by
  rcases P7 with ⟨t, kb, fv, fc, hl, ar⟩ | ⟨t, kb, fv, fc, ar⟩
  · exact rm_hbLA3 l Z a0 hw ws a_ t kb cs sf c0 c1 c2 h0 n0 Z0 P0 P1 P2 fc fv ar P3 P4 P5 P6 hcs hsf r0 r1 r2 (hl _ (List.mem_of_getElem? (i := 0) rfl)) (hl _ (List.mem_of_getElem? (i := 1) rfl)) (hl _ (List.mem_of_getElem? (i := 2) rfl)) hA
  · exact rm_hbUA3 l Z a0 hw ws a_ t kb cs sf c0 c1 c2 h0 n0 Z0 P0 P1 P2 fc fv ar P3 P4 P5 P6 hcs hsf r0 r1 r2 hA
def Q_hbB3 (Z : State) (a_ : Addr) (cs : Int32) (sf : Value) (c0 : Int32) (c1 : Int32) (c2 : Int32) (h0 : Heap) (n0 : Nat) (v : Option Value) (h : Heap) (L : List Loc) : Prop := (v = some (.int 1)) ∧ (Fr n0 L) ∧ (h = h0)
theorem rm_hbB3 (l : Launch) (Z : State) (a0 : Array Value) (hw : HW Z a0) (ws : List Jvm.Cond) (a_ : Addr) (cs : Int32) (sf : Value) (c0 : Int32) (c1 : Int32) (c2 : Int32) (h0 : Heap) (n0 : Nat) (Z0 : n0 ≤ h0.size) (P0 : Old Z n0 h0) (P1 : sta0 Z (.int cs)) (P2 : Exa Z h0 a_ "java/lang/String") (P3 : sta1 Z (.int 1)) (P4 : sta2 Z (.int 0)) (P5 : sta3 Z (.int 8)) (P6 : sta4 Z sf) (P7 : (SL Z h0 a_ [c0, c1, c2] ∨ SU Z h0 a_ [c0, c1, c2])) (hcs : ¬ (cs = (0 : Int32))) (hsf : sf.isRef = true) (r0 : ¬ c0 < 0 ∧ ¬ (65535 : Int32) < c0) (r1 : ¬ c1 < 0 ∧ ¬ (65535 : Int32) < c1) (r2 : ¬ c2 < 0 ∧ ¬ (65535 : Int32) < c2) (hA : (¬ (c0 = (10 : Int32)) ∧ ¬ (c1 = (10 : Int32)) ∧ ¬ (c2 = (10 : Int32)))) (hB : ¬ (¬ (c0 = (13 : Int32)) ∧ ¬ (c1 = (13 : Int32)) ∧ ¬ (c2 = (13 : Int32)))) :
    MF l Z m_30 prog_28_method_2_code 1 (some .boolean) ws (oR 8 0 0 140) #[(.ref a_)] h0 (Q_hbB3 Z a_ cs sf c0 c1 c2 h0 n0) := by
  rcases P7 with ⟨t, kb, fv, fc, hl, ar⟩ | ⟨t, kb, fv, fc, ar⟩
  · exact rm_hbLB3 l Z a0 hw ws a_ t kb cs sf c0 c1 c2 h0 n0 Z0 P0 P1 P2 fc fv ar P3 P4 P5 P6 hcs hsf r0 r1 r2 (hl _ (List.mem_of_getElem? (i := 0) rfl)) (hl _ (List.mem_of_getElem? (i := 1) rfl)) (hl _ (List.mem_of_getElem? (i := 2) rfl)) hA hB
  · exact rm_hbUB3 l Z a0 hw ws a_ t kb cs sf c0 c1 c2 h0 n0 Z0 P0 P1 P2 fc fv ar P3 P4 P5 P6 hcs hsf r0 r1 r2 hA hB
def Q_hbC3 (Z : State) (a_ : Addr) (cs : Int32) (sf : Value) (c0 : Int32) (c1 : Int32) (c2 : Int32) (h0 : Heap) (n0 : Nat) (v : Option Value) (h : Heap) (L : List Loc) : Prop := (v = some (.int 0)) ∧ (Fr n0 L) ∧ (h = h0)
theorem rm_hbC3 (l : Launch) (Z : State) (a0 : Array Value) (hw : HW Z a0) (ws : List Jvm.Cond) (a_ : Addr) (cs : Int32) (sf : Value) (c0 : Int32) (c1 : Int32) (c2 : Int32) (h0 : Heap) (n0 : Nat) (Z0 : n0 ≤ h0.size) (P0 : Old Z n0 h0) (P1 : sta0 Z (.int cs)) (P2 : Exa Z h0 a_ "java/lang/String") (P3 : sta1 Z (.int 1)) (P4 : sta2 Z (.int 0)) (P5 : sta3 Z (.int 8)) (P6 : sta4 Z sf) (P7 : (SL Z h0 a_ [c0, c1, c2] ∨ SU Z h0 a_ [c0, c1, c2])) (hcs : ¬ (cs = (0 : Int32))) (hsf : sf.isRef = true) (r0 : ¬ c0 < 0 ∧ ¬ (65535 : Int32) < c0) (r1 : ¬ c1 < 0 ∧ ¬ (65535 : Int32) < c1) (r2 : ¬ c2 < 0 ∧ ¬ (65535 : Int32) < c2) (hA : (¬ (c0 = (10 : Int32)) ∧ ¬ (c1 = (10 : Int32)) ∧ ¬ (c2 = (10 : Int32)))) (hB : (¬ (c0 = (13 : Int32)) ∧ ¬ (c1 = (13 : Int32)) ∧ ¬ (c2 = (13 : Int32)))) :
    MF l Z m_30 prog_28_method_2_code 1 (some .boolean) ws (oR 8 0 0 140) #[(.ref a_)] h0 (Q_hbC3 Z a_ cs sf c0 c1 c2 h0 n0) := by
  rcases P7 with ⟨t, kb, fv, fc, hl, ar⟩ | ⟨t, kb, fv, fc, ar⟩
  · exact rm_hbLC3 l Z a0 hw ws a_ t kb cs sf c0 c1 c2 h0 n0 Z0 P0 P1 P2 fc fv ar P3 P4 P5 P6 hcs hsf r0 r1 r2 (hl _ (List.mem_of_getElem? (i := 0) rfl)) (hl _ (List.mem_of_getElem? (i := 1) rfl)) (hl _ (List.mem_of_getElem? (i := 2) rfl)) hA hB
  · exact rm_hbUC3 l Z a0 hw ws a_ t kb cs sf c0 c1 c2 h0 n0 Z0 P0 P1 P2 fc fv ar P3 P4 P5 P6 hcs hsf r0 r1 r2 hA hB
def Q_hbO1 (Z : State) (a_ : Addr) (cs : Int32) (sf : Value) (c0 : Int32) (h0 : Heap) (n0 : Nat) (v : Option Value) (h : Heap) (L : List Loc) : Prop := (v = some (.int 1)) ∧ (Fr n0 L) ∧ (h = h0)
theorem rm_hbO1 (l : Launch) (Z : State) (a0 : Array Value) (hw : HW Z a0) (ws : List Jvm.Cond) (a_ : Addr) (cs : Int32) (sf : Value) (c0 : Int32) (h0 : Heap) (n0 : Nat) (Z0 : n0 ≤ h0.size) (P0 : Old Z n0 h0) (P1 : sta0 Z (.int cs)) (P2 : Exa Z h0 a_ "java/lang/String") (P3 : sta1 Z (.int 1)) (P4 : sta2 Z (.int 0)) (P5 : sta3 Z (.int 8)) (P6 : sta4 Z sf) (P7 : (SL Z h0 a_ [c0] ∨ SU Z h0 a_ [c0])) (hcs : ¬ (cs = (0 : Int32))) (hsf : sf.isRef = true) (r0 : ¬ c0 < 0 ∧ ¬ (65535 : Int32) < c0) (hor : ¬ ¬ (c0 = (10 : Int32)) ∨ ¬ ¬ (c0 = (13 : Int32))) :
    MF l Z m_30 prog_28_method_2_code 1 (some .boolean) ws (oR 8 0 0 140) #[(.ref a_)] h0 (Q_hbO1 Z a_ cs sf c0 h0 n0) := by
  by_cases hA : ¬ (c0 = (10 : Int32))
  · exact rm_hbB1 l Z a0 hw ws a_ cs sf c0 h0 n0 Z0 P0 P1 P2 P3 P4 P5 P6 P7 hcs hsf r0 hA (hor.resolve_left (fun q => q hA))
  · exact rm_hbA1 l Z a0 hw ws a_ cs sf c0 h0 n0 Z0 P0 P1 P2 P3 P4 P5 P6 P7 hcs hsf r0 hA
def Q_hbO2 (Z : State) (a_ : Addr) (cs : Int32) (sf : Value) (c0 : Int32) (c1 : Int32) (h0 : Heap) (n0 : Nat) (v : Option Value) (h : Heap) (L : List Loc) : Prop := (v = some (.int 1)) ∧ (Fr n0 L) ∧ (h = h0)
theorem rm_hbO2 (l : Launch) (Z : State) (a0 : Array Value) (hw : HW Z a0) (ws : List Jvm.Cond) (a_ : Addr) (cs : Int32) (sf : Value) (c0 : Int32) (c1 : Int32) (h0 : Heap) (n0 : Nat) (Z0 : n0 ≤ h0.size) (P0 : Old Z n0 h0) (P1 : sta0 Z (.int cs)) (P2 : Exa Z h0 a_ "java/lang/String") (P3 : sta1 Z (.int 1)) (P4 : sta2 Z (.int 0)) (P5 : sta3 Z (.int 8)) (P6 : sta4 Z sf) (P7 : (SL Z h0 a_ [c0, c1] ∨ SU Z h0 a_ [c0, c1])) (hcs : ¬ (cs = (0 : Int32))) (hsf : sf.isRef = true) (r0 : ¬ c0 < 0 ∧ ¬ (65535 : Int32) < c0) (r1 : ¬ c1 < 0 ∧ ¬ (65535 : Int32) < c1) (hor : ¬ (¬ (c0 = (10 : Int32)) ∧ ¬ (c1 = (10 : Int32))) ∨ ¬ (¬ (c0 = (13 : Int32)) ∧ ¬ (c1 = (13 : Int32)))) :
    MF l Z m_30 prog_28_method_2_code 1 (some .boolean) ws (oR 8 0 0 140) #[(.ref a_)] h0 (Q_hbO2 Z a_ cs sf c0 c1 h0 n0) := by
  by_cases hA : (¬ (c0 = (10 : Int32)) ∧ ¬ (c1 = (10 : Int32)))
  · exact rm_hbB2 l Z a0 hw ws a_ cs sf c0 c1 h0 n0 Z0 P0 P1 P2 P3 P4 P5 P6 P7 hcs hsf r0 r1 hA (hor.resolve_left (fun q => q hA))
  · exact rm_hbA2 l Z a0 hw ws a_ cs sf c0 c1 h0 n0 Z0 P0 P1 P2 P3 P4 P5 P6 P7 hcs hsf r0 r1 hA
def Q_hbO3 (Z : State) (a_ : Addr) (cs : Int32) (sf : Value) (c0 : Int32) (c1 : Int32) (c2 : Int32) (h0 : Heap) (n0 : Nat) (v : Option Value) (h : Heap) (L : List Loc) : Prop := (v = some (.int 1)) ∧ (Fr n0 L) ∧ (h = h0)
theorem rm_hbO3 (l : Launch) (Z : State) (a0 : Array Value) (hw : HW Z a0) (ws : List Jvm.Cond) (a_ : Addr) (cs : Int32) (sf : Value) (c0 : Int32) (c1 : Int32) (c2 : Int32) (h0 : Heap) (n0 : Nat) (Z0 : n0 ≤ h0.size) (P0 : Old Z n0 h0) (P1 : sta0 Z (.int cs)) (P2 : Exa Z h0 a_ "java/lang/String") (P3 : sta1 Z (.int 1)) (P4 : sta2 Z (.int 0)) (P5 : sta3 Z (.int 8)) (P6 : sta4 Z sf) (P7 : (SL Z h0 a_ [c0, c1, c2] ∨ SU Z h0 a_ [c0, c1, c2])) (hcs : ¬ (cs = (0 : Int32))) (hsf : sf.isRef = true) (r0 : ¬ c0 < 0 ∧ ¬ (65535 : Int32) < c0) (r1 : ¬ c1 < 0 ∧ ¬ (65535 : Int32) < c1) (r2 : ¬ c2 < 0 ∧ ¬ (65535 : Int32) < c2) (hor : ¬ (¬ (c0 = (10 : Int32)) ∧ ¬ (c1 = (10 : Int32)) ∧ ¬ (c2 = (10 : Int32))) ∨ ¬ (¬ (c0 = (13 : Int32)) ∧ ¬ (c1 = (13 : Int32)) ∧ ¬ (c2 = (13 : Int32)))) :
    MF l Z m_30 prog_28_method_2_code 1 (some .boolean) ws (oR 8 0 0 140) #[(.ref a_)] h0 (Q_hbO3 Z a_ cs sf c0 c1 c2 h0 n0) := by
  by_cases hA : (¬ (c0 = (10 : Int32)) ∧ ¬ (c1 = (10 : Int32)) ∧ ¬ (c2 = (10 : Int32)))
  · exact rm_hbB3 l Z a0 hw ws a_ cs sf c0 c1 c2 h0 n0 Z0 P0 P1 P2 P3 P4 P5 P6 P7 hcs hsf r0 r1 r2 hA (hor.resolve_left (fun q => q hA))
  · exact rm_hbA3 l Z a0 hw ws a_ cs sf c0 c1 c2 h0 n0 Z0 P0 P1 P2 P3 P4 P5 P6 P7 hcs hsf r0 r1 r2 hA
def Q_hb0 (Z : State) (a_ : Addr) (b : Addr) (k : ClassId) (vs : List Value) (dv : Value) (cs : Int32) (h0 : Heap) (n0 : Nat) (v : Option Value) (h : Heap) (L : List Loc) : Prop := (v = some (.int 0)) ∧ (Fr n0 L) ∧ (h = h0)
theorem rm_hb0 (l : Launch) (Z : State) (a0 : Array Value) (hw : HW Z a0) (ws : List Jvm.Cond) (a_ : Addr) (b : Addr) (k : ClassId) (vs : List Value) (dv : Value) (cs : Int32) (h0 : Heap) (n0 : Nat) (Z0 : n0 ≤ h0.size) (P0 : Old Z n0 h0) (P1 : sta0 Z (.int cs)) (P2 : Exa Z h0 a_ "java/lang/String") (P3 : fld1 Z h0 a_ (.int 0)) (P4 : fld0 Z h0 a_ (.ref b)) (P5 : Arv Z h0 b k .byte (0 : Int32) vs dv) (hcs : ¬ (cs = (0 : Int32))) :
    MF l Z m_30 prog_28_method_2_code 1 (some .boolean) ws (oR 8 0 0 140) #[(.ref a_)] h0 (Q_hb0 Z a_ b k vs dv cs h0 n0) := by
  refine own_body (cls := "com/example/branchward/branchward/Ids") (plainFor_of_name pn_7) rfl (fun p e s m below meth c s₁ hx hby hml hown hnm hret hZ X0 e0 => ?_)
  have N0 := Fr.nil n0
  have lt1 := own_l P2.lt
  have lt2 := own_l P3.lt
  have lt3 := own_l P4.lt
  have lt4 := own_l P5.lt
  obtain ⟨cq5, kq5, qa5, qb5, qc5⟩ := isOf hZ e0 P2
  obtain ⟨_, _, ⟨T5, L5, k5, n5⟩, -, X5, ⟨Lc5, hQ5, l5, y5, z5⟩, st5⟩ := X0.virtualBack hx (y := m_29) (z := m_29) hown (mvT hZ (w_30 hw)) (mvT hZ (w_31 hw)) (notFace_of_selects (args := #[]) (mvT hZ (w_33 hw))) (mvT hZ (w_33 hw)) (mvT hZ (w_32 hw)) (by decide) (backOf (W := 0) (rm_i10 l Z a0 hw [] ((10 : Int32)) a_ b k vs dv cs h0 n0 (by omega) P0 P1 P2 P3 P4 P5 hcs (by decide) (by decide)) hZ (w_34 hw) (w_6 hw) (by decide) (by decide)) qa5 qc5 (g := (mkF m 3 #[vA a_] [(.int 10), (.ref a_)])) rfl (by rw [hml]; rfl) (Steps.refl _) (argsL := [(.int 10)]) (rest := []) (lenOf pd_0 rfl) rfl (Nat.le_of_eq rfl) (hb hby d390) (fun _ _ => ⟨rfl, e0, (by decide : 0 + 0 ≤ _), (by decide : 0 + 0 ≤ _)⟩)
  dsimp only [Pt.U, Pt.locs, Pt.cells, Pt.slots] at X5 l5 y5 z5 st5 hQ5
  rw [l5, y5, z5] at X5
  obtain ⟨rfl, Nq5, Kq5⟩ := hQ5
  have N5 := Fr.app N0 Nq5
  obtain ⟨cq6, kq6, qa6, qb6, qc6⟩ := isOf hZ Kq5 P2
  obtain ⟨_, _, ⟨T6, L6, k6, n6⟩, -, X6, ⟨Lc6, hQ6, l6, y6, z6⟩, st6⟩ := X5.virtualBack hx (y := m_29) (z := m_29) hown (mvT hZ (w_30 hw)) (mvT hZ (w_31 hw)) (notFace_of_selects (args := #[]) (mvT hZ (w_33 hw))) (mvT hZ (w_33 hw)) (mvT hZ (w_32 hw)) (by decide) (backOf (W := 0) (rm_i10 l Z a0 hw [] ((13 : Int32)) a_ b k vs dv cs h0 n0 (by omega) P0 P1 P2 P3 P4 P5 hcs (by decide) (by decide)) hZ (w_34 hw) (w_6 hw) (by decide) (by decide)) qa6 qc6 (g := (mkF m 12 #[vA a_] [(.int 13), (.ref a_)])) rfl (by rw [hml]; rfl) (Steps.refl _) (argsL := [(.int 13)]) (rest := []) (lenOf pd_0 rfl) rfl (Nat.le_of_eq rfl) (hb hby d397) (fun _ _ => ⟨rfl, Kq5, (by decide : 0 + 0 ≤ _), (by decide : 0 + 0 ≤ _)⟩)
  dsimp only [Pt.U, Pt.locs, Pt.cells, Pt.slots] at X6 l6 y6 z6 st6 hQ6
  rw [l6, y6, z6] at X6
  obtain ⟨rfl, Nq6, Kq6⟩ := hQ6
  have N6 := Fr.app N5 Nq6
  refine ⟨_, _, _, _, some (.int 0), X6, by decide, by decide, nofun, ?_, fun fs hr => castTop (ef_12 m a_) ?_⟩
  · show Q_hb0 Z a_ b k vs dv cs h0 n0 _ T6.heap _
    rw [(Kq6 : T6.heap = h0)]
    exact ⟨rfl, N6, rfl⟩
  · show Steps _ _ _ (s₁.setTop (mkF m 0 #[vA a_] [])) _
    refine XS.aloadN X0.here hx rfl (hb hby d388) rfl rfl ?_
    refine XS.bipush X0.here hx rfl (hb hby d389) ?_
    refine st5.trans ?_
    show Steps _ _ _ (T5.setTop (mkF m 6 #[vA a_] [(.int (-1))])) _
    refine XS.ifNo X5.here hx rfl (hb hby d391) rfl ((if0 _ _).trans (tlt ((by decide) : (-1 : Int32) < (0 : Int32))).2.1) ?_
    refine XS.aloadN X5.here hx rfl (hb hby d395) rfl rfl ?_
    refine XS.bipush X5.here hx rfl (hb hby d396) ?_
    refine st6.trans ?_
    show Steps _ _ _ (T6.setTop (mkF m 15 #[vA a_] [(.int (-1))])) _
    refine XS.ifYes X6.here hx rfl (pc0 := 15) (pc' := 22) rfl (hb hby d398) rfl ((if0 _ _).trans (tlt ((by decide) : (-1 : Int32) < (0 : Int32))).1) (by decide) (by decide) ?_
    refine XS.iconst X6.here hx rfl (hb hby d399) ?_
    exact retN X6 hx (t := .boolean) hret (by simp) (hb hby d394) hr
theorem w_0 {Z : State} {a0 : Array Value} (hw : HW Z a0) : (Jvm.Cond.methodLink "com/example/branchward/branchward/IdsHoldsLineBreakPinLaw" (7 : Nat) m_3).before a0 Z = true := hw _ (List.mem_of_getElem? (i := 0) rfl)
theorem w_3 {Z : State} {a0 : Array Value} (hw : HW Z a0) : (Jvm.Cond.code m_3 method_2_code (2 : Nat) (Option.some FieldType.char)).before a0 Z = true := hw _ (List.mem_of_getElem? (i := 3) rfl)
theorem w_2 {Z : State} {a0 : Array Value} (hw : HW Z a0) : (Jvm.Cond.initialized "com/example/branchward/branchward/IdsHoldsLineBreakPinLaw").before a0 Z = true := hw _ (List.mem_of_getElem? (i := 2) rfl)
theorem pd_18 : parseMethodDescriptor "(I)C" = some ⟨[.int], some .char⟩ := by decide +kernel
theorem w_1 {Z : State} {a0 : Array Value} (hw : HW Z a0) : (Jvm.Cond.static m_3).before a0 Z = true := hw _ (List.mem_of_getElem? (i := 1) rfl)
theorem pz_pre {p : Program} {l : Launch} {e : Env} {R : Room} {s : State} {m : MethodId} {args : Array Value} {below : List Frame} {meth : Method} {c : Code} {T : State} {locs : List Loc} {cells slots : Nat} {Z : State} {a0 : Array Value} (X0 : Stand p l e R s m args below meth c T locs cells slots) (hx : p.tables.exec = Jvm.exec) (hw : HW Z a0) (hZ : Z.Warmed39 s.vm) (hown : s.vm.findClass "com/example/branchward/branchward/IdsHoldsLineBreakPinLaw" = some m.cls) (hby : c.code = code) (hml : c.maxLocals = 10) (p0 : Int32) (p1 : Int32) (p2 : Int32) (p3 : Int32) {h0 : Heap} {n0 : Nat} (e0 : T.heap = h0) (N0 : Fr n0 locs) (Z0 : n0 ≤ h0.size) (P0 : Old Z n0 h0) (hFr : 1 ≤ R.frames) (hLo : 13 ≤ R.locals) (hCe : cells + 0 ≤ R.cells) (hSl : slots + 0 ≤ R.slots) :
    ∃ (T' : State) (h' : Heap) (locs' : List Loc), Stand p l e R s m args below meth c T' locs' (cells + 0) (slots + 0) ∧ T'.heap = h' ∧ Fr n0 locs' ∧ Keep h0 h' [] ∧ (Old Z n0 h') ∧ ∀ target, Steps p.tables e below (T'.setTop (mkF m 23 #[vI p0, vI p1, vI p2, vI p3, .val (.int (p0 &&& (3 : Int32))), .val (.int (oP p1)), .val (.int (oP p2)), .val (.int (oP p3)), .unset, .unset] [])) target → Steps p.tables e below (T.setTop (mkF m 0 #[vI p0, vI p1, vI p2, vI p3, .unset, .unset, .unset, .unset, .unset, .unset] [])) target := by
  have K0 := Keep.refl h0 []
  obtain ⟨_, _, ⟨T1, L1, k1, n1⟩, -, X1, ⟨Lc1, hQ1, l1, y1, z1⟩, st1⟩ := Jvm.LawKit.callS X0 hx (y := m_3) hown (mvT hZ (w_0 hw)) (mvT hZ (w_1 hw)) (mvT hZ (w_2 hw)) (mvT hZ (w_3 hw)) (by decide) (backOf (W := 0) (rm_pick l Z a0 hw [] p1 h0 n0 (by omega) ) hZ (w_3 hw) (w_2 hw) (Nat.le_trans (by decide) hFr) (Nat.le_trans (by decide) hLo)) (g := (mkF m 6 #[vI p0, vI p1, vI p2, vI p3, .val (.int (p0 &&& (3 : Int32))), .unset, .unset, .unset, .unset, .unset] [(.int p1)])) rfl (by rw [hml]; rfl) (argsL := [(.int p1)]) (rest := []) (lenOf pd_18 rfl) rfl (Nat.le_of_eq rfl) (hb hby at_6) (fun _ _ => ⟨rfl, e0, (by show cells + 0 + 0 ≤ _; omega), (by show slots + 0 + 0 ≤ _; omega)⟩)
  dsimp only [Pt.U, Pt.locs, Pt.cells, Pt.slots] at X1 l1 y1 z1 st1 hQ1
  rw [l1, y1, z1] at X1
  obtain ⟨rfl, Nq1, Kq1⟩ := hQ1
  have N1 := Fr.app N0 Nq1
  replace X1 : Stand p l e R s m args below meth c T1 _ (cells + 0) (slots + 0) := X1
  obtain ⟨_, _, ⟨T2, L2, k2, n2⟩, -, X2, ⟨Lc2, hQ2, l2, y2, z2⟩, st2⟩ := Jvm.LawKit.callS X1 hx (y := m_3) hown (mvT hZ (w_0 hw)) (mvT hZ (w_1 hw)) (mvT hZ (w_2 hw)) (mvT hZ (w_3 hw)) (by decide) (backOf (W := 0) (rm_pick l Z a0 hw [] p2 h0 n0 (by omega) ) hZ (w_3 hw) (w_2 hw) (Nat.le_trans (by decide) hFr) (Nat.le_trans (by decide) hLo)) (g := (mkF m 12 #[vI p0, vI p1, vI p2, vI p3, .val (.int (p0 &&& (3 : Int32))), .val (.int (oP p1)), .unset, .unset, .unset, .unset] [(.int p2)])) rfl (by rw [hml]; rfl) (argsL := [(.int p2)]) (rest := []) (lenOf pd_18 rfl) rfl (Nat.le_of_eq rfl) (hb hby at_12) (fun _ _ => ⟨rfl, Kq1, (by show cells + 0 + 0 ≤ _; omega), (by show slots + 0 + 0 ≤ _; omega)⟩)
  dsimp only [Pt.U, Pt.locs, Pt.cells, Pt.slots] at X2 l2 y2 z2 st2 hQ2
  rw [l2, y2, z2] at X2
  obtain ⟨rfl, Nq2, Kq2⟩ := hQ2
  have N2 := Fr.app N1 Nq2
  replace X2 : Stand p l e R s m args below meth c T2 _ (cells + 0) (slots + 0) := X2
  obtain ⟨_, _, ⟨T3, L3, k3, n3⟩, -, X3, ⟨Lc3, hQ3, l3, y3, z3⟩, st3⟩ := Jvm.LawKit.callS X2 hx (y := m_3) hown (mvT hZ (w_0 hw)) (mvT hZ (w_1 hw)) (mvT hZ (w_2 hw)) (mvT hZ (w_3 hw)) (by decide) (backOf (W := 0) (rm_pick l Z a0 hw [] p3 h0 n0 (by omega) ) hZ (w_3 hw) (w_2 hw) (Nat.le_trans (by decide) hFr) (Nat.le_trans (by decide) hLo)) (g := (mkF m 18 #[vI p0, vI p1, vI p2, vI p3, .val (.int (p0 &&& (3 : Int32))), .val (.int (oP p1)), .val (.int (oP p2)), .unset, .unset, .unset] [(.int p3)])) rfl (by rw [hml]; rfl) (argsL := [(.int p3)]) (rest := []) (lenOf pd_18 rfl) rfl (Nat.le_of_eq rfl) (hb hby at_18) (fun _ _ => ⟨rfl, Kq2, (by show cells + 0 + 0 ≤ _; omega), (by show slots + 0 + 0 ≤ _; omega)⟩)
  dsimp only [Pt.U, Pt.locs, Pt.cells, Pt.slots] at X3 l3 y3 z3 st3 hQ3
  rw [l3, y3, z3] at X3
  obtain ⟨rfl, Nq3, Kq3⟩ := hQ3
  have N3 := Fr.app N2 Nq3
  replace X3 : Stand p l e R s m args below meth c T3 _ (cells + 0) (slots + 0) := X3
  refine ⟨_, _, _, X3.more (by omega) (by omega), Kq3, N3, K0, P0, fun target hk => ?_⟩
  show Steps _ _ _ (T.setTop (mkF m 0 #[vI p0, vI p1, vI p2, vI p3, .unset, .unset, .unset, .unset, .unset, .unset] [])) _
  refine XS.iloadN X0.here hx rfl (hb hby at_0) rfl ?_
  refine XS.iconst X0.here hx rfl (hb hby at_1) ?_
  refine XS.iand X0.here hx rfl (hb hby at_2) rfl ?_
  refine XS.istore X0.here hx rfl (hb hby at_3) rfl (l' := #[vI p0, vI p1, vI p2, vI p3, .val (.int (p0 &&& (3 : Int32))), .unset, .unset, .unset, .unset, .unset]) rfl ?_
  refine XS.iloadN X0.here hx rfl (hb hby at_5) rfl ?_
  refine st1 _ ?_
  show Steps _ _ _ (T1.setTop (mkF m 9 #[vI p0, vI p1, vI p2, vI p3, .val (.int (p0 &&& (3 : Int32))), .unset, .unset, .unset, .unset, .unset] [(.int (oP p1))])) _
  refine XS.istore X1.here hx rfl (hb hby at_9) rfl (l' := #[vI p0, vI p1, vI p2, vI p3, .val (.int (p0 &&& (3 : Int32))), .val (.int (oP p1)), .unset, .unset, .unset, .unset]) rfl ?_
  refine XS.iloadN X1.here hx rfl (hb hby at_11) rfl ?_
  refine st2 _ ?_
  show Steps _ _ _ (T2.setTop (mkF m 15 #[vI p0, vI p1, vI p2, vI p3, .val (.int (p0 &&& (3 : Int32))), .val (.int (oP p1)), .unset, .unset, .unset, .unset] [(.int (oP p2))])) _
  refine XS.istore X2.here hx rfl (hb hby at_15) rfl (l' := #[vI p0, vI p1, vI p2, vI p3, .val (.int (p0 &&& (3 : Int32))), .val (.int (oP p1)), .val (.int (oP p2)), .unset, .unset, .unset]) rfl ?_
  refine XS.iloadN X2.here hx rfl (hb hby at_17) rfl ?_
  refine st3 _ ?_
  show Steps _ _ _ (T3.setTop (mkF m 21 #[vI p0, vI p1, vI p2, vI p3, .val (.int (p0 &&& (3 : Int32))), .val (.int (oP p1)), .val (.int (oP p2)), .unset, .unset, .unset] [(.int (oP p3))])) _
  refine XS.istore X3.here hx rfl (hb hby at_21) rfl (l' := #[vI p0, vI p1, vI p2, vI p3, .val (.int (p0 &&& (3 : Int32))), .val (.int (oP p1)), .val (.int (oP p2)), .val (.int (oP p3)), .unset, .unset]) rfl ?_
  exact hk
theorem w_4 {Z : State} {a0 : Array Value} (hw : HW Z a0) : (Jvm.Cond.classLink "com/example/branchward/branchward/IdsHoldsLineBreakPinLaw" (13 : Nat) "java/lang/String").before a0 Z = true := hw _ (List.mem_of_getElem? (i := 4) rfl)
theorem w_7 {Z : State} {a0 : Array Value} (hw : HW Z a0) : (Jvm.Cond.arrayClass FieldType.char).before a0 Z = true := hw _ (List.mem_of_getElem? (i := 7) rfl)
theorem w_8 {Z : State} {a0 : Array Value} (hw : HW Z a0) : (Jvm.Cond.methodLink "com/example/branchward/branchward/IdsHoldsLineBreakPinLaw" (15 : Nat) m_15).before a0 Z = true := hw _ (List.mem_of_getElem? (i := 8) rfl)
theorem w_10 {Z : State} {a0 : Array Value} (hw : HW Z a0) : (Jvm.Cond.code m_15 jdk_42_method_3_code (2 : Nat) (Option.none : Option Jvm.ClassFile.FieldType)).before a0 Z = true := hw _ (List.mem_of_getElem? (i := 10) rfl)
theorem pd_19 : parseMethodDescriptor "([C)V" = some ⟨[(.array .char)], none⟩ := by decide +kernel
theorem w_9 {Z : State} {a0 : Array Value} (hw : HW Z a0) : (Jvm.Cond.instanceMethod m_15).before a0 Z = true := hw _ (List.mem_of_getElem? (i := 9) rfl)
theorem pz_mk1 {p : Program} {l : Launch} {e : Env} {R : Room} {s : State} {m : MethodId} {args : Array Value} {below : List Frame} {meth : Method} {c : Code} {T : State} {locs : List Loc} {cells slots : Nat} {Z : State} {a0 : Array Value} (X0 : Stand p l e R s m args below meth c T locs cells slots) (hx : p.tables.exec = Jvm.exec) (hw : HW Z a0) (hZ : Z.Warmed39 s.vm) (hown : s.vm.findClass "com/example/branchward/branchward/IdsHoldsLineBreakPinLaw" = some m.cls) (hby : c.code = code) (hml : c.maxLocals = 10) (p0 : Int32) (p1 : Int32) (p2 : Int32) (p3 : Int32) (c0 : Int32) (c1 : Int32) (c2 : Int32) (cs : Int32) {h0 : Heap} {n0 : Nat} (e0 : T.heap = h0) (N0 : Fr n0 locs) (Z0 : n0 ≤ h0.size) (P0 : Old Z n0 h0) (P1 : sta0 Z (.int cs)) (P2 : sta1 Z (.int 1)) (P3 : sta2 Z (.int 0)) (P4 : sta3 Z (.int 8)) (hcs : ¬ (cs = (0 : Int32))) (r0 : ¬ c0 < 0 ∧ ¬ (65535 : Int32) < c0) (hFr : 6 ≤ R.frames) (hLo : 88 ≤ R.locals) (hCe : cells + 4 ≤ R.cells) (hSl : slots + 8 ≤ R.slots) :
    ∃ (T' : State) (h' : Heap) (locs' : List Loc) (a_ : Addr), Stand p l e R s m args below meth c T' locs' (cells + 4) (slots + 8) ∧ T'.heap = h' ∧ Fr n0 locs' ∧ Keep h0 h' [] ∧ (Exa Z h' a_ "java/lang/String") ∧ ((SL Z h' a_ [c0] ∨ SU Z h' a_ [c0])) ∧ (Old Z n0 h') ∧ ∀ target, Steps p.tables e below (T'.setTop (mkF m 69 #[vI p0, vI p1, vI p2, vI p3, .val (.int (p0 &&& (3 : Int32))), vI c0, vI c1, vI c2, vA a_, .unset] [])) target → Steps p.tables e below (T.setTop (mkF m 52 #[vI p0, vI p1, vI p2, vI p3, .val (.int (p0 &&& (3 : Int32))), vI c0, vI c1, vI c2, .unset, .unset] [])) target := by
  have K0 := Keep.refl h0 []
  obtain ⟨T1, h1, X1, e1, E1, A1, D1, -, st1⟩ := newO X0 hx hZ hown (w_4 hw) (w_5 hw) (w_6 hw) e0 (g := (mkF m 52 #[vI p0, vI p1, vI p2, vI p3, .val (.int (p0 &&& (3 : Int32))), vI c0, vI c1, vI c2, .unset, .unset] [])) rfl (hb hby at_52) (by omega) (by omega)
  obtain ⟨b1, g1⟩ : ∃ z, z = h0.size := ⟨_, rfl⟩
  rw [← g1] at A1 D1 st1
  have z1 := E1.1
  have K1 := K0.ext E1
  replace X1 : Stand p l e R s m args below meth c T1 _ (cells + 1) (slots + 4) := X1
  have lt2 := own_l A1.lt
  have F1_20 : Fld Z h1 b1 "java/lang/String" "value" "[B" .null := D1 (Or.inr (w_20 hw)) (ty := (.array .byte)) (by decide)
  have F1_21 : Fld Z h1 b1 "java/lang/String" "coder" "B" (.int 0) := D1 (Or.inr (w_21 hw)) (ty := .byte) (by decide)
  obtain ⟨T3, h3, k3, X3, e3, E3, A3, st3⟩ := newP X1 hx hZ (aty := .char) (w_7 hw) e1 (g := (mkF m 57 #[vI p0, vI p1, vI p2, vI p3, .val (.int (p0 &&& (3 : Int32))), vI c0, vI c1, vI c2, .unset, .unset] [(.int 1), (.ref b1), (.ref b1)])) rfl (hb hby at_57) rfl (by decide) (cap := 1) (by decide) (by decide) (by omega) (by omega)
  obtain ⟨b3, g3⟩ : ∃ z, z = h1.size := ⟨_, rfl⟩
  rw [← g3] at A3 st3
  have z3 := E3.1
  have K3 := K1.ext E3
  replace X3 : Stand p l e R s m args below meth c T3 _ (cells + 2) (slots + 5) := X3
  have V3 : Arv Z h3 b3 k3 .char (1 : Int32) [(.int 0)] (.int 0) := (Arv.new A3 (by decide)).pad (pad_rep [] (.int 0) 1)
  have lt4 := own_l V3.lt
  obtain ⟨cl5, Ar5, q5, S5, M5, H5, G5⟩ := id V3
  have hin5 : ¬ ((0 : Int32) < 0 ∨ cl5.slots.size ≤ ((0 : Int32)).toNatClampNeg) := inb_of S5 ⟨by decide, by decide⟩
  obtain ⟨T5, h5, X5, e5, W5, st5⟩ := stC X3 hx hZ e3 Ar5 (j := (0 : Int32)) hin5 (g := (mkF m 63 #[vI p0, vI p1, vI p2, vI p3, .val (.int (p0 &&& (3 : Int32))), vI c0, vI c1, vI c2, .unset, .unset] [(.int c0), (.int 0), (.ref b3), (.ref b3), (.ref b1), (.ref b1)])) rfl rfl (hb hby at_63)
  have V5 : Arv Z h5 b3 k3 .char (1 : Int32) [(.int (nar .char c0))] (.int 0) := Arv.set Ar5 q5 S5 M5 H5 G5 (fits_nar_char c0) W5 0 rfl (Nat.le_of_ble_eq_true rfl)
  have z5 := W5.size
  have K5 := K3.wr W5 (Or.inr (by omega))
  have N5 := Fr.snoc X5 N0 (by omega)
  have V6 : Arv Z h5 b3 k3 .char (1 : Int32) [(.int c0)] (.int 0) := by have q := V5; simp only [own_nar r0] at q; exact q
  have f8 := A1.ext E3
  have f9 := f8.wr W5
  have f10 := F1_20.ext E3
  have f11 := f10.other W5 (Or.inl (own_ne (by omega)))
  have f12 := F1_21.ext E3
  have f13 := f12.other W5 (Or.inl (own_ne (by omega)))
  have f14 := P0.ext E1
  have f15 := f14.ext E3
  have f16 := f15.wr W5 (by omega)
  obtain ⟨_, _, ⟨T7, L7, k7, n7⟩, -, X7, ⟨Lc7, hQ7, l7, y7, z7⟩, st7⟩ := X5.specialBack hx (y := m_15) rfl hown (mvT hZ (w_8 hw)) (mvT hZ (w_9 hw)) (mvT hZ (w_10 hw)) (by decide) (backOf (W := 1) (rm_str1 l Z a0 hw [] b1 b3 ((0 : Int32)) c0 k3 cs h5 n0 (by omega) f9 f11 f13 (by omega) V6 f16 P1 P2 P3 P4 hcs r0) hZ (w_10 hw) (w_6 hw) (Nat.le_trans (by decide) hFr) (Nat.le_trans (by decide) hLo)) (g := (mkF m 64 #[vI p0, vI p1, vI p2, vI p3, .val (.int (p0 &&& (3 : Int32))), vI c0, vI c1, vI c2, .unset, .unset] [(.ref b3), (.ref b1), (.ref b1)])) rfl (by rw [hml]; rfl) (Steps.refl _) (a := b1) (argsL := [(.ref b3)]) (rest := [(.ref b1)]) (lenOf pd_19 rfl) rfl (Nat.le_of_eq rfl) (hb hby at_64) (fun _ _ => ⟨rfl, e5, (by show cells + 2 + 2 ≤ _; omega), (by show slots + 5 + 3 ≤ _; omega)⟩)
  dsimp only [Pt.U, Pt.locs, Pt.cells, Pt.slots] at X7 l7 y7 z7 st7 hQ7
  rw [l7, y7, z7] at X7
  obtain ⟨rfl, Nq7, Kq7, r7_0, r7_1, r7_2⟩ := hQ7
  have N7 := Fr.app N5 Nq7
  have z7' := Kq7.1
  have K7 := K5.trans Kq7 (allS (Or.inr (by omega)) all0)
  have lt17 := own_l r7_0.lt
  replace X7 : Stand p l e R s m args below meth c T7 _ (cells + 4) (slots + 8) := X7
  refine ⟨_, _, _, b1, X7.more (by omega) (by omega), rfl, N7, K7, r7_0, r7_2, r7_1, fun target hk => ?_⟩
  show Steps _ _ _ (T.setTop (mkF m 52 #[vI p0, vI p1, vI p2, vI p3, .val (.int (p0 &&& (3 : Int32))), vI c0, vI c1, vI c2, .unset, .unset] [])) _
  refine st1 _ ?_
  show Steps _ _ _ (T1.setTop (mkF m 55 #[vI p0, vI p1, vI p2, vI p3, .val (.int (p0 &&& (3 : Int32))), vI c0, vI c1, vI c2, .unset, .unset] [(.ref b1)])) _
  refine XS.dup X1.here hx rfl (hb hby at_55) rfl rfl ?_
  refine XS.iconst X1.here hx rfl (hb hby at_56) ?_
  refine st3 _ ?_
  show Steps _ _ _ (T3.setTop (mkF m 59 #[vI p0, vI p1, vI p2, vI p3, .val (.int (p0 &&& (3 : Int32))), vI c0, vI c1, vI c2, .unset, .unset] [(.ref b3), (.ref b1), (.ref b1)])) _
  refine XS.dup X3.here hx rfl (hb hby at_59) rfl rfl ?_
  refine XS.iconst X3.here hx rfl (hb hby at_60) ?_
  refine XS.iload X3.here hx rfl (hb hby at_61) rfl ?_
  refine st5 _ ?_
  show Steps _ _ _ (T5.setTop (mkF m 64 #[vI p0, vI p1, vI p2, vI p3, .val (.int (p0 &&& (3 : Int32))), vI c0, vI c1, vI c2, .unset, .unset] [(.ref b3), (.ref b1), (.ref b1)])) _
  refine st7.trans ?_
  show Steps _ _ _ (T7.setTop (mkF m 67 #[vI p0, vI p1, vI p2, vI p3, .val (.int (p0 &&& (3 : Int32))), vI c0, vI c1, vI c2, .unset, .unset] [(.ref b1)])) _
  refine XS.astore X7.here hx rfl (hb hby at_67) rfl rfl (l' := #[vI p0, vI p1, vI p2, vI p3, .val (.int (p0 &&& (3 : Int32))), vI c0, vI c1, vI c2, vA b1, .unset]) rfl ?_
  exact hk
theorem pz_mk2 {p : Program} {l : Launch} {e : Env} {R : Room} {s : State} {m : MethodId} {args : Array Value} {below : List Frame} {meth : Method} {c : Code} {T : State} {locs : List Loc} {cells slots : Nat} {Z : State} {a0 : Array Value} (X0 : Stand p l e R s m args below meth c T locs cells slots) (hx : p.tables.exec = Jvm.exec) (hw : HW Z a0) (hZ : Z.Warmed39 s.vm) (hown : s.vm.findClass "com/example/branchward/branchward/IdsHoldsLineBreakPinLaw" = some m.cls) (hby : c.code = code) (hml : c.maxLocals = 10) (p0 : Int32) (p1 : Int32) (p2 : Int32) (p3 : Int32) (c0 : Int32) (c1 : Int32) (c2 : Int32) (cs : Int32) {h0 : Heap} {n0 : Nat} (e0 : T.heap = h0) (N0 : Fr n0 locs) (Z0 : n0 ≤ h0.size) (P0 : Old Z n0 h0) (P1 : sta0 Z (.int cs)) (P2 : sta1 Z (.int 1)) (P3 : sta2 Z (.int 0)) (P4 : sta3 Z (.int 8)) (hcs : ¬ (cs = (0 : Int32))) (r0 : ¬ c0 < 0 ∧ ¬ (65535 : Int32) < c0) (r1 : ¬ c1 < 0 ∧ ¬ (65535 : Int32) < c1) (hFr : 6 ≤ R.frames) (hLo : 88 ≤ R.locals) (hCe : cells + 4 ≤ R.cells) (hSl : slots + 12 ≤ R.slots) :
    ∃ (T' : State) (h' : Heap) (locs' : List Loc) (a_ : Addr), Stand p l e R s m args below meth c T' locs' (cells + 4) (slots + 12) ∧ T'.heap = h' ∧ Fr n0 locs' ∧ Keep h0 h' [] ∧ (Exa Z h' a_ "java/lang/String") ∧ ((SL Z h' a_ [c0, c1] ∨ SU Z h' a_ [c0, c1])) ∧ (Old Z n0 h') ∧ ∀ target, Steps p.tables e below (T'.setTop (mkF m 107 #[vI p0, vI p1, vI p2, vI p3, .val (.int (p0 &&& (3 : Int32))), vI c0, vI c1, vI c2, vA a_, .unset] [])) target → Steps p.tables e below (T.setTop (mkF m 85 #[vI p0, vI p1, vI p2, vI p3, .val (.int (p0 &&& (3 : Int32))), vI c0, vI c1, vI c2, .unset, .unset] [])) target := by
  have K0 := Keep.refl h0 []
  obtain ⟨T1, h1, X1, e1, E1, A1, D1, -, st1⟩ := newO X0 hx hZ hown (w_4 hw) (w_5 hw) (w_6 hw) e0 (g := (mkF m 85 #[vI p0, vI p1, vI p2, vI p3, .val (.int (p0 &&& (3 : Int32))), vI c0, vI c1, vI c2, .unset, .unset] [])) rfl (hb hby at_85) (by omega) (by omega)
  obtain ⟨b1, g1⟩ : ∃ z, z = h0.size := ⟨_, rfl⟩
  rw [← g1] at A1 D1 st1
  have z1 := E1.1
  have K1 := K0.ext E1
  replace X1 : Stand p l e R s m args below meth c T1 _ (cells + 1) (slots + 4) := X1
  have lt2 := own_l A1.lt
  have F1_20 : Fld Z h1 b1 "java/lang/String" "value" "[B" .null := D1 (Or.inr (w_20 hw)) (ty := (.array .byte)) (by decide)
  have F1_21 : Fld Z h1 b1 "java/lang/String" "coder" "B" (.int 0) := D1 (Or.inr (w_21 hw)) (ty := .byte) (by decide)
  obtain ⟨T3, h3, k3, X3, e3, E3, A3, st3⟩ := newP X1 hx hZ (aty := .char) (w_7 hw) e1 (g := (mkF m 90 #[vI p0, vI p1, vI p2, vI p3, .val (.int (p0 &&& (3 : Int32))), vI c0, vI c1, vI c2, .unset, .unset] [(.int 2), (.ref b1), (.ref b1)])) rfl (hb hby at_90) rfl (by decide) (cap := 2) (by decide) (by decide) (by omega) (by omega)
  obtain ⟨b3, g3⟩ : ∃ z, z = h1.size := ⟨_, rfl⟩
  rw [← g3] at A3 st3
  have z3 := E3.1
  have K3 := K1.ext E3
  replace X3 : Stand p l e R s m args below meth c T3 _ (cells + 2) (slots + 6) := X3
  have V3 : Arv Z h3 b3 k3 .char (2 : Int32) [(.int 0), (.int 0)] (.int 0) := (Arv.new A3 (by decide)).pad (pad_rep [] (.int 0) 2)
  have lt4 := own_l V3.lt
  obtain ⟨cl5, Ar5, q5, S5, M5, H5, G5⟩ := id V3
  have hin5 : ¬ ((0 : Int32) < 0 ∨ cl5.slots.size ≤ ((0 : Int32)).toNatClampNeg) := inb_of S5 ⟨by decide, by decide⟩
  obtain ⟨T5, h5, X5, e5, W5, st5⟩ := stC X3 hx hZ e3 Ar5 (j := (0 : Int32)) hin5 (g := (mkF m 96 #[vI p0, vI p1, vI p2, vI p3, .val (.int (p0 &&& (3 : Int32))), vI c0, vI c1, vI c2, .unset, .unset] [(.int c0), (.int 0), (.ref b3), (.ref b3), (.ref b1), (.ref b1)])) rfl rfl (hb hby at_96)
  have V5 : Arv Z h5 b3 k3 .char (2 : Int32) [(.int (nar .char c0)), (.int 0)] (.int 0) := Arv.set Ar5 q5 S5 M5 H5 G5 (fits_nar_char c0) W5 0 rfl (Nat.le_of_ble_eq_true rfl)
  have z5 := W5.size
  have K5 := K3.wr W5 (Or.inr (by omega))
  have N5 := Fr.snoc X5 N0 (by omega)
  obtain ⟨cl6, Ar6, q6, S6, M6, H6, G6⟩ := id V5
  have hin6 : ¬ ((1 : Int32) < 0 ∨ cl6.slots.size ≤ ((1 : Int32)).toNatClampNeg) := inb_of S6 ⟨by decide, by decide⟩
  obtain ⟨T6, h6, X6, e6, W6, st6⟩ := stC X5 hx hZ e5 Ar6 (j := (1 : Int32)) hin6 (g := (mkF m 101 #[vI p0, vI p1, vI p2, vI p3, .val (.int (p0 &&& (3 : Int32))), vI c0, vI c1, vI c2, .unset, .unset] [(.int c1), (.int 1), (.ref b3), (.ref b3), (.ref b1), (.ref b1)])) rfl rfl (hb hby at_101)
  have V6 : Arv Z h6 b3 k3 .char (2 : Int32) [(.int (nar .char c0)), (.int (nar .char c1))] (.int 0) := Arv.set Ar6 q6 S6 M6 H6 G6 (fits_nar_char c1) W6 1 rfl (Nat.le_of_ble_eq_true rfl)
  have z6 := W6.size
  have K6 := K5.wr W6 (Or.inr (by omega))
  have N6 := Fr.snoc X6 N5 (by omega)
  have V7 : Arv Z h6 b3 k3 .char (2 : Int32) [(.int c0), (.int c1)] (.int 0) := by have q := V6; simp only [own_nar r0, own_nar r1] at q; exact q
  have f9 := A1.ext E3
  have f10 := f9.wr W5
  have f11 := f10.wr W6
  have f12 := F1_20.ext E3
  have f13 := f12.other W5 (Or.inl (own_ne (by omega)))
  have f14 := f13.other W6 (Or.inl (own_ne (by omega)))
  have f15 := F1_21.ext E3
  have f16 := f15.other W5 (Or.inl (own_ne (by omega)))
  have f17 := f16.other W6 (Or.inl (own_ne (by omega)))
  have f18 := P0.ext E1
  have f19 := f18.ext E3
  have f20 := f19.wr W5 (by omega)
  have f21 := f20.wr W6 (by omega)
  obtain ⟨_, _, ⟨T8, L8, k8, n8⟩, -, X8, ⟨Lc8, hQ8, l8, y8, z8⟩, st8⟩ := X6.specialBack hx (y := m_15) rfl hown (mvT hZ (w_8 hw)) (mvT hZ (w_9 hw)) (mvT hZ (w_10 hw)) (by decide) (backOf (W := 1) (rm_str2 l Z a0 hw [] b1 b3 ((0 : Int32)) c0 c1 k3 cs h6 n0 (by omega) f11 f14 f17 (by omega) V7 f21 P1 P2 P3 P4 hcs r0 r1) hZ (w_10 hw) (w_6 hw) (Nat.le_trans (by decide) hFr) (Nat.le_trans (by decide) hLo)) (g := (mkF m 102 #[vI p0, vI p1, vI p2, vI p3, .val (.int (p0 &&& (3 : Int32))), vI c0, vI c1, vI c2, .unset, .unset] [(.ref b3), (.ref b1), (.ref b1)])) rfl (by rw [hml]; rfl) (Steps.refl _) (a := b1) (argsL := [(.ref b3)]) (rest := [(.ref b1)]) (lenOf pd_19 rfl) rfl (Nat.le_of_eq rfl) (hb hby at_102) (fun _ _ => ⟨rfl, e6, (by show cells + 2 + 2 ≤ _; omega), (by show slots + 6 + 6 ≤ _; omega)⟩)
  dsimp only [Pt.U, Pt.locs, Pt.cells, Pt.slots] at X8 l8 y8 z8 st8 hQ8
  rw [l8, y8, z8] at X8
  obtain ⟨rfl, Nq8, Kq8, r8_0, r8_1, r8_2⟩ := hQ8
  have N8 := Fr.app N6 Nq8
  have z8' := Kq8.1
  have K8 := K6.trans Kq8 (allS (Or.inr (by omega)) all0)
  have lt22 := own_l r8_0.lt
  replace X8 : Stand p l e R s m args below meth c T8 _ (cells + 4) (slots + 12) := X8
  refine ⟨_, _, _, b1, X8.more (by omega) (by omega), rfl, N8, K8, r8_0, r8_2, r8_1, fun target hk => ?_⟩
  show Steps _ _ _ (T.setTop (mkF m 85 #[vI p0, vI p1, vI p2, vI p3, .val (.int (p0 &&& (3 : Int32))), vI c0, vI c1, vI c2, .unset, .unset] [])) _
  refine st1 _ ?_
  show Steps _ _ _ (T1.setTop (mkF m 88 #[vI p0, vI p1, vI p2, vI p3, .val (.int (p0 &&& (3 : Int32))), vI c0, vI c1, vI c2, .unset, .unset] [(.ref b1)])) _
  refine XS.dup X1.here hx rfl (hb hby at_88) rfl rfl ?_
  refine XS.iconst X1.here hx rfl (hb hby at_89) ?_
  refine st3 _ ?_
  show Steps _ _ _ (T3.setTop (mkF m 92 #[vI p0, vI p1, vI p2, vI p3, .val (.int (p0 &&& (3 : Int32))), vI c0, vI c1, vI c2, .unset, .unset] [(.ref b3), (.ref b1), (.ref b1)])) _
  refine XS.dup X3.here hx rfl (hb hby at_92) rfl rfl ?_
  refine XS.iconst X3.here hx rfl (hb hby at_93) ?_
  refine XS.iload X3.here hx rfl (hb hby at_94) rfl ?_
  refine st5 _ ?_
  show Steps _ _ _ (T5.setTop (mkF m 97 #[vI p0, vI p1, vI p2, vI p3, .val (.int (p0 &&& (3 : Int32))), vI c0, vI c1, vI c2, .unset, .unset] [(.ref b3), (.ref b1), (.ref b1)])) _
  refine XS.dup X5.here hx rfl (hb hby at_97) rfl rfl ?_
  refine XS.iconst X5.here hx rfl (hb hby at_98) ?_
  refine XS.iload X5.here hx rfl (hb hby at_99) rfl ?_
  refine st6 _ ?_
  show Steps _ _ _ (T6.setTop (mkF m 102 #[vI p0, vI p1, vI p2, vI p3, .val (.int (p0 &&& (3 : Int32))), vI c0, vI c1, vI c2, .unset, .unset] [(.ref b3), (.ref b1), (.ref b1)])) _
  refine st8.trans ?_
  show Steps _ _ _ (T8.setTop (mkF m 105 #[vI p0, vI p1, vI p2, vI p3, .val (.int (p0 &&& (3 : Int32))), vI c0, vI c1, vI c2, .unset, .unset] [(.ref b1)])) _
  refine XS.astore X8.here hx rfl (hb hby at_105) rfl rfl (l' := #[vI p0, vI p1, vI p2, vI p3, .val (.int (p0 &&& (3 : Int32))), vI c0, vI c1, vI c2, vA b1, .unset]) rfl ?_
  exact hk
theorem pz_mk3 {p : Program} {l : Launch} {e : Env} {R : Room} {s : State} {m : MethodId} {args : Array Value} {below : List Frame} {meth : Method} {c : Code} {T : State} {locs : List Loc} {cells slots : Nat} {Z : State} {a0 : Array Value} (X0 : Stand p l e R s m args below meth c T locs cells slots) (hx : p.tables.exec = Jvm.exec) (hw : HW Z a0) (hZ : Z.Warmed39 s.vm) (hown : s.vm.findClass "com/example/branchward/branchward/IdsHoldsLineBreakPinLaw" = some m.cls) (hby : c.code = code) (hml : c.maxLocals = 10) (p0 : Int32) (p1 : Int32) (p2 : Int32) (p3 : Int32) (c0 : Int32) (c1 : Int32) (c2 : Int32) (cs : Int32) {h0 : Heap} {n0 : Nat} (e0 : T.heap = h0) (N0 : Fr n0 locs) (Z0 : n0 ≤ h0.size) (P0 : Old Z n0 h0) (P1 : sta0 Z (.int cs)) (P2 : sta1 Z (.int 1)) (P3 : sta2 Z (.int 0)) (P4 : sta3 Z (.int 8)) (hcs : ¬ (cs = (0 : Int32))) (r0 : ¬ c0 < 0 ∧ ¬ (65535 : Int32) < c0) (r1 : ¬ c1 < 0 ∧ ¬ (65535 : Int32) < c1) (r2 : ¬ c2 < 0 ∧ ¬ (65535 : Int32) < c2) (hFr : 6 ≤ R.frames) (hLo : 88 ≤ R.locals) (hCe : cells + 4 ≤ R.cells) (hSl : slots + 16 ≤ R.slots) :
    ∃ (T' : State) (h' : Heap) (locs' : List Loc) (a_ : Addr), Stand p l e R s m args below meth c T' locs' (cells + 4) (slots + 16) ∧ T'.heap = h' ∧ Fr n0 locs' ∧ Keep h0 h' [] ∧ (Exa Z h' a_ "java/lang/String") ∧ ((SL Z h' a_ [c0, c1, c2] ∨ SU Z h' a_ [c0, c1, c2])) ∧ (Old Z n0 h') ∧ ∀ target, Steps p.tables e below (T'.setTop (mkF m 160 #[vI p0, vI p1, vI p2, vI p3, .val (.int (p0 &&& (3 : Int32))), vI c0, vI c1, vI c2, vA a_, .unset] [])) target → Steps p.tables e below (T.setTop (mkF m 133 #[vI p0, vI p1, vI p2, vI p3, .val (.int (p0 &&& (3 : Int32))), vI c0, vI c1, vI c2, .unset, .unset] [])) target := by
  have K0 := Keep.refl h0 []
  obtain ⟨T1, h1, X1, e1, E1, A1, D1, -, st1⟩ := newO X0 hx hZ hown (w_4 hw) (w_5 hw) (w_6 hw) e0 (g := (mkF m 133 #[vI p0, vI p1, vI p2, vI p3, .val (.int (p0 &&& (3 : Int32))), vI c0, vI c1, vI c2, .unset, .unset] [])) rfl (hb hby at_133) (by omega) (by omega)
  obtain ⟨b1, g1⟩ : ∃ z, z = h0.size := ⟨_, rfl⟩
  rw [← g1] at A1 D1 st1
  have z1 := E1.1
  have K1 := K0.ext E1
  replace X1 : Stand p l e R s m args below meth c T1 _ (cells + 1) (slots + 4) := X1
  have lt2 := own_l A1.lt
  have F1_20 : Fld Z h1 b1 "java/lang/String" "value" "[B" .null := D1 (Or.inr (w_20 hw)) (ty := (.array .byte)) (by decide)
  have F1_21 : Fld Z h1 b1 "java/lang/String" "coder" "B" (.int 0) := D1 (Or.inr (w_21 hw)) (ty := .byte) (by decide)
  obtain ⟨T3, h3, k3, X3, e3, E3, A3, st3⟩ := newP X1 hx hZ (aty := .char) (w_7 hw) e1 (g := (mkF m 138 #[vI p0, vI p1, vI p2, vI p3, .val (.int (p0 &&& (3 : Int32))), vI c0, vI c1, vI c2, .unset, .unset] [(.int 3), (.ref b1), (.ref b1)])) rfl (hb hby at_138) rfl (by decide) (cap := 3) (by decide) (by decide) (by omega) (by omega)
  obtain ⟨b3, g3⟩ : ∃ z, z = h1.size := ⟨_, rfl⟩
  rw [← g3] at A3 st3
  have z3 := E3.1
  have K3 := K1.ext E3
  replace X3 : Stand p l e R s m args below meth c T3 _ (cells + 2) (slots + 7) := X3
  have V3 : Arv Z h3 b3 k3 .char (3 : Int32) [(.int 0), (.int 0), (.int 0)] (.int 0) := (Arv.new A3 (by decide)).pad (pad_rep [] (.int 0) 3)
  have lt4 := own_l V3.lt
  obtain ⟨cl5, Ar5, q5, S5, M5, H5, G5⟩ := id V3
  have hin5 : ¬ ((0 : Int32) < 0 ∨ cl5.slots.size ≤ ((0 : Int32)).toNatClampNeg) := inb_of S5 ⟨by decide, by decide⟩
  obtain ⟨T5, h5, X5, e5, W5, st5⟩ := stC X3 hx hZ e3 Ar5 (j := (0 : Int32)) hin5 (g := (mkF m 144 #[vI p0, vI p1, vI p2, vI p3, .val (.int (p0 &&& (3 : Int32))), vI c0, vI c1, vI c2, .unset, .unset] [(.int c0), (.int 0), (.ref b3), (.ref b3), (.ref b1), (.ref b1)])) rfl rfl (hb hby at_144)
  have V5 : Arv Z h5 b3 k3 .char (3 : Int32) [(.int (nar .char c0)), (.int 0), (.int 0)] (.int 0) := Arv.set Ar5 q5 S5 M5 H5 G5 (fits_nar_char c0) W5 0 rfl (Nat.le_of_ble_eq_true rfl)
  have z5 := W5.size
  have K5 := K3.wr W5 (Or.inr (by omega))
  have N5 := Fr.snoc X5 N0 (by omega)
  obtain ⟨cl6, Ar6, q6, S6, M6, H6, G6⟩ := id V5
  have hin6 : ¬ ((1 : Int32) < 0 ∨ cl6.slots.size ≤ ((1 : Int32)).toNatClampNeg) := inb_of S6 ⟨by decide, by decide⟩
  obtain ⟨T6, h6, X6, e6, W6, st6⟩ := stC X5 hx hZ e5 Ar6 (j := (1 : Int32)) hin6 (g := (mkF m 149 #[vI p0, vI p1, vI p2, vI p3, .val (.int (p0 &&& (3 : Int32))), vI c0, vI c1, vI c2, .unset, .unset] [(.int c1), (.int 1), (.ref b3), (.ref b3), (.ref b1), (.ref b1)])) rfl rfl (hb hby at_149)
  have V6 : Arv Z h6 b3 k3 .char (3 : Int32) [(.int (nar .char c0)), (.int (nar .char c1)), (.int 0)] (.int 0) := Arv.set Ar6 q6 S6 M6 H6 G6 (fits_nar_char c1) W6 1 rfl (Nat.le_of_ble_eq_true rfl)
  have z6 := W6.size
  have K6 := K5.wr W6 (Or.inr (by omega))
  have N6 := Fr.snoc X6 N5 (by omega)
  obtain ⟨cl7, Ar7, q7, S7, M7, H7, G7⟩ := id V6
  have hin7 : ¬ ((2 : Int32) < 0 ∨ cl7.slots.size ≤ ((2 : Int32)).toNatClampNeg) := inb_of S7 ⟨by decide, by decide⟩
  obtain ⟨T7, h7, X7, e7, W7, st7⟩ := stC X6 hx hZ e6 Ar7 (j := (2 : Int32)) hin7 (g := (mkF m 154 #[vI p0, vI p1, vI p2, vI p3, .val (.int (p0 &&& (3 : Int32))), vI c0, vI c1, vI c2, .unset, .unset] [(.int c2), (.int 2), (.ref b3), (.ref b3), (.ref b1), (.ref b1)])) rfl rfl (hb hby at_154)
  have V7 : Arv Z h7 b3 k3 .char (3 : Int32) [(.int (nar .char c0)), (.int (nar .char c1)), (.int (nar .char c2))] (.int 0) := Arv.set Ar7 q7 S7 M7 H7 G7 (fits_nar_char c2) W7 2 rfl (Nat.le_of_ble_eq_true rfl)
  have z7 := W7.size
  have K7 := K6.wr W7 (Or.inr (by omega))
  have N7 := Fr.snoc X7 N6 (by omega)
  have V8 : Arv Z h7 b3 k3 .char (3 : Int32) [(.int c0), (.int c1), (.int c2)] (.int 0) := by have q := V7; simp only [own_nar r0, own_nar r1, own_nar r2] at q; exact q
  have f10 := A1.ext E3
  have f11 := f10.wr W5
  have f12 := f11.wr W6
  have f13 := f12.wr W7
  have f14 := F1_20.ext E3
  have f15 := f14.other W5 (Or.inl (own_ne (by omega)))
  have f16 := f15.other W6 (Or.inl (own_ne (by omega)))
  have f17 := f16.other W7 (Or.inl (own_ne (by omega)))
  have f18 := F1_21.ext E3
  have f19 := f18.other W5 (Or.inl (own_ne (by omega)))
  have f20 := f19.other W6 (Or.inl (own_ne (by omega)))
  have f21 := f20.other W7 (Or.inl (own_ne (by omega)))
  have f22 := P0.ext E1
  have f23 := f22.ext E3
  have f24 := f23.wr W5 (by omega)
  have f25 := f24.wr W6 (by omega)
  have f26 := f25.wr W7 (by omega)
  obtain ⟨_, _, ⟨T9, L9, k9, n9⟩, -, X9, ⟨Lc9, hQ9, l9, y9, z9⟩, st9⟩ := X7.specialBack hx (y := m_15) rfl hown (mvT hZ (w_8 hw)) (mvT hZ (w_9 hw)) (mvT hZ (w_10 hw)) (by decide) (backOf (W := 1) (rm_str3 l Z a0 hw [] b1 b3 ((0 : Int32)) c0 c1 c2 k3 cs h7 n0 (by omega) f13 f17 f21 (by omega) V8 f26 P1 P2 P3 P4 hcs r0 r1 r2) hZ (w_10 hw) (w_6 hw) (Nat.le_trans (by decide) hFr) (Nat.le_trans (by decide) hLo)) (g := (mkF m 155 #[vI p0, vI p1, vI p2, vI p3, .val (.int (p0 &&& (3 : Int32))), vI c0, vI c1, vI c2, .unset, .unset] [(.ref b3), (.ref b1), (.ref b1)])) rfl (by rw [hml]; rfl) (Steps.refl _) (a := b1) (argsL := [(.ref b3)]) (rest := [(.ref b1)]) (lenOf pd_19 rfl) rfl (Nat.le_of_eq rfl) (hb hby at_155) (fun _ _ => ⟨rfl, e7, (by show cells + 2 + 2 ≤ _; omega), (by show slots + 7 + 9 ≤ _; omega)⟩)
  dsimp only [Pt.U, Pt.locs, Pt.cells, Pt.slots] at X9 l9 y9 z9 st9 hQ9
  rw [l9, y9, z9] at X9
  obtain ⟨rfl, Nq9, Kq9, r9_0, r9_1, r9_2⟩ := hQ9
  have N9 := Fr.app N7 Nq9
  have z9' := Kq9.1
  have K9 := K7.trans Kq9 (allS (Or.inr (by omega)) all0)
  have lt27 := own_l r9_0.lt
  replace X9 : Stand p l e R s m args below meth c T9 _ (cells + 4) (slots + 16) := X9
  refine ⟨_, _, _, b1, X9.more (by omega) (by omega), rfl, N9, K9, r9_0, r9_2, r9_1, fun target hk => ?_⟩
  show Steps _ _ _ (T.setTop (mkF m 133 #[vI p0, vI p1, vI p2, vI p3, .val (.int (p0 &&& (3 : Int32))), vI c0, vI c1, vI c2, .unset, .unset] [])) _
  refine st1 _ ?_
  show Steps _ _ _ (T1.setTop (mkF m 136 #[vI p0, vI p1, vI p2, vI p3, .val (.int (p0 &&& (3 : Int32))), vI c0, vI c1, vI c2, .unset, .unset] [(.ref b1)])) _
  refine XS.dup X1.here hx rfl (hb hby at_136) rfl rfl ?_
  refine XS.iconst X1.here hx rfl (hb hby at_137) ?_
  refine st3 _ ?_
  show Steps _ _ _ (T3.setTop (mkF m 140 #[vI p0, vI p1, vI p2, vI p3, .val (.int (p0 &&& (3 : Int32))), vI c0, vI c1, vI c2, .unset, .unset] [(.ref b3), (.ref b1), (.ref b1)])) _
  refine XS.dup X3.here hx rfl (hb hby at_140) rfl rfl ?_
  refine XS.iconst X3.here hx rfl (hb hby at_141) ?_
  refine XS.iload X3.here hx rfl (hb hby at_142) rfl ?_
  refine st5 _ ?_
  show Steps _ _ _ (T5.setTop (mkF m 145 #[vI p0, vI p1, vI p2, vI p3, .val (.int (p0 &&& (3 : Int32))), vI c0, vI c1, vI c2, .unset, .unset] [(.ref b3), (.ref b1), (.ref b1)])) _
  refine XS.dup X5.here hx rfl (hb hby at_145) rfl rfl ?_
  refine XS.iconst X5.here hx rfl (hb hby at_146) ?_
  refine XS.iload X5.here hx rfl (hb hby at_147) rfl ?_
  refine st6 _ ?_
  show Steps _ _ _ (T6.setTop (mkF m 150 #[vI p0, vI p1, vI p2, vI p3, .val (.int (p0 &&& (3 : Int32))), vI c0, vI c1, vI c2, .unset, .unset] [(.ref b3), (.ref b1), (.ref b1)])) _
  refine XS.dup X6.here hx rfl (hb hby at_150) rfl rfl ?_
  refine XS.iconst X6.here hx rfl (hb hby at_151) ?_
  refine XS.iload X6.here hx rfl (hb hby at_152) rfl ?_
  refine st7 _ ?_
  show Steps _ _ _ (T7.setTop (mkF m 155 #[vI p0, vI p1, vI p2, vI p3, .val (.int (p0 &&& (3 : Int32))), vI c0, vI c1, vI c2, .unset, .unset] [(.ref b3), (.ref b1), (.ref b1)])) _
  refine st9.trans ?_
  show Steps _ _ _ (T9.setTop (mkF m 158 #[vI p0, vI p1, vI p2, vI p3, .val (.int (p0 &&& (3 : Int32))), vI c0, vI c1, vI c2, .unset, .unset] [(.ref b1)])) _
  refine XS.astore X9.here hx rfl (hb hby at_158) rfl rfl (l' := #[vI p0, vI p1, vI p2, vI p3, .val (.int (p0 &&& (3 : Int32))), vI c0, vI c1, vI c2, vA b1, .unset]) rfl ?_
  exact hk
theorem w_80 {Z : State} {a0 : Array Value} (hw : HW Z a0) : (Jvm.Cond.methodLink "com/example/branchward/branchward/IdsHoldsLineBreakPinLaw" (18 : Nat) m_4).before a0 Z = true := hw _ (List.mem_of_getElem? (i := 80) rfl)
theorem w_82 {Z : State} {a0 : Array Value} (hw : HW Z a0) : (Jvm.Cond.code m_4 method_3_code (1 : Nat) (Option.some FieldType.boolean)).before a0 Z = true := hw _ (List.mem_of_getElem? (i := 82) rfl)
theorem pd_20 : parseMethodDescriptor "(C)Z" = some ⟨[.char], some .boolean⟩ := by decide +kernel
theorem w_81 {Z : State} {a0 : Array Value} (hw : HW Z a0) : (Jvm.Cond.static m_4).before a0 Z = true := hw _ (List.mem_of_getElem? (i := 81) rfl)
theorem w_26 {Z : State} {a0 : Array Value} (hw : HW Z a0) : (Jvm.Cond.methodLink "com/example/branchward/branchward/IdsHoldsLineBreakPinLaw" (22 : Nat) m_30).before a0 Z = true := hw _ (List.mem_of_getElem? (i := 26) rfl)
theorem w_29 {Z : State} {a0 : Array Value} (hw : HW Z a0) : (Jvm.Cond.code m_30 prog_28_method_2_code (1 : Nat) (Option.some FieldType.boolean)).before a0 Z = true := hw _ (List.mem_of_getElem? (i := 29) rfl)
theorem w_28 {Z : State} {a0 : Array Value} (hw : HW Z a0) : (Jvm.Cond.initialized "com/example/branchward/branchward/Ids").before a0 Z = true := hw _ (List.mem_of_getElem? (i := 28) rfl)
theorem pd_21 : parseMethodDescriptor "(Ljava/lang/String;)Z" = some ⟨[(.object "java/lang/String")], some .boolean⟩ := by decide +kernel
theorem w_27 {Z : State} {a0 : Array Value} (hw : HW Z a0) : (Jvm.Cond.static m_30).before a0 Z = true := hw _ (List.mem_of_getElem? (i := 27) rfl)
theorem ef_17 (m : MethodId) (x0 : Int32) (x1 : Int32) (x2 : Int32) (x3 : Int32) : entryFrame m #[(.int x0), (.int x1), (.int x2), (.int x3)] maxLocals = mkF m 0 #[vI x0, vI x1, vI x2, vI x3, .unset, .unset, .unset, .unset, .unset, .unset] [] := by first | (simp [entryFrame, mkF, argsToLocals, Value.category, maxLocals]; done) | rfl
def Q_law (Z : State) (p0 : Int32) (p1 : Int32) (p2 : Int32) (p3 : Int32) (cs : Int32) (sf : Value) (h0 : Heap) (n0 : Nat) (v : Option Value) (h : Heap) (L : List Loc) : Prop := v = some (.int 1) ∧ Fr n0 L
theorem rm_law_1_0 (l : Launch) (Z : State) (a0 : Array Value) (hw : HW Z a0) (ws : List Jvm.Cond) (p0 : Int32) (p1 : Int32) (p2 : Int32) (p3 : Int32) (cs : Int32) (sf : Value) (h0 : Heap) (n0 : Nat) (Z0 : n0 ≤ h0.size) (P0 : Old Z n0 h0) (P1 : sta0 Z (.int cs)) (P2 : sta1 Z (.int 1)) (P3 : sta2 Z (.int 0)) (P4 : sta3 Z (.int 8)) (P5 : sta4 Z sf) (hcs : ¬ (cs = (0 : Int32))) (hsf : sf.isRef = true) (kq0 : ¬ ((p0 &&& (3 : Int32)) = (0 : Int32))) (kq1 : (p0 &&& (3 : Int32)) = (1 : Int32)) (hbrk : (oP p1) = (10 : Int32) ∨ (oP p1) = (13 : Int32)) :
    MetFree l x (head1 (Jvm.Cond.code x code maxLocals ret :: ws) room_1) (fun as' U => as' = #[(.int p0), (.int p1), (.int p2), (.int p3)] ∧ Z.Warmed39 U.vm ∧ U.heap = h0 ∧ CHv Z own_EL U.vm h0) (fun _ _ _ _ _ => True) (fun _ U o U' => ∃ v L, o = .returned v ∧ Q_law Z p0 p1 p2 p3 cs sf h0 n0 v U'.heap L ∧ ReturnedEndW U o U' L room_1.cells room_1.slots) := by
  refine MetFree.of_bodySF (plainFor_of_name pn_3) hisR ?_
  intro p e s m args below meth c s₁ Bd hml0 hP hK
  obtain ⟨rfl, hZ, hh, hCH⟩ := hP
  have hx := Bd.exec
  have hby := Bd.bytes
  have hml : c.maxLocals = 10 := hml0
  have hown : (s.setVm s.vm).vm.findClass "com/example/branchward/branchward/IdsHoldsLineBreakPinLaw" = some m.cls := findClass_of_methodNamed Bd.named
  have hnm := (name_of_methodNamed Bd.named Bd.method).1
  have X0 : Stand p l e room_1 (s.setVm s.vm) m #[(.int p0), (.int p1), (.int p2), (.int p3)] below meth c s₁ [] 0 0 := Stand.of_body Bd
  have e0 : s₁.heap = h0 := by rw [← hh, Bd.state]; rfl
  have N0 := Fr.nil n0
  have hZ : Z.Warmed39 (s.setVm s.vm).vm := hZ
  have hS0 : s.Since s.vm h0.size := (State.WarmedH.refl s).since _
  have hk0 : h0.size ≤ h0.size := Nat.le_refl _
  have C0 : CHr Z own_EL s.vm h0 s.vm h0 := CHr.refl hCH
  obtain ⟨T1, h1, L1, X1, e1, N1, Kq1, r1_0, st1⟩ := pz_pre X0 hx hw hZ hown hby hml p0 p1 p2 p3 e0 N0 (by omega) P0 (by decide) (by decide) (by decide) (by decide)
  have z1' := Kq1.1
  obtain ⟨T2, h2, L2, x2_a_, X2, e2, N2, Kq2, r2_0, r2_1, r2_2, st2⟩ := pz_mk1 X1 hx hw hZ hown hby hml p0 p1 p2 p3 ((oP p1)) ((oP p2)) ((oP p3)) cs e1 N1 (by omega) r1_0 P1 P2 P3 P4 hcs (own_oP p1) (by decide) (by decide) (by decide) (by decide)
  have z2' := Kq2.1
  have lt3 := own_l r2_0.lt
  obtain ⟨_, _, ⟨T4, L4, k4, n4⟩, -, X4, ⟨Lc4, hQ4, l4, y4, z4⟩, st4⟩ := Jvm.LawKit.callS X2 hx (y := m_4) hown (mvT hZ (w_80 hw)) (mvT hZ (w_81 hw)) (mvT hZ (w_2 hw)) (mvT hZ (w_82 hw)) (by decide) (backOf (W := 0) (rm_br1 l Z a0 hw [] ((oP p1)) h2 n0 (by omega) hbrk) hZ (w_82 hw) (w_2 hw) (by decide) (by decide)) (g := (mkF m 71 #[vI p0, vI p1, vI p2, vI p3, .val (.int (p0 &&& (3 : Int32))), .val (.int (oP p1)), .val (.int (oP p2)), .val (.int (oP p3)), vA x2_a_, .unset] [(.int (oP p1))])) rfl (by rw [hml]; rfl) (argsL := [(.int (oP p1))]) (rest := []) (lenOf pd_20 rfl) rfl (Nat.le_of_eq rfl) (hb hby at_71) (fun _ _ => ⟨rfl, e2, (by decide : 4 + 0 ≤ _), (by decide : 8 + 0 ≤ _)⟩)
  dsimp only [Pt.U, Pt.locs, Pt.cells, Pt.slots] at X4 l4 y4 z4 st4 hQ4
  rw [l4, y4, z4] at X4
  obtain ⟨rfl, Nq4, Kq4⟩ := hQ4
  have N4 := Fr.app N2 Nq4
  obtain ⟨_, _, ⟨T5, L5, k5, n5⟩, -, X5, ⟨Lc5, hQ5, l5, y5, z5⟩, st5⟩ := Jvm.LawKit.callS X4 hx (y := m_30) hown (mvT hZ (w_26 hw)) (mvT hZ (w_27 hw)) (mvT hZ (w_28 hw)) (mvT hZ (w_29 hw)) (by decide) (backOf (W := 0) (rm_hbO1 l Z a0 hw [] x2_a_ cs sf ((oP p1)) h2 n0 (by omega) r2_2 P1 r2_0 P2 P3 P4 P5 r2_1 hcs hsf (own_oP p1) (hbrk.elim (fun e => Or.inl (fun q => q e)) (fun e => Or.inr (fun q => q e)))) hZ (w_29 hw) (w_28 hw) (by decide) (by decide)) (g := (mkF m 193 #[vI p0, vI p1, vI p2, vI p3, .val (.int (p0 &&& (3 : Int32))), .val (.int (oP p1)), .val (.int (oP p2)), .val (.int (oP p3)), vA x2_a_, vI 1] [(.ref x2_a_)])) rfl (by rw [hml]; rfl) (argsL := [(.ref x2_a_)]) (rest := []) (lenOf pd_21 rfl) rfl (Nat.le_of_eq rfl) (hb hby at_193) (fun _ _ => ⟨rfl, Kq4, (by decide : 4 + 0 ≤ _), (by decide : 8 + 0 ≤ _)⟩)
  dsimp only [Pt.U, Pt.locs, Pt.cells, Pt.slots] at X5 l5 y5 z5 st5 hQ5
  rw [l5, y5, z5] at X5
  obtain ⟨rfl, Nq5, Kq5⟩ := hQ5
  have N5 := Fr.app N4 Nq5
  obtain ⟨fs, hr, hrun, hended, hEnd⟩ := X5.leaveW hS0 (by first | omega | (rw [(Kq5 : T5.heap = h2)]; omega)) (v := some (.int 1)) (fun h => by rw [Bd.returns] at h; cases h)
  refine ⟨_, _, castTop (ef_17 m p0 p1 p2 p3) ?_, hrun, hended, _, _, rfl, ?_, hEnd.1, hEnd.2.1, hEnd.2.2.1, hEnd.2.2.2.mono (by decide) (by decide)⟩
  · show Steps _ _ _ (s₁.setTop (mkF m 0 #[vI p0, vI p1, vI p2, vI p3, .unset, .unset, .unset, .unset, .unset, .unset] [])) _
    refine st1 _ ?_
    show Steps _ _ _ (T1.setTop (mkF m 23 #[vI p0, vI p1, vI p2, vI p3, .val (.int (p0 &&& (3 : Int32))), .val (.int (oP p1)), .val (.int (oP p2)), .val (.int (oP p3)), .unset, .unset] [])) _
    refine XS.iload X1.here hx rfl (hb hby at_23) rfl ?_
    refine XS.ifYes X1.here hx rfl (pc0 := 25) (pc' := 46) rfl (hb hby at_25) rfl ((if0 _ _).trans (feq (kq0 : ¬ ((p0 &&& (3 : Int32)) = (0 : Int32)))).2) (by decide) (by decide) ?_
    refine XS.iload X1.here hx rfl (hb hby at_46) rfl ?_
    refine XS.iconst X1.here hx rfl (hb hby at_48) ?_
    refine XS.icmpNo X1.here hx rfl (hb hby at_49) rfl (teq (kq1 : (p0 &&& (3 : Int32)) = (1 : Int32))).2 ?_
    refine st2 _ ?_
    show Steps _ _ _ (T2.setTop (mkF m 69 #[vI p0, vI p1, vI p2, vI p3, .val (.int (p0 &&& (3 : Int32))), .val (.int (oP p1)), .val (.int (oP p2)), .val (.int (oP p3)), vA x2_a_, .unset] [])) _
    refine XS.iload X2.here hx rfl (hb hby at_69) rfl ?_
    refine st4 _ ?_
    show Steps _ _ _ (T4.setTop (mkF m 74 #[vI p0, vI p1, vI p2, vI p3, .val (.int (p0 &&& (3 : Int32))), .val (.int (oP p1)), .val (.int (oP p2)), .val (.int (oP p3)), vA x2_a_, .unset] [(.int 1)])) _
    refine XS.istore X4.here hx rfl (hb hby at_74) rfl (l' := #[vI p0, vI p1, vI p2, vI p3, .val (.int (p0 &&& (3 : Int32))), .val (.int (oP p1)), .val (.int (oP p2)), .val (.int (oP p3)), vA x2_a_, vI 1]) rfl ?_
    refine XS.goto X4.here hx rfl (pc0 := 76) (pc' := 191) rfl (hb hby at_76) (by decide) (by decide) ?_
    refine XS.aload X4.here hx rfl (hb hby at_191) rfl rfl ?_
    refine st5 _ ?_
    show Steps _ _ _ (T5.setTop (mkF m 196 #[vI p0, vI p1, vI p2, vI p3, .val (.int (p0 &&& (3 : Int32))), .val (.int (oP p1)), .val (.int (oP p2)), .val (.int (oP p3)), vA x2_a_, vI 1] [(.int 1)])) _
    refine XS.iload X5.here hx rfl (hb hby at_196) rfl ?_
    refine XS.icmpNo X5.here hx rfl (hb hby at_198) rfl (teq ((by decide) : (1 : Int32) = (1 : Int32))).2 ?_
    refine XS.iconst X5.here hx rfl (hb hby at_201) ?_
    refine XS.goto X5.here hx rfl (pc0 := 202) (pc' := 206) rfl (hb hby at_202) (by decide) (by decide) ?_
    exact retN X5 hx (t := .boolean) Bd.returns (by simp) (hb hby at_206) hr
  · show Q_law Z p0 p1 p2 p3 cs sf h0 n0 _ T5.heap _
    rw [(Kq5 : T5.heap = h2)]
    exact ⟨rfl, N5⟩
theorem rm_law_1_1 (l : Launch) (Z : State) (a0 : Array Value) (hw : HW Z a0) (ws : List Jvm.Cond) (p0 : Int32) (p1 : Int32) (p2 : Int32) (p3 : Int32) (cs : Int32) (sf : Value) (h0 : Heap) (n0 : Nat) (Z0 : n0 ≤ h0.size) (P0 : Old Z n0 h0) (P1 : sta0 Z (.int cs)) (P2 : sta1 Z (.int 1)) (P3 : sta2 Z (.int 0)) (P4 : sta3 Z (.int 8)) (P5 : sta4 Z sf) (hcs : ¬ (cs = (0 : Int32))) (hsf : sf.isRef = true) (kq0 : ¬ ((p0 &&& (3 : Int32)) = (0 : Int32))) (kq1 : (p0 &&& (3 : Int32)) = (1 : Int32)) (u0 : ¬ ((oP p1) = (10 : Int32))) (v0 : ¬ ((oP p1) = (13 : Int32))) :
    MetFree l x (head1 (Jvm.Cond.code x code maxLocals ret :: ws) room_1) (fun as' U => as' = #[(.int p0), (.int p1), (.int p2), (.int p3)] ∧ Z.Warmed39 U.vm ∧ U.heap = h0 ∧ CHv Z own_EL U.vm h0) (fun _ _ _ _ _ => True) (fun _ U o U' => ∃ v L, o = .returned v ∧ Q_law Z p0 p1 p2 p3 cs sf h0 n0 v U'.heap L ∧ ReturnedEndW U o U' L room_1.cells room_1.slots) := by
  refine MetFree.of_bodySF (plainFor_of_name pn_3) hisR ?_
  intro p e s m args below meth c s₁ Bd hml0 hP hK
  obtain ⟨rfl, hZ, hh, hCH⟩ := hP
  have hx := Bd.exec
  have hby := Bd.bytes
  have hml : c.maxLocals = 10 := hml0
  have hown : (s.setVm s.vm).vm.findClass "com/example/branchward/branchward/IdsHoldsLineBreakPinLaw" = some m.cls := findClass_of_methodNamed Bd.named
  have hnm := (name_of_methodNamed Bd.named Bd.method).1
  have X0 : Stand p l e room_1 (s.setVm s.vm) m #[(.int p0), (.int p1), (.int p2), (.int p3)] below meth c s₁ [] 0 0 := Stand.of_body Bd
  have e0 : s₁.heap = h0 := by rw [← hh, Bd.state]; rfl
  have N0 := Fr.nil n0
  have hZ : Z.Warmed39 (s.setVm s.vm).vm := hZ
  have hS0 : s.Since s.vm h0.size := (State.WarmedH.refl s).since _
  have hk0 : h0.size ≤ h0.size := Nat.le_refl _
  have C0 : CHr Z own_EL s.vm h0 s.vm h0 := CHr.refl hCH
  obtain ⟨T1, h1, L1, X1, e1, N1, Kq1, r1_0, st1⟩ := pz_pre X0 hx hw hZ hown hby hml p0 p1 p2 p3 e0 N0 (by omega) P0 (by decide) (by decide) (by decide) (by decide)
  have z1' := Kq1.1
  obtain ⟨T2, h2, L2, x2_a_, X2, e2, N2, Kq2, r2_0, r2_1, r2_2, st2⟩ := pz_mk1 X1 hx hw hZ hown hby hml p0 p1 p2 p3 ((oP p1)) ((oP p2)) ((oP p3)) cs e1 N1 (by omega) r1_0 P1 P2 P3 P4 hcs (own_oP p1) (by decide) (by decide) (by decide) (by decide)
  have z2' := Kq2.1
  have lt3 := own_l r2_0.lt
  obtain ⟨_, _, ⟨T4, L4, k4, n4⟩, -, X4, ⟨Lc4, hQ4, l4, y4, z4⟩, st4⟩ := Jvm.LawKit.callS X2 hx (y := m_4) hown (mvT hZ (w_80 hw)) (mvT hZ (w_81 hw)) (mvT hZ (w_2 hw)) (mvT hZ (w_82 hw)) (by decide) (backOf (W := 0) (rm_br0 l Z a0 hw [] ((oP p1)) h2 n0 (by omega) u0 v0) hZ (w_82 hw) (w_2 hw) (by decide) (by decide)) (g := (mkF m 71 #[vI p0, vI p1, vI p2, vI p3, .val (.int (p0 &&& (3 : Int32))), .val (.int (oP p1)), .val (.int (oP p2)), .val (.int (oP p3)), vA x2_a_, .unset] [(.int (oP p1))])) rfl (by rw [hml]; rfl) (argsL := [(.int (oP p1))]) (rest := []) (lenOf pd_20 rfl) rfl (Nat.le_of_eq rfl) (hb hby at_71) (fun _ _ => ⟨rfl, e2, (by decide : 4 + 0 ≤ _), (by decide : 8 + 0 ≤ _)⟩)
  dsimp only [Pt.U, Pt.locs, Pt.cells, Pt.slots] at X4 l4 y4 z4 st4 hQ4
  rw [l4, y4, z4] at X4
  obtain ⟨rfl, Nq4, Kq4⟩ := hQ4
  have N4 := Fr.app N2 Nq4
  obtain ⟨_, _, ⟨T5, L5, k5, n5⟩, -, X5, ⟨Lc5, hQ5, l5, y5, z5⟩, st5⟩ := Jvm.LawKit.callS X4 hx (y := m_30) hown (mvT hZ (w_26 hw)) (mvT hZ (w_27 hw)) (mvT hZ (w_28 hw)) (mvT hZ (w_29 hw)) (by decide) (backOf (W := 0) (rm_hbC1 l Z a0 hw [] x2_a_ cs sf ((oP p1)) h2 n0 (by omega) r2_2 P1 r2_0 P2 P3 P4 P5 r2_1 hcs hsf (own_oP p1) u0 v0) hZ (w_29 hw) (w_28 hw) (by decide) (by decide)) (g := (mkF m 193 #[vI p0, vI p1, vI p2, vI p3, .val (.int (p0 &&& (3 : Int32))), .val (.int (oP p1)), .val (.int (oP p2)), .val (.int (oP p3)), vA x2_a_, vI 0] [(.ref x2_a_)])) rfl (by rw [hml]; rfl) (argsL := [(.ref x2_a_)]) (rest := []) (lenOf pd_21 rfl) rfl (Nat.le_of_eq rfl) (hb hby at_193) (fun _ _ => ⟨rfl, Kq4, (by decide : 4 + 0 ≤ _), (by decide : 8 + 0 ≤ _)⟩)
  dsimp only [Pt.U, Pt.locs, Pt.cells, Pt.slots] at X5 l5 y5 z5 st5 hQ5
  rw [l5, y5, z5] at X5
  obtain ⟨rfl, Nq5, Kq5⟩ := hQ5
  have N5 := Fr.app N4 Nq5
  obtain ⟨fs, hr, hrun, hended, hEnd⟩ := X5.leaveW hS0 (by first | omega | (rw [(Kq5 : T5.heap = h2)]; omega)) (v := some (.int 1)) (fun h => by rw [Bd.returns] at h; cases h)
  refine ⟨_, _, castTop (ef_17 m p0 p1 p2 p3) ?_, hrun, hended, _, _, rfl, ?_, hEnd.1, hEnd.2.1, hEnd.2.2.1, hEnd.2.2.2.mono (by decide) (by decide)⟩
  · show Steps _ _ _ (s₁.setTop (mkF m 0 #[vI p0, vI p1, vI p2, vI p3, .unset, .unset, .unset, .unset, .unset, .unset] [])) _
    refine st1 _ ?_
    show Steps _ _ _ (T1.setTop (mkF m 23 #[vI p0, vI p1, vI p2, vI p3, .val (.int (p0 &&& (3 : Int32))), .val (.int (oP p1)), .val (.int (oP p2)), .val (.int (oP p3)), .unset, .unset] [])) _
    refine XS.iload X1.here hx rfl (hb hby at_23) rfl ?_
    refine XS.ifYes X1.here hx rfl (pc0 := 25) (pc' := 46) rfl (hb hby at_25) rfl ((if0 _ _).trans (feq (kq0 : ¬ ((p0 &&& (3 : Int32)) = (0 : Int32)))).2) (by decide) (by decide) ?_
    refine XS.iload X1.here hx rfl (hb hby at_46) rfl ?_
    refine XS.iconst X1.here hx rfl (hb hby at_48) ?_
    refine XS.icmpNo X1.here hx rfl (hb hby at_49) rfl (teq (kq1 : (p0 &&& (3 : Int32)) = (1 : Int32))).2 ?_
    refine st2 _ ?_
    show Steps _ _ _ (T2.setTop (mkF m 69 #[vI p0, vI p1, vI p2, vI p3, .val (.int (p0 &&& (3 : Int32))), .val (.int (oP p1)), .val (.int (oP p2)), .val (.int (oP p3)), vA x2_a_, .unset] [])) _
    refine XS.iload X2.here hx rfl (hb hby at_69) rfl ?_
    refine st4 _ ?_
    show Steps _ _ _ (T4.setTop (mkF m 74 #[vI p0, vI p1, vI p2, vI p3, .val (.int (p0 &&& (3 : Int32))), .val (.int (oP p1)), .val (.int (oP p2)), .val (.int (oP p3)), vA x2_a_, .unset] [(.int 0)])) _
    refine XS.istore X4.here hx rfl (hb hby at_74) rfl (l' := #[vI p0, vI p1, vI p2, vI p3, .val (.int (p0 &&& (3 : Int32))), .val (.int (oP p1)), .val (.int (oP p2)), .val (.int (oP p3)), vA x2_a_, vI 0]) rfl ?_
    refine XS.goto X4.here hx rfl (pc0 := 76) (pc' := 191) rfl (hb hby at_76) (by decide) (by decide) ?_
    refine XS.aload X4.here hx rfl (hb hby at_191) rfl rfl ?_
    refine st5 _ ?_
    show Steps _ _ _ (T5.setTop (mkF m 196 #[vI p0, vI p1, vI p2, vI p3, .val (.int (p0 &&& (3 : Int32))), .val (.int (oP p1)), .val (.int (oP p2)), .val (.int (oP p3)), vA x2_a_, vI 0] [(.int 0)])) _
    refine XS.iload X5.here hx rfl (hb hby at_196) rfl ?_
    refine XS.icmpNo X5.here hx rfl (hb hby at_198) rfl (teq ((by decide) : (0 : Int32) = (0 : Int32))).2 ?_
    refine XS.iconst X5.here hx rfl (hb hby at_201) ?_
    refine XS.goto X5.here hx rfl (pc0 := 202) (pc' := 206) rfl (hb hby at_202) (by decide) (by decide) ?_
    exact retN X5 hx (t := .boolean) Bd.returns (by simp) (hb hby at_206) hr
  · show Q_law Z p0 p1 p2 p3 cs sf h0 n0 _ T5.heap _
    rw [(Kq5 : T5.heap = h2)]
    exact ⟨rfl, N5⟩
theorem rm_law_2_0 (l : Launch) (Z : State) (a0 : Array Value) (hw : HW Z a0) (ws : List Jvm.Cond) (p0 : Int32) (p1 : Int32) (p2 : Int32) (p3 : Int32) (cs : Int32) (sf : Value) (h0 : Heap) (n0 : Nat) (Z0 : n0 ≤ h0.size) (P0 : Old Z n0 h0) (P1 : sta0 Z (.int cs)) (P2 : sta1 Z (.int 1)) (P3 : sta2 Z (.int 0)) (P4 : sta3 Z (.int 8)) (P5 : sta4 Z sf) (hcs : ¬ (cs = (0 : Int32))) (hsf : sf.isRef = true) (kq0 : ¬ ((p0 &&& (3 : Int32)) = (0 : Int32))) (kq1 : ¬ ((p0 &&& (3 : Int32)) = (1 : Int32))) (kq2 : (p0 &&& (3 : Int32)) = (2 : Int32)) (hbrk : (oP p1) = (10 : Int32) ∨ (oP p1) = (13 : Int32)) :
    MetFree l x (head1 (Jvm.Cond.code x code maxLocals ret :: ws) room_1) (fun as' U => as' = #[(.int p0), (.int p1), (.int p2), (.int p3)] ∧ Z.Warmed39 U.vm ∧ U.heap = h0 ∧ CHv Z own_EL U.vm h0) (fun _ _ _ _ _ => True) (fun _ U o U' => ∃ v L, o = .returned v ∧ Q_law Z p0 p1 p2 p3 cs sf h0 n0 v U'.heap L ∧ ReturnedEndW U o U' L room_1.cells room_1.slots) := by
  refine MetFree.of_bodySF (plainFor_of_name pn_3) hisR ?_
  intro p e s m args below meth c s₁ Bd hml0 hP hK
  obtain ⟨rfl, hZ, hh, hCH⟩ := hP
  have hx := Bd.exec
  have hby := Bd.bytes
  have hml : c.maxLocals = 10 := hml0
  have hown : (s.setVm s.vm).vm.findClass "com/example/branchward/branchward/IdsHoldsLineBreakPinLaw" = some m.cls := findClass_of_methodNamed Bd.named
  have hnm := (name_of_methodNamed Bd.named Bd.method).1
  have X0 : Stand p l e room_1 (s.setVm s.vm) m #[(.int p0), (.int p1), (.int p2), (.int p3)] below meth c s₁ [] 0 0 := Stand.of_body Bd
  have e0 : s₁.heap = h0 := by rw [← hh, Bd.state]; rfl
  have N0 := Fr.nil n0
  have hZ : Z.Warmed39 (s.setVm s.vm).vm := hZ
  have hS0 : s.Since s.vm h0.size := (State.WarmedH.refl s).since _
  have hk0 : h0.size ≤ h0.size := Nat.le_refl _
  have C0 : CHr Z own_EL s.vm h0 s.vm h0 := CHr.refl hCH
  obtain ⟨T1, h1, L1, X1, e1, N1, Kq1, r1_0, st1⟩ := pz_pre X0 hx hw hZ hown hby hml p0 p1 p2 p3 e0 N0 (by omega) P0 (by decide) (by decide) (by decide) (by decide)
  have z1' := Kq1.1
  obtain ⟨T2, h2, L2, x2_a_, X2, e2, N2, Kq2, r2_0, r2_1, r2_2, st2⟩ := pz_mk2 X1 hx hw hZ hown hby hml p0 p1 p2 p3 ((oP p1)) ((oP p2)) ((oP p3)) cs e1 N1 (by omega) r1_0 P1 P2 P3 P4 hcs (own_oP p1) (own_oP p2) (by decide) (by decide) (by decide) (by decide)
  have z2' := Kq2.1
  have lt3 := own_l r2_0.lt
  obtain ⟨_, _, ⟨T4, L4, k4, n4⟩, -, X4, ⟨Lc4, hQ4, l4, y4, z4⟩, st4⟩ := Jvm.LawKit.callS X2 hx (y := m_4) hown (mvT hZ (w_80 hw)) (mvT hZ (w_81 hw)) (mvT hZ (w_2 hw)) (mvT hZ (w_82 hw)) (by decide) (backOf (W := 0) (rm_br1 l Z a0 hw [] ((oP p1)) h2 n0 (by omega) hbrk) hZ (w_82 hw) (w_2 hw) (by decide) (by decide)) (g := (mkF m 109 #[vI p0, vI p1, vI p2, vI p3, .val (.int (p0 &&& (3 : Int32))), .val (.int (oP p1)), .val (.int (oP p2)), .val (.int (oP p3)), vA x2_a_, .unset] [(.int (oP p1))])) rfl (by rw [hml]; rfl) (argsL := [(.int (oP p1))]) (rest := []) (lenOf pd_20 rfl) rfl (Nat.le_of_eq rfl) (hb hby at_109) (fun _ _ => ⟨rfl, e2, (by decide : 4 + 0 ≤ _), (by decide : 12 + 0 ≤ _)⟩)
  dsimp only [Pt.U, Pt.locs, Pt.cells, Pt.slots] at X4 l4 y4 z4 st4 hQ4
  rw [l4, y4, z4] at X4
  obtain ⟨rfl, Nq4, Kq4⟩ := hQ4
  have N4 := Fr.app N2 Nq4
  obtain ⟨_, _, ⟨T5, L5, k5, n5⟩, -, X5, ⟨Lc5, hQ5, l5, y5, z5⟩, st5⟩ := Jvm.LawKit.callS X4 hx (y := m_30) hown (mvT hZ (w_26 hw)) (mvT hZ (w_27 hw)) (mvT hZ (w_28 hw)) (mvT hZ (w_29 hw)) (by decide) (backOf (W := 0) (rm_hbO2 l Z a0 hw [] x2_a_ cs sf ((oP p1)) ((oP p2)) h2 n0 (by omega) r2_2 P1 r2_0 P2 P3 P4 P5 r2_1 hcs hsf (own_oP p1) (own_oP p2) (hbrk.elim (fun e => Or.inl (fun q => q.1 e)) (fun e => Or.inr (fun q => q.1 e)))) hZ (w_29 hw) (w_28 hw) (by decide) (by decide)) (g := (mkF m 193 #[vI p0, vI p1, vI p2, vI p3, .val (.int (p0 &&& (3 : Int32))), .val (.int (oP p1)), .val (.int (oP p2)), .val (.int (oP p3)), vA x2_a_, vI 1] [(.ref x2_a_)])) rfl (by rw [hml]; rfl) (argsL := [(.ref x2_a_)]) (rest := []) (lenOf pd_21 rfl) rfl (Nat.le_of_eq rfl) (hb hby at_193) (fun _ _ => ⟨rfl, Kq4, (by decide : 4 + 0 ≤ _), (by decide : 12 + 0 ≤ _)⟩)
  dsimp only [Pt.U, Pt.locs, Pt.cells, Pt.slots] at X5 l5 y5 z5 st5 hQ5
  rw [l5, y5, z5] at X5
  obtain ⟨rfl, Nq5, Kq5⟩ := hQ5
  have N5 := Fr.app N4 Nq5
  obtain ⟨fs, hr, hrun, hended, hEnd⟩ := X5.leaveW hS0 (by first | omega | (rw [(Kq5 : T5.heap = h2)]; omega)) (v := some (.int 1)) (fun h => by rw [Bd.returns] at h; cases h)
  refine ⟨_, _, castTop (ef_17 m p0 p1 p2 p3) ?_, hrun, hended, _, _, rfl, ?_, hEnd.1, hEnd.2.1, hEnd.2.2.1, hEnd.2.2.2.mono (by decide) (by decide)⟩
  · show Steps _ _ _ (s₁.setTop (mkF m 0 #[vI p0, vI p1, vI p2, vI p3, .unset, .unset, .unset, .unset, .unset, .unset] [])) _
    refine st1 _ ?_
    show Steps _ _ _ (T1.setTop (mkF m 23 #[vI p0, vI p1, vI p2, vI p3, .val (.int (p0 &&& (3 : Int32))), .val (.int (oP p1)), .val (.int (oP p2)), .val (.int (oP p3)), .unset, .unset] [])) _
    refine XS.iload X1.here hx rfl (hb hby at_23) rfl ?_
    refine XS.ifYes X1.here hx rfl (pc0 := 25) (pc' := 46) rfl (hb hby at_25) rfl ((if0 _ _).trans (feq (kq0 : ¬ ((p0 &&& (3 : Int32)) = (0 : Int32)))).2) (by decide) (by decide) ?_
    refine XS.iload X1.here hx rfl (hb hby at_46) rfl ?_
    refine XS.iconst X1.here hx rfl (hb hby at_48) ?_
    refine XS.icmpYes X1.here hx rfl (pc0 := 49) (pc' := 79) rfl (hb hby at_49) rfl (feq (kq1 : ¬ ((p0 &&& (3 : Int32)) = (1 : Int32)))).2 (by decide) (by decide) ?_
    refine XS.iload X1.here hx rfl (hb hby at_79) rfl ?_
    refine XS.iconst X1.here hx rfl (hb hby at_81) ?_
    refine XS.icmpNo X1.here hx rfl (hb hby at_82) rfl (teq (kq2 : (p0 &&& (3 : Int32)) = (2 : Int32))).2 ?_
    refine st2 _ ?_
    show Steps _ _ _ (T2.setTop (mkF m 107 #[vI p0, vI p1, vI p2, vI p3, .val (.int (p0 &&& (3 : Int32))), .val (.int (oP p1)), .val (.int (oP p2)), .val (.int (oP p3)), vA x2_a_, .unset] [])) _
    refine XS.iload X2.here hx rfl (hb hby at_107) rfl ?_
    refine st4 _ ?_
    show Steps _ _ _ (T4.setTop (mkF m 112 #[vI p0, vI p1, vI p2, vI p3, .val (.int (p0 &&& (3 : Int32))), .val (.int (oP p1)), .val (.int (oP p2)), .val (.int (oP p3)), vA x2_a_, .unset] [(.int 1)])) _
    refine XS.ifYes X4.here hx rfl (pc0 := 112) (pc' := 123) rfl (hb hby at_112) rfl ((if0 _ _).trans (feq ((by decide) : ¬ ((1 : Int32) = (0 : Int32)))).2) (by decide) (by decide) ?_
    refine XS.iconst X4.here hx rfl (hb hby at_123) ?_
    refine XS.goto X4.here hx rfl (pc0 := 124) (pc' := 128) rfl (hb hby at_124) (by decide) (by decide) ?_
    refine XS.istore X4.here hx rfl (hb hby at_128) rfl (l' := #[vI p0, vI p1, vI p2, vI p3, .val (.int (p0 &&& (3 : Int32))), .val (.int (oP p1)), .val (.int (oP p2)), .val (.int (oP p3)), vA x2_a_, vI 1]) rfl ?_
    refine XS.goto X4.here hx rfl (pc0 := 130) (pc' := 191) rfl (hb hby at_130) (by decide) (by decide) ?_
    refine XS.aload X4.here hx rfl (hb hby at_191) rfl rfl ?_
    refine st5 _ ?_
    show Steps _ _ _ (T5.setTop (mkF m 196 #[vI p0, vI p1, vI p2, vI p3, .val (.int (p0 &&& (3 : Int32))), .val (.int (oP p1)), .val (.int (oP p2)), .val (.int (oP p3)), vA x2_a_, vI 1] [(.int 1)])) _
    refine XS.iload X5.here hx rfl (hb hby at_196) rfl ?_
    refine XS.icmpNo X5.here hx rfl (hb hby at_198) rfl (teq ((by decide) : (1 : Int32) = (1 : Int32))).2 ?_
    refine XS.iconst X5.here hx rfl (hb hby at_201) ?_
    refine XS.goto X5.here hx rfl (pc0 := 202) (pc' := 206) rfl (hb hby at_202) (by decide) (by decide) ?_
    exact retN X5 hx (t := .boolean) Bd.returns (by simp) (hb hby at_206) hr
  · show Q_law Z p0 p1 p2 p3 cs sf h0 n0 _ T5.heap _
    rw [(Kq5 : T5.heap = h2)]
    exact ⟨rfl, N5⟩
theorem rm_law_2_1 (l : Launch) (Z : State) (a0 : Array Value) (hw : HW Z a0) (ws : List Jvm.Cond) (p0 : Int32) (p1 : Int32) (p2 : Int32) (p3 : Int32) (cs : Int32) (sf : Value) (h0 : Heap) (n0 : Nat) (Z0 : n0 ≤ h0.size) (P0 : Old Z n0 h0) (P1 : sta0 Z (.int cs)) (P2 : sta1 Z (.int 1)) (P3 : sta2 Z (.int 0)) (P4 : sta3 Z (.int 8)) (P5 : sta4 Z sf) (hcs : ¬ (cs = (0 : Int32))) (hsf : sf.isRef = true) (kq0 : ¬ ((p0 &&& (3 : Int32)) = (0 : Int32))) (kq1 : ¬ ((p0 &&& (3 : Int32)) = (1 : Int32))) (kq2 : (p0 &&& (3 : Int32)) = (2 : Int32)) (u0 : ¬ ((oP p1) = (10 : Int32))) (v0 : ¬ ((oP p1) = (13 : Int32))) (hbrk : (oP p2) = (10 : Int32) ∨ (oP p2) = (13 : Int32)) :
    MetFree l x (head1 (Jvm.Cond.code x code maxLocals ret :: ws) room_1) (fun as' U => as' = #[(.int p0), (.int p1), (.int p2), (.int p3)] ∧ Z.Warmed39 U.vm ∧ U.heap = h0 ∧ CHv Z own_EL U.vm h0) (fun _ _ _ _ _ => True) (fun _ U o U' => ∃ v L, o = .returned v ∧ Q_law Z p0 p1 p2 p3 cs sf h0 n0 v U'.heap L ∧ ReturnedEndW U o U' L room_1.cells room_1.slots) := by
  refine MetFree.of_bodySF (plainFor_of_name pn_3) hisR ?_
  intro p e s m args below meth c s₁ Bd hml0 hP hK
  obtain ⟨rfl, hZ, hh, hCH⟩ := hP
  have hx := Bd.exec
  have hby := Bd.bytes
  have hml : c.maxLocals = 10 := hml0
  have hown : (s.setVm s.vm).vm.findClass "com/example/branchward/branchward/IdsHoldsLineBreakPinLaw" = some m.cls := findClass_of_methodNamed Bd.named
  have hnm := (name_of_methodNamed Bd.named Bd.method).1
  have X0 : Stand p l e room_1 (s.setVm s.vm) m #[(.int p0), (.int p1), (.int p2), (.int p3)] below meth c s₁ [] 0 0 := Stand.of_body Bd
  have e0 : s₁.heap = h0 := by rw [← hh, Bd.state]; rfl
  have N0 := Fr.nil n0
  have hZ : Z.Warmed39 (s.setVm s.vm).vm := hZ
  have hS0 : s.Since s.vm h0.size := (State.WarmedH.refl s).since _
  have hk0 : h0.size ≤ h0.size := Nat.le_refl _
  have C0 : CHr Z own_EL s.vm h0 s.vm h0 := CHr.refl hCH
  obtain ⟨T1, h1, L1, X1, e1, N1, Kq1, r1_0, st1⟩ := pz_pre X0 hx hw hZ hown hby hml p0 p1 p2 p3 e0 N0 (by omega) P0 (by decide) (by decide) (by decide) (by decide)
  have z1' := Kq1.1
  obtain ⟨T2, h2, L2, x2_a_, X2, e2, N2, Kq2, r2_0, r2_1, r2_2, st2⟩ := pz_mk2 X1 hx hw hZ hown hby hml p0 p1 p2 p3 ((oP p1)) ((oP p2)) ((oP p3)) cs e1 N1 (by omega) r1_0 P1 P2 P3 P4 hcs (own_oP p1) (own_oP p2) (by decide) (by decide) (by decide) (by decide)
  have z2' := Kq2.1
  have lt3 := own_l r2_0.lt
  obtain ⟨_, _, ⟨T4, L4, k4, n4⟩, -, X4, ⟨Lc4, hQ4, l4, y4, z4⟩, st4⟩ := Jvm.LawKit.callS X2 hx (y := m_4) hown (mvT hZ (w_80 hw)) (mvT hZ (w_81 hw)) (mvT hZ (w_2 hw)) (mvT hZ (w_82 hw)) (by decide) (backOf (W := 0) (rm_br0 l Z a0 hw [] ((oP p1)) h2 n0 (by omega) u0 v0) hZ (w_82 hw) (w_2 hw) (by decide) (by decide)) (g := (mkF m 109 #[vI p0, vI p1, vI p2, vI p3, .val (.int (p0 &&& (3 : Int32))), .val (.int (oP p1)), .val (.int (oP p2)), .val (.int (oP p3)), vA x2_a_, .unset] [(.int (oP p1))])) rfl (by rw [hml]; rfl) (argsL := [(.int (oP p1))]) (rest := []) (lenOf pd_20 rfl) rfl (Nat.le_of_eq rfl) (hb hby at_109) (fun _ _ => ⟨rfl, e2, (by decide : 4 + 0 ≤ _), (by decide : 12 + 0 ≤ _)⟩)
  dsimp only [Pt.U, Pt.locs, Pt.cells, Pt.slots] at X4 l4 y4 z4 st4 hQ4
  rw [l4, y4, z4] at X4
  obtain ⟨rfl, Nq4, Kq4⟩ := hQ4
  have N4 := Fr.app N2 Nq4
  obtain ⟨_, _, ⟨T5, L5, k5, n5⟩, -, X5, ⟨Lc5, hQ5, l5, y5, z5⟩, st5⟩ := Jvm.LawKit.callS X4 hx (y := m_4) hown (mvT hZ (w_80 hw)) (mvT hZ (w_81 hw)) (mvT hZ (w_2 hw)) (mvT hZ (w_82 hw)) (by decide) (backOf (W := 0) (rm_br1 l Z a0 hw [] ((oP p2)) h2 n0 (by omega) hbrk) hZ (w_82 hw) (w_2 hw) (by decide) (by decide)) (g := (mkF m 117 #[vI p0, vI p1, vI p2, vI p3, .val (.int (p0 &&& (3 : Int32))), .val (.int (oP p1)), .val (.int (oP p2)), .val (.int (oP p3)), vA x2_a_, .unset] [(.int (oP p2))])) rfl (by rw [hml]; rfl) (argsL := [(.int (oP p2))]) (rest := []) (lenOf pd_20 rfl) rfl (Nat.le_of_eq rfl) (hb hby at_117) (fun _ _ => ⟨rfl, Kq4, (by decide : 4 + 0 ≤ _), (by decide : 12 + 0 ≤ _)⟩)
  dsimp only [Pt.U, Pt.locs, Pt.cells, Pt.slots] at X5 l5 y5 z5 st5 hQ5
  rw [l5, y5, z5] at X5
  obtain ⟨rfl, Nq5, Kq5⟩ := hQ5
  have N5 := Fr.app N4 Nq5
  obtain ⟨_, _, ⟨T6, L6, k6, n6⟩, -, X6, ⟨Lc6, hQ6, l6, y6, z6⟩, st6⟩ := Jvm.LawKit.callS X5 hx (y := m_30) hown (mvT hZ (w_26 hw)) (mvT hZ (w_27 hw)) (mvT hZ (w_28 hw)) (mvT hZ (w_29 hw)) (by decide) (backOf (W := 0) (rm_hbO2 l Z a0 hw [] x2_a_ cs sf ((oP p1)) ((oP p2)) h2 n0 (by omega) r2_2 P1 r2_0 P2 P3 P4 P5 r2_1 hcs hsf (own_oP p1) (own_oP p2) (hbrk.elim (fun e => Or.inl (fun q => q.2 e)) (fun e => Or.inr (fun q => q.2 e)))) hZ (w_29 hw) (w_28 hw) (by decide) (by decide)) (g := (mkF m 193 #[vI p0, vI p1, vI p2, vI p3, .val (.int (p0 &&& (3 : Int32))), .val (.int (oP p1)), .val (.int (oP p2)), .val (.int (oP p3)), vA x2_a_, vI 1] [(.ref x2_a_)])) rfl (by rw [hml]; rfl) (argsL := [(.ref x2_a_)]) (rest := []) (lenOf pd_21 rfl) rfl (Nat.le_of_eq rfl) (hb hby at_193) (fun _ _ => ⟨rfl, Kq5, (by decide : 4 + 0 ≤ _), (by decide : 12 + 0 ≤ _)⟩)
  dsimp only [Pt.U, Pt.locs, Pt.cells, Pt.slots] at X6 l6 y6 z6 st6 hQ6
  rw [l6, y6, z6] at X6
  obtain ⟨rfl, Nq6, Kq6⟩ := hQ6
  have N6 := Fr.app N5 Nq6
  obtain ⟨fs, hr, hrun, hended, hEnd⟩ := X6.leaveW hS0 (by first | omega | (rw [(Kq6 : T6.heap = h2)]; omega)) (v := some (.int 1)) (fun h => by rw [Bd.returns] at h; cases h)
  refine ⟨_, _, castTop (ef_17 m p0 p1 p2 p3) ?_, hrun, hended, _, _, rfl, ?_, hEnd.1, hEnd.2.1, hEnd.2.2.1, hEnd.2.2.2.mono (by decide) (by decide)⟩
  · show Steps _ _ _ (s₁.setTop (mkF m 0 #[vI p0, vI p1, vI p2, vI p3, .unset, .unset, .unset, .unset, .unset, .unset] [])) _
    refine st1 _ ?_
    show Steps _ _ _ (T1.setTop (mkF m 23 #[vI p0, vI p1, vI p2, vI p3, .val (.int (p0 &&& (3 : Int32))), .val (.int (oP p1)), .val (.int (oP p2)), .val (.int (oP p3)), .unset, .unset] [])) _
    refine XS.iload X1.here hx rfl (hb hby at_23) rfl ?_
    refine XS.ifYes X1.here hx rfl (pc0 := 25) (pc' := 46) rfl (hb hby at_25) rfl ((if0 _ _).trans (feq (kq0 : ¬ ((p0 &&& (3 : Int32)) = (0 : Int32)))).2) (by decide) (by decide) ?_
    refine XS.iload X1.here hx rfl (hb hby at_46) rfl ?_
    refine XS.iconst X1.here hx rfl (hb hby at_48) ?_
    refine XS.icmpYes X1.here hx rfl (pc0 := 49) (pc' := 79) rfl (hb hby at_49) rfl (feq (kq1 : ¬ ((p0 &&& (3 : Int32)) = (1 : Int32)))).2 (by decide) (by decide) ?_
    refine XS.iload X1.here hx rfl (hb hby at_79) rfl ?_
    refine XS.iconst X1.here hx rfl (hb hby at_81) ?_
    refine XS.icmpNo X1.here hx rfl (hb hby at_82) rfl (teq (kq2 : (p0 &&& (3 : Int32)) = (2 : Int32))).2 ?_
    refine st2 _ ?_
    show Steps _ _ _ (T2.setTop (mkF m 107 #[vI p0, vI p1, vI p2, vI p3, .val (.int (p0 &&& (3 : Int32))), .val (.int (oP p1)), .val (.int (oP p2)), .val (.int (oP p3)), vA x2_a_, .unset] [])) _
    refine XS.iload X2.here hx rfl (hb hby at_107) rfl ?_
    refine st4 _ ?_
    show Steps _ _ _ (T4.setTop (mkF m 112 #[vI p0, vI p1, vI p2, vI p3, .val (.int (p0 &&& (3 : Int32))), .val (.int (oP p1)), .val (.int (oP p2)), .val (.int (oP p3)), vA x2_a_, .unset] [(.int 0)])) _
    refine XS.ifNo X4.here hx rfl (hb hby at_112) rfl ((if0 _ _).trans (teq ((by decide) : (0 : Int32) = (0 : Int32))).2) ?_
    refine XS.iload X4.here hx rfl (hb hby at_115) rfl ?_
    refine st5 _ ?_
    show Steps _ _ _ (T5.setTop (mkF m 120 #[vI p0, vI p1, vI p2, vI p3, .val (.int (p0 &&& (3 : Int32))), .val (.int (oP p1)), .val (.int (oP p2)), .val (.int (oP p3)), vA x2_a_, .unset] [(.int 1)])) _
    refine XS.ifNo X5.here hx rfl (hb hby at_120) rfl ((if0 _ _).trans (feq ((by decide) : ¬ ((1 : Int32) = (0 : Int32)))).1) ?_
    refine XS.iconst X5.here hx rfl (hb hby at_123) ?_
    refine XS.goto X5.here hx rfl (pc0 := 124) (pc' := 128) rfl (hb hby at_124) (by decide) (by decide) ?_
    refine XS.istore X5.here hx rfl (hb hby at_128) rfl (l' := #[vI p0, vI p1, vI p2, vI p3, .val (.int (p0 &&& (3 : Int32))), .val (.int (oP p1)), .val (.int (oP p2)), .val (.int (oP p3)), vA x2_a_, vI 1]) rfl ?_
    refine XS.goto X5.here hx rfl (pc0 := 130) (pc' := 191) rfl (hb hby at_130) (by decide) (by decide) ?_
    refine XS.aload X5.here hx rfl (hb hby at_191) rfl rfl ?_
    refine st6 _ ?_
    show Steps _ _ _ (T6.setTop (mkF m 196 #[vI p0, vI p1, vI p2, vI p3, .val (.int (p0 &&& (3 : Int32))), .val (.int (oP p1)), .val (.int (oP p2)), .val (.int (oP p3)), vA x2_a_, vI 1] [(.int 1)])) _
    refine XS.iload X6.here hx rfl (hb hby at_196) rfl ?_
    refine XS.icmpNo X6.here hx rfl (hb hby at_198) rfl (teq ((by decide) : (1 : Int32) = (1 : Int32))).2 ?_
    refine XS.iconst X6.here hx rfl (hb hby at_201) ?_
    refine XS.goto X6.here hx rfl (pc0 := 202) (pc' := 206) rfl (hb hby at_202) (by decide) (by decide) ?_
    exact retN X6 hx (t := .boolean) Bd.returns (by simp) (hb hby at_206) hr
  · show Q_law Z p0 p1 p2 p3 cs sf h0 n0 _ T6.heap _
    rw [(Kq6 : T6.heap = h2)]
    exact ⟨rfl, N6⟩
theorem rm_law_2_2 (l : Launch) (Z : State) (a0 : Array Value) (hw : HW Z a0) (ws : List Jvm.Cond) (p0 : Int32) (p1 : Int32) (p2 : Int32) (p3 : Int32) (cs : Int32) (sf : Value) (h0 : Heap) (n0 : Nat) (Z0 : n0 ≤ h0.size) (P0 : Old Z n0 h0) (P1 : sta0 Z (.int cs)) (P2 : sta1 Z (.int 1)) (P3 : sta2 Z (.int 0)) (P4 : sta3 Z (.int 8)) (P5 : sta4 Z sf) (hcs : ¬ (cs = (0 : Int32))) (hsf : sf.isRef = true) (kq0 : ¬ ((p0 &&& (3 : Int32)) = (0 : Int32))) (kq1 : ¬ ((p0 &&& (3 : Int32)) = (1 : Int32))) (kq2 : (p0 &&& (3 : Int32)) = (2 : Int32)) (u0 : ¬ ((oP p1) = (10 : Int32))) (v0 : ¬ ((oP p1) = (13 : Int32))) (u1 : ¬ ((oP p2) = (10 : Int32))) (v1 : ¬ ((oP p2) = (13 : Int32))) :
    MetFree l x (head1 (Jvm.Cond.code x code maxLocals ret :: ws) room_1) (fun as' U => as' = #[(.int p0), (.int p1), (.int p2), (.int p3)] ∧ Z.Warmed39 U.vm ∧ U.heap = h0 ∧ CHv Z own_EL U.vm h0) (fun _ _ _ _ _ => True) (fun _ U o U' => ∃ v L, o = .returned v ∧ Q_law Z p0 p1 p2 p3 cs sf h0 n0 v U'.heap L ∧ ReturnedEndW U o U' L room_1.cells room_1.slots) := by
  refine MetFree.of_bodySF (plainFor_of_name pn_3) hisR ?_
  intro p e s m args below meth c s₁ Bd hml0 hP hK
  obtain ⟨rfl, hZ, hh, hCH⟩ := hP
  have hx := Bd.exec
  have hby := Bd.bytes
  have hml : c.maxLocals = 10 := hml0
  have hown : (s.setVm s.vm).vm.findClass "com/example/branchward/branchward/IdsHoldsLineBreakPinLaw" = some m.cls := findClass_of_methodNamed Bd.named
  have hnm := (name_of_methodNamed Bd.named Bd.method).1
  have X0 : Stand p l e room_1 (s.setVm s.vm) m #[(.int p0), (.int p1), (.int p2), (.int p3)] below meth c s₁ [] 0 0 := Stand.of_body Bd
  have e0 : s₁.heap = h0 := by rw [← hh, Bd.state]; rfl
  have N0 := Fr.nil n0
  have hZ : Z.Warmed39 (s.setVm s.vm).vm := hZ
  have hS0 : s.Since s.vm h0.size := (State.WarmedH.refl s).since _
  have hk0 : h0.size ≤ h0.size := Nat.le_refl _
  have C0 : CHr Z own_EL s.vm h0 s.vm h0 := CHr.refl hCH
  obtain ⟨T1, h1, L1, X1, e1, N1, Kq1, r1_0, st1⟩ := pz_pre X0 hx hw hZ hown hby hml p0 p1 p2 p3 e0 N0 (by omega) P0 (by decide) (by decide) (by decide) (by decide)
  have z1' := Kq1.1
  obtain ⟨T2, h2, L2, x2_a_, X2, e2, N2, Kq2, r2_0, r2_1, r2_2, st2⟩ := pz_mk2 X1 hx hw hZ hown hby hml p0 p1 p2 p3 ((oP p1)) ((oP p2)) ((oP p3)) cs e1 N1 (by omega) r1_0 P1 P2 P3 P4 hcs (own_oP p1) (own_oP p2) (by decide) (by decide) (by decide) (by decide)
  have z2' := Kq2.1
  have lt3 := own_l r2_0.lt
  obtain ⟨_, _, ⟨T4, L4, k4, n4⟩, -, X4, ⟨Lc4, hQ4, l4, y4, z4⟩, st4⟩ := Jvm.LawKit.callS X2 hx (y := m_4) hown (mvT hZ (w_80 hw)) (mvT hZ (w_81 hw)) (mvT hZ (w_2 hw)) (mvT hZ (w_82 hw)) (by decide) (backOf (W := 0) (rm_br0 l Z a0 hw [] ((oP p1)) h2 n0 (by omega) u0 v0) hZ (w_82 hw) (w_2 hw) (by decide) (by decide)) (g := (mkF m 109 #[vI p0, vI p1, vI p2, vI p3, .val (.int (p0 &&& (3 : Int32))), .val (.int (oP p1)), .val (.int (oP p2)), .val (.int (oP p3)), vA x2_a_, .unset] [(.int (oP p1))])) rfl (by rw [hml]; rfl) (argsL := [(.int (oP p1))]) (rest := []) (lenOf pd_20 rfl) rfl (Nat.le_of_eq rfl) (hb hby at_109) (fun _ _ => ⟨rfl, e2, (by decide : 4 + 0 ≤ _), (by decide : 12 + 0 ≤ _)⟩)
  dsimp only [Pt.U, Pt.locs, Pt.cells, Pt.slots] at X4 l4 y4 z4 st4 hQ4
  rw [l4, y4, z4] at X4
  obtain ⟨rfl, Nq4, Kq4⟩ := hQ4
  have N4 := Fr.app N2 Nq4
  obtain ⟨_, _, ⟨T5, L5, k5, n5⟩, -, X5, ⟨Lc5, hQ5, l5, y5, z5⟩, st5⟩ := Jvm.LawKit.callS X4 hx (y := m_4) hown (mvT hZ (w_80 hw)) (mvT hZ (w_81 hw)) (mvT hZ (w_2 hw)) (mvT hZ (w_82 hw)) (by decide) (backOf (W := 0) (rm_br0 l Z a0 hw [] ((oP p2)) h2 n0 (by omega) u1 v1) hZ (w_82 hw) (w_2 hw) (by decide) (by decide)) (g := (mkF m 117 #[vI p0, vI p1, vI p2, vI p3, .val (.int (p0 &&& (3 : Int32))), .val (.int (oP p1)), .val (.int (oP p2)), .val (.int (oP p3)), vA x2_a_, .unset] [(.int (oP p2))])) rfl (by rw [hml]; rfl) (argsL := [(.int (oP p2))]) (rest := []) (lenOf pd_20 rfl) rfl (Nat.le_of_eq rfl) (hb hby at_117) (fun _ _ => ⟨rfl, Kq4, (by decide : 4 + 0 ≤ _), (by decide : 12 + 0 ≤ _)⟩)
  dsimp only [Pt.U, Pt.locs, Pt.cells, Pt.slots] at X5 l5 y5 z5 st5 hQ5
  rw [l5, y5, z5] at X5
  obtain ⟨rfl, Nq5, Kq5⟩ := hQ5
  have N5 := Fr.app N4 Nq5
  obtain ⟨_, _, ⟨T6, L6, k6, n6⟩, -, X6, ⟨Lc6, hQ6, l6, y6, z6⟩, st6⟩ := Jvm.LawKit.callS X5 hx (y := m_30) hown (mvT hZ (w_26 hw)) (mvT hZ (w_27 hw)) (mvT hZ (w_28 hw)) (mvT hZ (w_29 hw)) (by decide) (backOf (W := 0) (rm_hbC2 l Z a0 hw [] x2_a_ cs sf ((oP p1)) ((oP p2)) h2 n0 (by omega) r2_2 P1 r2_0 P2 P3 P4 P5 r2_1 hcs hsf (own_oP p1) (own_oP p2) ⟨u0, u1⟩ ⟨v0, v1⟩) hZ (w_29 hw) (w_28 hw) (by decide) (by decide)) (g := (mkF m 193 #[vI p0, vI p1, vI p2, vI p3, .val (.int (p0 &&& (3 : Int32))), .val (.int (oP p1)), .val (.int (oP p2)), .val (.int (oP p3)), vA x2_a_, vI 0] [(.ref x2_a_)])) rfl (by rw [hml]; rfl) (argsL := [(.ref x2_a_)]) (rest := []) (lenOf pd_21 rfl) rfl (Nat.le_of_eq rfl) (hb hby at_193) (fun _ _ => ⟨rfl, Kq5, (by decide : 4 + 0 ≤ _), (by decide : 12 + 0 ≤ _)⟩)
  dsimp only [Pt.U, Pt.locs, Pt.cells, Pt.slots] at X6 l6 y6 z6 st6 hQ6
  rw [l6, y6, z6] at X6
  obtain ⟨rfl, Nq6, Kq6⟩ := hQ6
  have N6 := Fr.app N5 Nq6
  obtain ⟨fs, hr, hrun, hended, hEnd⟩ := X6.leaveW hS0 (by first | omega | (rw [(Kq6 : T6.heap = h2)]; omega)) (v := some (.int 1)) (fun h => by rw [Bd.returns] at h; cases h)
  refine ⟨_, _, castTop (ef_17 m p0 p1 p2 p3) ?_, hrun, hended, _, _, rfl, ?_, hEnd.1, hEnd.2.1, hEnd.2.2.1, hEnd.2.2.2.mono (by decide) (by decide)⟩
  · show Steps _ _ _ (s₁.setTop (mkF m 0 #[vI p0, vI p1, vI p2, vI p3, .unset, .unset, .unset, .unset, .unset, .unset] [])) _
    refine st1 _ ?_
    show Steps _ _ _ (T1.setTop (mkF m 23 #[vI p0, vI p1, vI p2, vI p3, .val (.int (p0 &&& (3 : Int32))), .val (.int (oP p1)), .val (.int (oP p2)), .val (.int (oP p3)), .unset, .unset] [])) _
    refine XS.iload X1.here hx rfl (hb hby at_23) rfl ?_
    refine XS.ifYes X1.here hx rfl (pc0 := 25) (pc' := 46) rfl (hb hby at_25) rfl ((if0 _ _).trans (feq (kq0 : ¬ ((p0 &&& (3 : Int32)) = (0 : Int32)))).2) (by decide) (by decide) ?_
    refine XS.iload X1.here hx rfl (hb hby at_46) rfl ?_
    refine XS.iconst X1.here hx rfl (hb hby at_48) ?_
    refine XS.icmpYes X1.here hx rfl (pc0 := 49) (pc' := 79) rfl (hb hby at_49) rfl (feq (kq1 : ¬ ((p0 &&& (3 : Int32)) = (1 : Int32)))).2 (by decide) (by decide) ?_
    refine XS.iload X1.here hx rfl (hb hby at_79) rfl ?_
    refine XS.iconst X1.here hx rfl (hb hby at_81) ?_
    refine XS.icmpNo X1.here hx rfl (hb hby at_82) rfl (teq (kq2 : (p0 &&& (3 : Int32)) = (2 : Int32))).2 ?_
    refine st2 _ ?_
    show Steps _ _ _ (T2.setTop (mkF m 107 #[vI p0, vI p1, vI p2, vI p3, .val (.int (p0 &&& (3 : Int32))), .val (.int (oP p1)), .val (.int (oP p2)), .val (.int (oP p3)), vA x2_a_, .unset] [])) _
    refine XS.iload X2.here hx rfl (hb hby at_107) rfl ?_
    refine st4 _ ?_
    show Steps _ _ _ (T4.setTop (mkF m 112 #[vI p0, vI p1, vI p2, vI p3, .val (.int (p0 &&& (3 : Int32))), .val (.int (oP p1)), .val (.int (oP p2)), .val (.int (oP p3)), vA x2_a_, .unset] [(.int 0)])) _
    refine XS.ifNo X4.here hx rfl (hb hby at_112) rfl ((if0 _ _).trans (teq ((by decide) : (0 : Int32) = (0 : Int32))).2) ?_
    refine XS.iload X4.here hx rfl (hb hby at_115) rfl ?_
    refine st5 _ ?_
    show Steps _ _ _ (T5.setTop (mkF m 120 #[vI p0, vI p1, vI p2, vI p3, .val (.int (p0 &&& (3 : Int32))), .val (.int (oP p1)), .val (.int (oP p2)), .val (.int (oP p3)), vA x2_a_, .unset] [(.int 0)])) _
    refine XS.ifYes X5.here hx rfl (pc0 := 120) (pc' := 127) rfl (hb hby at_120) rfl ((if0 _ _).trans (teq ((by decide) : (0 : Int32) = (0 : Int32))).1) (by decide) (by decide) ?_
    refine XS.iconst X5.here hx rfl (hb hby at_127) ?_
    refine XS.istore X5.here hx rfl (hb hby at_128) rfl (l' := #[vI p0, vI p1, vI p2, vI p3, .val (.int (p0 &&& (3 : Int32))), .val (.int (oP p1)), .val (.int (oP p2)), .val (.int (oP p3)), vA x2_a_, vI 0]) rfl ?_
    refine XS.goto X5.here hx rfl (pc0 := 130) (pc' := 191) rfl (hb hby at_130) (by decide) (by decide) ?_
    refine XS.aload X5.here hx rfl (hb hby at_191) rfl rfl ?_
    refine st6 _ ?_
    show Steps _ _ _ (T6.setTop (mkF m 196 #[vI p0, vI p1, vI p2, vI p3, .val (.int (p0 &&& (3 : Int32))), .val (.int (oP p1)), .val (.int (oP p2)), .val (.int (oP p3)), vA x2_a_, vI 0] [(.int 0)])) _
    refine XS.iload X6.here hx rfl (hb hby at_196) rfl ?_
    refine XS.icmpNo X6.here hx rfl (hb hby at_198) rfl (teq ((by decide) : (0 : Int32) = (0 : Int32))).2 ?_
    refine XS.iconst X6.here hx rfl (hb hby at_201) ?_
    refine XS.goto X6.here hx rfl (pc0 := 202) (pc' := 206) rfl (hb hby at_202) (by decide) (by decide) ?_
    exact retN X6 hx (t := .boolean) Bd.returns (by simp) (hb hby at_206) hr
  · show Q_law Z p0 p1 p2 p3 cs sf h0 n0 _ T6.heap _
    rw [(Kq6 : T6.heap = h2)]
    exact ⟨rfl, N6⟩
theorem rm_law_3_0 (l : Launch) (Z : State) (a0 : Array Value) (hw : HW Z a0) (ws : List Jvm.Cond) (p0 : Int32) (p1 : Int32) (p2 : Int32) (p3 : Int32) (cs : Int32) (sf : Value) (h0 : Heap) (n0 : Nat) (Z0 : n0 ≤ h0.size) (P0 : Old Z n0 h0) (P1 : sta0 Z (.int cs)) (P2 : sta1 Z (.int 1)) (P3 : sta2 Z (.int 0)) (P4 : sta3 Z (.int 8)) (P5 : sta4 Z sf) (hcs : ¬ (cs = (0 : Int32))) (hsf : sf.isRef = true) (kq0 : ¬ ((p0 &&& (3 : Int32)) = (0 : Int32))) (kq1 : ¬ ((p0 &&& (3 : Int32)) = (1 : Int32))) (kq2 : ¬ ((p0 &&& (3 : Int32)) = (2 : Int32))) (hbrk : (oP p1) = (10 : Int32) ∨ (oP p1) = (13 : Int32)) :
    MetFree l x (head1 (Jvm.Cond.code x code maxLocals ret :: ws) room_1) (fun as' U => as' = #[(.int p0), (.int p1), (.int p2), (.int p3)] ∧ Z.Warmed39 U.vm ∧ U.heap = h0 ∧ CHv Z own_EL U.vm h0) (fun _ _ _ _ _ => True) (fun _ U o U' => ∃ v L, o = .returned v ∧ Q_law Z p0 p1 p2 p3 cs sf h0 n0 v U'.heap L ∧ ReturnedEndW U o U' L room_1.cells room_1.slots) := by
  refine MetFree.of_bodySF (plainFor_of_name pn_3) hisR ?_
  intro p e s m args below meth c s₁ Bd hml0 hP hK
  obtain ⟨rfl, hZ, hh, hCH⟩ := hP
  have hx := Bd.exec
  have hby := Bd.bytes
  have hml : c.maxLocals = 10 := hml0
  have hown : (s.setVm s.vm).vm.findClass "com/example/branchward/branchward/IdsHoldsLineBreakPinLaw" = some m.cls := findClass_of_methodNamed Bd.named
  have hnm := (name_of_methodNamed Bd.named Bd.method).1
  have X0 : Stand p l e room_1 (s.setVm s.vm) m #[(.int p0), (.int p1), (.int p2), (.int p3)] below meth c s₁ [] 0 0 := Stand.of_body Bd
  have e0 : s₁.heap = h0 := by rw [← hh, Bd.state]; rfl
  have N0 := Fr.nil n0
  have hZ : Z.Warmed39 (s.setVm s.vm).vm := hZ
  have hS0 : s.Since s.vm h0.size := (State.WarmedH.refl s).since _
  have hk0 : h0.size ≤ h0.size := Nat.le_refl _
  have C0 : CHr Z own_EL s.vm h0 s.vm h0 := CHr.refl hCH
  obtain ⟨T1, h1, L1, X1, e1, N1, Kq1, r1_0, st1⟩ := pz_pre X0 hx hw hZ hown hby hml p0 p1 p2 p3 e0 N0 (by omega) P0 (by decide) (by decide) (by decide) (by decide)
  have z1' := Kq1.1
  obtain ⟨T2, h2, L2, x2_a_, X2, e2, N2, Kq2, r2_0, r2_1, r2_2, st2⟩ := pz_mk3 X1 hx hw hZ hown hby hml p0 p1 p2 p3 ((oP p1)) ((oP p2)) ((oP p3)) cs e1 N1 (by omega) r1_0 P1 P2 P3 P4 hcs (own_oP p1) (own_oP p2) (own_oP p3) (by decide) (by decide) (by decide) (by decide)
  have z2' := Kq2.1
  have lt3 := own_l r2_0.lt
  obtain ⟨_, _, ⟨T4, L4, k4, n4⟩, -, X4, ⟨Lc4, hQ4, l4, y4, z4⟩, st4⟩ := Jvm.LawKit.callS X2 hx (y := m_4) hown (mvT hZ (w_80 hw)) (mvT hZ (w_81 hw)) (mvT hZ (w_2 hw)) (mvT hZ (w_82 hw)) (by decide) (backOf (W := 0) (rm_br1 l Z a0 hw [] ((oP p1)) h2 n0 (by omega) hbrk) hZ (w_82 hw) (w_2 hw) (by decide) (by decide)) (g := (mkF m 162 #[vI p0, vI p1, vI p2, vI p3, .val (.int (p0 &&& (3 : Int32))), .val (.int (oP p1)), .val (.int (oP p2)), .val (.int (oP p3)), vA x2_a_, .unset] [(.int (oP p1))])) rfl (by rw [hml]; rfl) (argsL := [(.int (oP p1))]) (rest := []) (lenOf pd_20 rfl) rfl (Nat.le_of_eq rfl) (hb hby at_162) (fun _ _ => ⟨rfl, e2, (by decide : 4 + 0 ≤ _), (by decide : 16 + 0 ≤ _)⟩)
  dsimp only [Pt.U, Pt.locs, Pt.cells, Pt.slots] at X4 l4 y4 z4 st4 hQ4
  rw [l4, y4, z4] at X4
  obtain ⟨rfl, Nq4, Kq4⟩ := hQ4
  have N4 := Fr.app N2 Nq4
  obtain ⟨_, _, ⟨T5, L5, k5, n5⟩, -, X5, ⟨Lc5, hQ5, l5, y5, z5⟩, st5⟩ := Jvm.LawKit.callS X4 hx (y := m_30) hown (mvT hZ (w_26 hw)) (mvT hZ (w_27 hw)) (mvT hZ (w_28 hw)) (mvT hZ (w_29 hw)) (by decide) (backOf (W := 0) (rm_hbO3 l Z a0 hw [] x2_a_ cs sf ((oP p1)) ((oP p2)) ((oP p3)) h2 n0 (by omega) r2_2 P1 r2_0 P2 P3 P4 P5 r2_1 hcs hsf (own_oP p1) (own_oP p2) (own_oP p3) (hbrk.elim (fun e => Or.inl (fun q => q.1 e)) (fun e => Or.inr (fun q => q.1 e)))) hZ (w_29 hw) (w_28 hw) (by decide) (by decide)) (g := (mkF m 193 #[vI p0, vI p1, vI p2, vI p3, .val (.int (p0 &&& (3 : Int32))), .val (.int (oP p1)), .val (.int (oP p2)), .val (.int (oP p3)), vA x2_a_, vI 1] [(.ref x2_a_)])) rfl (by rw [hml]; rfl) (argsL := [(.ref x2_a_)]) (rest := []) (lenOf pd_21 rfl) rfl (Nat.le_of_eq rfl) (hb hby at_193) (fun _ _ => ⟨rfl, Kq4, (by decide : 4 + 0 ≤ _), (by decide : 16 + 0 ≤ _)⟩)
  dsimp only [Pt.U, Pt.locs, Pt.cells, Pt.slots] at X5 l5 y5 z5 st5 hQ5
  rw [l5, y5, z5] at X5
  obtain ⟨rfl, Nq5, Kq5⟩ := hQ5
  have N5 := Fr.app N4 Nq5
  obtain ⟨fs, hr, hrun, hended, hEnd⟩ := X5.leaveW hS0 (by first | omega | (rw [(Kq5 : T5.heap = h2)]; omega)) (v := some (.int 1)) (fun h => by rw [Bd.returns] at h; cases h)
  refine ⟨_, _, castTop (ef_17 m p0 p1 p2 p3) ?_, hrun, hended, _, _, rfl, ?_, hEnd.1, hEnd.2.1, hEnd.2.2.1, hEnd.2.2.2.mono (by decide) (by decide)⟩
  · show Steps _ _ _ (s₁.setTop (mkF m 0 #[vI p0, vI p1, vI p2, vI p3, .unset, .unset, .unset, .unset, .unset, .unset] [])) _
    refine st1 _ ?_
    show Steps _ _ _ (T1.setTop (mkF m 23 #[vI p0, vI p1, vI p2, vI p3, .val (.int (p0 &&& (3 : Int32))), .val (.int (oP p1)), .val (.int (oP p2)), .val (.int (oP p3)), .unset, .unset] [])) _
    refine XS.iload X1.here hx rfl (hb hby at_23) rfl ?_
    refine XS.ifYes X1.here hx rfl (pc0 := 25) (pc' := 46) rfl (hb hby at_25) rfl ((if0 _ _).trans (feq (kq0 : ¬ ((p0 &&& (3 : Int32)) = (0 : Int32)))).2) (by decide) (by decide) ?_
    refine XS.iload X1.here hx rfl (hb hby at_46) rfl ?_
    refine XS.iconst X1.here hx rfl (hb hby at_48) ?_
    refine XS.icmpYes X1.here hx rfl (pc0 := 49) (pc' := 79) rfl (hb hby at_49) rfl (feq (kq1 : ¬ ((p0 &&& (3 : Int32)) = (1 : Int32)))).2 (by decide) (by decide) ?_
    refine XS.iload X1.here hx rfl (hb hby at_79) rfl ?_
    refine XS.iconst X1.here hx rfl (hb hby at_81) ?_
    refine XS.icmpYes X1.here hx rfl (pc0 := 82) (pc' := 133) rfl (hb hby at_82) rfl (feq (kq2 : ¬ ((p0 &&& (3 : Int32)) = (2 : Int32)))).2 (by decide) (by decide) ?_
    refine st2 _ ?_
    show Steps _ _ _ (T2.setTop (mkF m 160 #[vI p0, vI p1, vI p2, vI p3, .val (.int (p0 &&& (3 : Int32))), .val (.int (oP p1)), .val (.int (oP p2)), .val (.int (oP p3)), vA x2_a_, .unset] [])) _
    refine XS.iload X2.here hx rfl (hb hby at_160) rfl ?_
    refine st4 _ ?_
    show Steps _ _ _ (T4.setTop (mkF m 165 #[vI p0, vI p1, vI p2, vI p3, .val (.int (p0 &&& (3 : Int32))), .val (.int (oP p1)), .val (.int (oP p2)), .val (.int (oP p3)), vA x2_a_, .unset] [(.int 1)])) _
    refine XS.ifYes X4.here hx rfl (pc0 := 165) (pc' := 184) rfl (hb hby at_165) rfl ((if0 _ _).trans (feq ((by decide) : ¬ ((1 : Int32) = (0 : Int32)))).2) (by decide) (by decide) ?_
    refine XS.iconst X4.here hx rfl (hb hby at_184) ?_
    refine XS.goto X4.here hx rfl (pc0 := 185) (pc' := 189) rfl (hb hby at_185) (by decide) (by decide) ?_
    refine XS.istore X4.here hx rfl (hb hby at_189) rfl (l' := #[vI p0, vI p1, vI p2, vI p3, .val (.int (p0 &&& (3 : Int32))), .val (.int (oP p1)), .val (.int (oP p2)), .val (.int (oP p3)), vA x2_a_, vI 1]) rfl ?_
    refine XS.aload X4.here hx rfl (hb hby at_191) rfl rfl ?_
    refine st5 _ ?_
    show Steps _ _ _ (T5.setTop (mkF m 196 #[vI p0, vI p1, vI p2, vI p3, .val (.int (p0 &&& (3 : Int32))), .val (.int (oP p1)), .val (.int (oP p2)), .val (.int (oP p3)), vA x2_a_, vI 1] [(.int 1)])) _
    refine XS.iload X5.here hx rfl (hb hby at_196) rfl ?_
    refine XS.icmpNo X5.here hx rfl (hb hby at_198) rfl (teq ((by decide) : (1 : Int32) = (1 : Int32))).2 ?_
    refine XS.iconst X5.here hx rfl (hb hby at_201) ?_
    refine XS.goto X5.here hx rfl (pc0 := 202) (pc' := 206) rfl (hb hby at_202) (by decide) (by decide) ?_
    exact retN X5 hx (t := .boolean) Bd.returns (by simp) (hb hby at_206) hr
  · show Q_law Z p0 p1 p2 p3 cs sf h0 n0 _ T5.heap _
    rw [(Kq5 : T5.heap = h2)]
    exact ⟨rfl, N5⟩
theorem rm_law_3_1 (l : Launch) (Z : State) (a0 : Array Value) (hw : HW Z a0) (ws : List Jvm.Cond) (p0 : Int32) (p1 : Int32) (p2 : Int32) (p3 : Int32) (cs : Int32) (sf : Value) (h0 : Heap) (n0 : Nat) (Z0 : n0 ≤ h0.size) (P0 : Old Z n0 h0) (P1 : sta0 Z (.int cs)) (P2 : sta1 Z (.int 1)) (P3 : sta2 Z (.int 0)) (P4 : sta3 Z (.int 8)) (P5 : sta4 Z sf) (hcs : ¬ (cs = (0 : Int32))) (hsf : sf.isRef = true) (kq0 : ¬ ((p0 &&& (3 : Int32)) = (0 : Int32))) (kq1 : ¬ ((p0 &&& (3 : Int32)) = (1 : Int32))) (kq2 : ¬ ((p0 &&& (3 : Int32)) = (2 : Int32))) (u0 : ¬ ((oP p1) = (10 : Int32))) (v0 : ¬ ((oP p1) = (13 : Int32))) (hbrk : (oP p2) = (10 : Int32) ∨ (oP p2) = (13 : Int32)) :
    MetFree l x (head1 (Jvm.Cond.code x code maxLocals ret :: ws) room_1) (fun as' U => as' = #[(.int p0), (.int p1), (.int p2), (.int p3)] ∧ Z.Warmed39 U.vm ∧ U.heap = h0 ∧ CHv Z own_EL U.vm h0) (fun _ _ _ _ _ => True) (fun _ U o U' => ∃ v L, o = .returned v ∧ Q_law Z p0 p1 p2 p3 cs sf h0 n0 v U'.heap L ∧ ReturnedEndW U o U' L room_1.cells room_1.slots) := by
  refine MetFree.of_bodySF (plainFor_of_name pn_3) hisR ?_
  intro p e s m args below meth c s₁ Bd hml0 hP hK
  obtain ⟨rfl, hZ, hh, hCH⟩ := hP
  have hx := Bd.exec
  have hby := Bd.bytes
  have hml : c.maxLocals = 10 := hml0
  have hown : (s.setVm s.vm).vm.findClass "com/example/branchward/branchward/IdsHoldsLineBreakPinLaw" = some m.cls := findClass_of_methodNamed Bd.named
  have hnm := (name_of_methodNamed Bd.named Bd.method).1
  have X0 : Stand p l e room_1 (s.setVm s.vm) m #[(.int p0), (.int p1), (.int p2), (.int p3)] below meth c s₁ [] 0 0 := Stand.of_body Bd
  have e0 : s₁.heap = h0 := by rw [← hh, Bd.state]; rfl
  have N0 := Fr.nil n0
  have hZ : Z.Warmed39 (s.setVm s.vm).vm := hZ
  have hS0 : s.Since s.vm h0.size := (State.WarmedH.refl s).since _
  have hk0 : h0.size ≤ h0.size := Nat.le_refl _
  have C0 : CHr Z own_EL s.vm h0 s.vm h0 := CHr.refl hCH
  obtain ⟨T1, h1, L1, X1, e1, N1, Kq1, r1_0, st1⟩ := pz_pre X0 hx hw hZ hown hby hml p0 p1 p2 p3 e0 N0 (by omega) P0 (by decide) (by decide) (by decide) (by decide)
  have z1' := Kq1.1
  obtain ⟨T2, h2, L2, x2_a_, X2, e2, N2, Kq2, r2_0, r2_1, r2_2, st2⟩ := pz_mk3 X1 hx hw hZ hown hby hml p0 p1 p2 p3 ((oP p1)) ((oP p2)) ((oP p3)) cs e1 N1 (by omega) r1_0 P1 P2 P3 P4 hcs (own_oP p1) (own_oP p2) (own_oP p3) (by decide) (by decide) (by decide) (by decide)
  have z2' := Kq2.1
  have lt3 := own_l r2_0.lt
  obtain ⟨_, _, ⟨T4, L4, k4, n4⟩, -, X4, ⟨Lc4, hQ4, l4, y4, z4⟩, st4⟩ := Jvm.LawKit.callS X2 hx (y := m_4) hown (mvT hZ (w_80 hw)) (mvT hZ (w_81 hw)) (mvT hZ (w_2 hw)) (mvT hZ (w_82 hw)) (by decide) (backOf (W := 0) (rm_br0 l Z a0 hw [] ((oP p1)) h2 n0 (by omega) u0 v0) hZ (w_82 hw) (w_2 hw) (by decide) (by decide)) (g := (mkF m 162 #[vI p0, vI p1, vI p2, vI p3, .val (.int (p0 &&& (3 : Int32))), .val (.int (oP p1)), .val (.int (oP p2)), .val (.int (oP p3)), vA x2_a_, .unset] [(.int (oP p1))])) rfl (by rw [hml]; rfl) (argsL := [(.int (oP p1))]) (rest := []) (lenOf pd_20 rfl) rfl (Nat.le_of_eq rfl) (hb hby at_162) (fun _ _ => ⟨rfl, e2, (by decide : 4 + 0 ≤ _), (by decide : 16 + 0 ≤ _)⟩)
  dsimp only [Pt.U, Pt.locs, Pt.cells, Pt.slots] at X4 l4 y4 z4 st4 hQ4
  rw [l4, y4, z4] at X4
  obtain ⟨rfl, Nq4, Kq4⟩ := hQ4
  have N4 := Fr.app N2 Nq4
  obtain ⟨_, _, ⟨T5, L5, k5, n5⟩, -, X5, ⟨Lc5, hQ5, l5, y5, z5⟩, st5⟩ := Jvm.LawKit.callS X4 hx (y := m_4) hown (mvT hZ (w_80 hw)) (mvT hZ (w_81 hw)) (mvT hZ (w_2 hw)) (mvT hZ (w_82 hw)) (by decide) (backOf (W := 0) (rm_br1 l Z a0 hw [] ((oP p2)) h2 n0 (by omega) hbrk) hZ (w_82 hw) (w_2 hw) (by decide) (by decide)) (g := (mkF m 170 #[vI p0, vI p1, vI p2, vI p3, .val (.int (p0 &&& (3 : Int32))), .val (.int (oP p1)), .val (.int (oP p2)), .val (.int (oP p3)), vA x2_a_, .unset] [(.int (oP p2))])) rfl (by rw [hml]; rfl) (argsL := [(.int (oP p2))]) (rest := []) (lenOf pd_20 rfl) rfl (Nat.le_of_eq rfl) (hb hby at_170) (fun _ _ => ⟨rfl, Kq4, (by decide : 4 + 0 ≤ _), (by decide : 16 + 0 ≤ _)⟩)
  dsimp only [Pt.U, Pt.locs, Pt.cells, Pt.slots] at X5 l5 y5 z5 st5 hQ5
  rw [l5, y5, z5] at X5
  obtain ⟨rfl, Nq5, Kq5⟩ := hQ5
  have N5 := Fr.app N4 Nq5
  obtain ⟨_, _, ⟨T6, L6, k6, n6⟩, -, X6, ⟨Lc6, hQ6, l6, y6, z6⟩, st6⟩ := Jvm.LawKit.callS X5 hx (y := m_30) hown (mvT hZ (w_26 hw)) (mvT hZ (w_27 hw)) (mvT hZ (w_28 hw)) (mvT hZ (w_29 hw)) (by decide) (backOf (W := 0) (rm_hbO3 l Z a0 hw [] x2_a_ cs sf ((oP p1)) ((oP p2)) ((oP p3)) h2 n0 (by omega) r2_2 P1 r2_0 P2 P3 P4 P5 r2_1 hcs hsf (own_oP p1) (own_oP p2) (own_oP p3) (hbrk.elim (fun e => Or.inl (fun q => q.2.1 e)) (fun e => Or.inr (fun q => q.2.1 e)))) hZ (w_29 hw) (w_28 hw) (by decide) (by decide)) (g := (mkF m 193 #[vI p0, vI p1, vI p2, vI p3, .val (.int (p0 &&& (3 : Int32))), .val (.int (oP p1)), .val (.int (oP p2)), .val (.int (oP p3)), vA x2_a_, vI 1] [(.ref x2_a_)])) rfl (by rw [hml]; rfl) (argsL := [(.ref x2_a_)]) (rest := []) (lenOf pd_21 rfl) rfl (Nat.le_of_eq rfl) (hb hby at_193) (fun _ _ => ⟨rfl, Kq5, (by decide : 4 + 0 ≤ _), (by decide : 16 + 0 ≤ _)⟩)
  dsimp only [Pt.U, Pt.locs, Pt.cells, Pt.slots] at X6 l6 y6 z6 st6 hQ6
  rw [l6, y6, z6] at X6
  obtain ⟨rfl, Nq6, Kq6⟩ := hQ6
  have N6 := Fr.app N5 Nq6
  obtain ⟨fs, hr, hrun, hended, hEnd⟩ := X6.leaveW hS0 (by first | omega | (rw [(Kq6 : T6.heap = h2)]; omega)) (v := some (.int 1)) (fun h => by rw [Bd.returns] at h; cases h)
  refine ⟨_, _, castTop (ef_17 m p0 p1 p2 p3) ?_, hrun, hended, _, _, rfl, ?_, hEnd.1, hEnd.2.1, hEnd.2.2.1, hEnd.2.2.2.mono (by decide) (by decide)⟩
  · show Steps _ _ _ (s₁.setTop (mkF m 0 #[vI p0, vI p1, vI p2, vI p3, .unset, .unset, .unset, .unset, .unset, .unset] [])) _
    refine st1 _ ?_
    show Steps _ _ _ (T1.setTop (mkF m 23 #[vI p0, vI p1, vI p2, vI p3, .val (.int (p0 &&& (3 : Int32))), .val (.int (oP p1)), .val (.int (oP p2)), .val (.int (oP p3)), .unset, .unset] [])) _
    refine XS.iload X1.here hx rfl (hb hby at_23) rfl ?_
    refine XS.ifYes X1.here hx rfl (pc0 := 25) (pc' := 46) rfl (hb hby at_25) rfl ((if0 _ _).trans (feq (kq0 : ¬ ((p0 &&& (3 : Int32)) = (0 : Int32)))).2) (by decide) (by decide) ?_
    refine XS.iload X1.here hx rfl (hb hby at_46) rfl ?_
    refine XS.iconst X1.here hx rfl (hb hby at_48) ?_
    refine XS.icmpYes X1.here hx rfl (pc0 := 49) (pc' := 79) rfl (hb hby at_49) rfl (feq (kq1 : ¬ ((p0 &&& (3 : Int32)) = (1 : Int32)))).2 (by decide) (by decide) ?_
    refine XS.iload X1.here hx rfl (hb hby at_79) rfl ?_
    refine XS.iconst X1.here hx rfl (hb hby at_81) ?_
    refine XS.icmpYes X1.here hx rfl (pc0 := 82) (pc' := 133) rfl (hb hby at_82) rfl (feq (kq2 : ¬ ((p0 &&& (3 : Int32)) = (2 : Int32)))).2 (by decide) (by decide) ?_
    refine st2 _ ?_
    show Steps _ _ _ (T2.setTop (mkF m 160 #[vI p0, vI p1, vI p2, vI p3, .val (.int (p0 &&& (3 : Int32))), .val (.int (oP p1)), .val (.int (oP p2)), .val (.int (oP p3)), vA x2_a_, .unset] [])) _
    refine XS.iload X2.here hx rfl (hb hby at_160) rfl ?_
    refine st4 _ ?_
    show Steps _ _ _ (T4.setTop (mkF m 165 #[vI p0, vI p1, vI p2, vI p3, .val (.int (p0 &&& (3 : Int32))), .val (.int (oP p1)), .val (.int (oP p2)), .val (.int (oP p3)), vA x2_a_, .unset] [(.int 0)])) _
    refine XS.ifNo X4.here hx rfl (hb hby at_165) rfl ((if0 _ _).trans (teq ((by decide) : (0 : Int32) = (0 : Int32))).2) ?_
    refine XS.iload X4.here hx rfl (hb hby at_168) rfl ?_
    refine st5 _ ?_
    show Steps _ _ _ (T5.setTop (mkF m 173 #[vI p0, vI p1, vI p2, vI p3, .val (.int (p0 &&& (3 : Int32))), .val (.int (oP p1)), .val (.int (oP p2)), .val (.int (oP p3)), vA x2_a_, .unset] [(.int 1)])) _
    refine XS.ifYes X5.here hx rfl (pc0 := 173) (pc' := 184) rfl (hb hby at_173) rfl ((if0 _ _).trans (feq ((by decide) : ¬ ((1 : Int32) = (0 : Int32)))).2) (by decide) (by decide) ?_
    refine XS.iconst X5.here hx rfl (hb hby at_184) ?_
    refine XS.goto X5.here hx rfl (pc0 := 185) (pc' := 189) rfl (hb hby at_185) (by decide) (by decide) ?_
    refine XS.istore X5.here hx rfl (hb hby at_189) rfl (l' := #[vI p0, vI p1, vI p2, vI p3, .val (.int (p0 &&& (3 : Int32))), .val (.int (oP p1)), .val (.int (oP p2)), .val (.int (oP p3)), vA x2_a_, vI 1]) rfl ?_
    refine XS.aload X5.here hx rfl (hb hby at_191) rfl rfl ?_
    refine st6 _ ?_
    show Steps _ _ _ (T6.setTop (mkF m 196 #[vI p0, vI p1, vI p2, vI p3, .val (.int (p0 &&& (3 : Int32))), .val (.int (oP p1)), .val (.int (oP p2)), .val (.int (oP p3)), vA x2_a_, vI 1] [(.int 1)])) _
    refine XS.iload X6.here hx rfl (hb hby at_196) rfl ?_
    refine XS.icmpNo X6.here hx rfl (hb hby at_198) rfl (teq ((by decide) : (1 : Int32) = (1 : Int32))).2 ?_
    refine XS.iconst X6.here hx rfl (hb hby at_201) ?_
    refine XS.goto X6.here hx rfl (pc0 := 202) (pc' := 206) rfl (hb hby at_202) (by decide) (by decide) ?_
    exact retN X6 hx (t := .boolean) Bd.returns (by simp) (hb hby at_206) hr
  · show Q_law Z p0 p1 p2 p3 cs sf h0 n0 _ T6.heap _
    rw [(Kq6 : T6.heap = h2)]
    exact ⟨rfl, N6⟩
theorem rm_law_3_2 (l : Launch) (Z : State) (a0 : Array Value) (hw : HW Z a0) (ws : List Jvm.Cond) (p0 : Int32) (p1 : Int32) (p2 : Int32) (p3 : Int32) (cs : Int32) (sf : Value) (h0 : Heap) (n0 : Nat) (Z0 : n0 ≤ h0.size) (P0 : Old Z n0 h0) (P1 : sta0 Z (.int cs)) (P2 : sta1 Z (.int 1)) (P3 : sta2 Z (.int 0)) (P4 : sta3 Z (.int 8)) (P5 : sta4 Z sf) (hcs : ¬ (cs = (0 : Int32))) (hsf : sf.isRef = true) (kq0 : ¬ ((p0 &&& (3 : Int32)) = (0 : Int32))) (kq1 : ¬ ((p0 &&& (3 : Int32)) = (1 : Int32))) (kq2 : ¬ ((p0 &&& (3 : Int32)) = (2 : Int32))) (u0 : ¬ ((oP p1) = (10 : Int32))) (v0 : ¬ ((oP p1) = (13 : Int32))) (u1 : ¬ ((oP p2) = (10 : Int32))) (v1 : ¬ ((oP p2) = (13 : Int32))) (hbrk : (oP p3) = (10 : Int32) ∨ (oP p3) = (13 : Int32)) :
    MetFree l x (head1 (Jvm.Cond.code x code maxLocals ret :: ws) room_1) (fun as' U => as' = #[(.int p0), (.int p1), (.int p2), (.int p3)] ∧ Z.Warmed39 U.vm ∧ U.heap = h0 ∧ CHv Z own_EL U.vm h0) (fun _ _ _ _ _ => True) (fun _ U o U' => ∃ v L, o = .returned v ∧ Q_law Z p0 p1 p2 p3 cs sf h0 n0 v U'.heap L ∧ ReturnedEndW U o U' L room_1.cells room_1.slots) := by
  refine MetFree.of_bodySF (plainFor_of_name pn_3) hisR ?_
  intro p e s m args below meth c s₁ Bd hml0 hP hK
  obtain ⟨rfl, hZ, hh, hCH⟩ := hP
  have hx := Bd.exec
  have hby := Bd.bytes
  have hml : c.maxLocals = 10 := hml0
  have hown : (s.setVm s.vm).vm.findClass "com/example/branchward/branchward/IdsHoldsLineBreakPinLaw" = some m.cls := findClass_of_methodNamed Bd.named
  have hnm := (name_of_methodNamed Bd.named Bd.method).1
  have X0 : Stand p l e room_1 (s.setVm s.vm) m #[(.int p0), (.int p1), (.int p2), (.int p3)] below meth c s₁ [] 0 0 := Stand.of_body Bd
  have e0 : s₁.heap = h0 := by rw [← hh, Bd.state]; rfl
  have N0 := Fr.nil n0
  have hZ : Z.Warmed39 (s.setVm s.vm).vm := hZ
  have hS0 : s.Since s.vm h0.size := (State.WarmedH.refl s).since _
  have hk0 : h0.size ≤ h0.size := Nat.le_refl _
  have C0 : CHr Z own_EL s.vm h0 s.vm h0 := CHr.refl hCH
  obtain ⟨T1, h1, L1, X1, e1, N1, Kq1, r1_0, st1⟩ := pz_pre X0 hx hw hZ hown hby hml p0 p1 p2 p3 e0 N0 (by omega) P0 (by decide) (by decide) (by decide) (by decide)
  have z1' := Kq1.1
  obtain ⟨T2, h2, L2, x2_a_, X2, e2, N2, Kq2, r2_0, r2_1, r2_2, st2⟩ := pz_mk3 X1 hx hw hZ hown hby hml p0 p1 p2 p3 ((oP p1)) ((oP p2)) ((oP p3)) cs e1 N1 (by omega) r1_0 P1 P2 P3 P4 hcs (own_oP p1) (own_oP p2) (own_oP p3) (by decide) (by decide) (by decide) (by decide)
  have z2' := Kq2.1
  have lt3 := own_l r2_0.lt
  obtain ⟨_, _, ⟨T4, L4, k4, n4⟩, -, X4, ⟨Lc4, hQ4, l4, y4, z4⟩, st4⟩ := Jvm.LawKit.callS X2 hx (y := m_4) hown (mvT hZ (w_80 hw)) (mvT hZ (w_81 hw)) (mvT hZ (w_2 hw)) (mvT hZ (w_82 hw)) (by decide) (backOf (W := 0) (rm_br0 l Z a0 hw [] ((oP p1)) h2 n0 (by omega) u0 v0) hZ (w_82 hw) (w_2 hw) (by decide) (by decide)) (g := (mkF m 162 #[vI p0, vI p1, vI p2, vI p3, .val (.int (p0 &&& (3 : Int32))), .val (.int (oP p1)), .val (.int (oP p2)), .val (.int (oP p3)), vA x2_a_, .unset] [(.int (oP p1))])) rfl (by rw [hml]; rfl) (argsL := [(.int (oP p1))]) (rest := []) (lenOf pd_20 rfl) rfl (Nat.le_of_eq rfl) (hb hby at_162) (fun _ _ => ⟨rfl, e2, (by decide : 4 + 0 ≤ _), (by decide : 16 + 0 ≤ _)⟩)
  dsimp only [Pt.U, Pt.locs, Pt.cells, Pt.slots] at X4 l4 y4 z4 st4 hQ4
  rw [l4, y4, z4] at X4
  obtain ⟨rfl, Nq4, Kq4⟩ := hQ4
  have N4 := Fr.app N2 Nq4
  obtain ⟨_, _, ⟨T5, L5, k5, n5⟩, -, X5, ⟨Lc5, hQ5, l5, y5, z5⟩, st5⟩ := Jvm.LawKit.callS X4 hx (y := m_4) hown (mvT hZ (w_80 hw)) (mvT hZ (w_81 hw)) (mvT hZ (w_2 hw)) (mvT hZ (w_82 hw)) (by decide) (backOf (W := 0) (rm_br0 l Z a0 hw [] ((oP p2)) h2 n0 (by omega) u1 v1) hZ (w_82 hw) (w_2 hw) (by decide) (by decide)) (g := (mkF m 170 #[vI p0, vI p1, vI p2, vI p3, .val (.int (p0 &&& (3 : Int32))), .val (.int (oP p1)), .val (.int (oP p2)), .val (.int (oP p3)), vA x2_a_, .unset] [(.int (oP p2))])) rfl (by rw [hml]; rfl) (argsL := [(.int (oP p2))]) (rest := []) (lenOf pd_20 rfl) rfl (Nat.le_of_eq rfl) (hb hby at_170) (fun _ _ => ⟨rfl, Kq4, (by decide : 4 + 0 ≤ _), (by decide : 16 + 0 ≤ _)⟩)
  dsimp only [Pt.U, Pt.locs, Pt.cells, Pt.slots] at X5 l5 y5 z5 st5 hQ5
  rw [l5, y5, z5] at X5
  obtain ⟨rfl, Nq5, Kq5⟩ := hQ5
  have N5 := Fr.app N4 Nq5
  obtain ⟨_, _, ⟨T6, L6, k6, n6⟩, -, X6, ⟨Lc6, hQ6, l6, y6, z6⟩, st6⟩ := Jvm.LawKit.callS X5 hx (y := m_4) hown (mvT hZ (w_80 hw)) (mvT hZ (w_81 hw)) (mvT hZ (w_2 hw)) (mvT hZ (w_82 hw)) (by decide) (backOf (W := 0) (rm_br1 l Z a0 hw [] ((oP p3)) h2 n0 (by omega) hbrk) hZ (w_82 hw) (w_2 hw) (by decide) (by decide)) (g := (mkF m 178 #[vI p0, vI p1, vI p2, vI p3, .val (.int (p0 &&& (3 : Int32))), .val (.int (oP p1)), .val (.int (oP p2)), .val (.int (oP p3)), vA x2_a_, .unset] [(.int (oP p3))])) rfl (by rw [hml]; rfl) (argsL := [(.int (oP p3))]) (rest := []) (lenOf pd_20 rfl) rfl (Nat.le_of_eq rfl) (hb hby at_178) (fun _ _ => ⟨rfl, Kq5, (by decide : 4 + 0 ≤ _), (by decide : 16 + 0 ≤ _)⟩)
  dsimp only [Pt.U, Pt.locs, Pt.cells, Pt.slots] at X6 l6 y6 z6 st6 hQ6
  rw [l6, y6, z6] at X6
  obtain ⟨rfl, Nq6, Kq6⟩ := hQ6
  have N6 := Fr.app N5 Nq6
  obtain ⟨_, _, ⟨T7, L7, k7, n7⟩, -, X7, ⟨Lc7, hQ7, l7, y7, z7⟩, st7⟩ := Jvm.LawKit.callS X6 hx (y := m_30) hown (mvT hZ (w_26 hw)) (mvT hZ (w_27 hw)) (mvT hZ (w_28 hw)) (mvT hZ (w_29 hw)) (by decide) (backOf (W := 0) (rm_hbO3 l Z a0 hw [] x2_a_ cs sf ((oP p1)) ((oP p2)) ((oP p3)) h2 n0 (by omega) r2_2 P1 r2_0 P2 P3 P4 P5 r2_1 hcs hsf (own_oP p1) (own_oP p2) (own_oP p3) (hbrk.elim (fun e => Or.inl (fun q => q.2.2 e)) (fun e => Or.inr (fun q => q.2.2 e)))) hZ (w_29 hw) (w_28 hw) (by decide) (by decide)) (g := (mkF m 193 #[vI p0, vI p1, vI p2, vI p3, .val (.int (p0 &&& (3 : Int32))), .val (.int (oP p1)), .val (.int (oP p2)), .val (.int (oP p3)), vA x2_a_, vI 1] [(.ref x2_a_)])) rfl (by rw [hml]; rfl) (argsL := [(.ref x2_a_)]) (rest := []) (lenOf pd_21 rfl) rfl (Nat.le_of_eq rfl) (hb hby at_193) (fun _ _ => ⟨rfl, Kq6, (by decide : 4 + 0 ≤ _), (by decide : 16 + 0 ≤ _)⟩)
  dsimp only [Pt.U, Pt.locs, Pt.cells, Pt.slots] at X7 l7 y7 z7 st7 hQ7
  rw [l7, y7, z7] at X7
  obtain ⟨rfl, Nq7, Kq7⟩ := hQ7
  have N7 := Fr.app N6 Nq7
  obtain ⟨fs, hr, hrun, hended, hEnd⟩ := X7.leaveW hS0 (by first | omega | (rw [(Kq7 : T7.heap = h2)]; omega)) (v := some (.int 1)) (fun h => by rw [Bd.returns] at h; cases h)
  refine ⟨_, _, castTop (ef_17 m p0 p1 p2 p3) ?_, hrun, hended, _, _, rfl, ?_, hEnd.1, hEnd.2.1, hEnd.2.2.1, hEnd.2.2.2.mono (by decide) (by decide)⟩
  · show Steps _ _ _ (s₁.setTop (mkF m 0 #[vI p0, vI p1, vI p2, vI p3, .unset, .unset, .unset, .unset, .unset, .unset] [])) _
    refine st1 _ ?_
    show Steps _ _ _ (T1.setTop (mkF m 23 #[vI p0, vI p1, vI p2, vI p3, .val (.int (p0 &&& (3 : Int32))), .val (.int (oP p1)), .val (.int (oP p2)), .val (.int (oP p3)), .unset, .unset] [])) _
    refine XS.iload X1.here hx rfl (hb hby at_23) rfl ?_
    refine XS.ifYes X1.here hx rfl (pc0 := 25) (pc' := 46) rfl (hb hby at_25) rfl ((if0 _ _).trans (feq (kq0 : ¬ ((p0 &&& (3 : Int32)) = (0 : Int32)))).2) (by decide) (by decide) ?_
    refine XS.iload X1.here hx rfl (hb hby at_46) rfl ?_
    refine XS.iconst X1.here hx rfl (hb hby at_48) ?_
    refine XS.icmpYes X1.here hx rfl (pc0 := 49) (pc' := 79) rfl (hb hby at_49) rfl (feq (kq1 : ¬ ((p0 &&& (3 : Int32)) = (1 : Int32)))).2 (by decide) (by decide) ?_
    refine XS.iload X1.here hx rfl (hb hby at_79) rfl ?_
    refine XS.iconst X1.here hx rfl (hb hby at_81) ?_
    refine XS.icmpYes X1.here hx rfl (pc0 := 82) (pc' := 133) rfl (hb hby at_82) rfl (feq (kq2 : ¬ ((p0 &&& (3 : Int32)) = (2 : Int32)))).2 (by decide) (by decide) ?_
    refine st2 _ ?_
    show Steps _ _ _ (T2.setTop (mkF m 160 #[vI p0, vI p1, vI p2, vI p3, .val (.int (p0 &&& (3 : Int32))), .val (.int (oP p1)), .val (.int (oP p2)), .val (.int (oP p3)), vA x2_a_, .unset] [])) _
    refine XS.iload X2.here hx rfl (hb hby at_160) rfl ?_
    refine st4 _ ?_
    show Steps _ _ _ (T4.setTop (mkF m 165 #[vI p0, vI p1, vI p2, vI p3, .val (.int (p0 &&& (3 : Int32))), .val (.int (oP p1)), .val (.int (oP p2)), .val (.int (oP p3)), vA x2_a_, .unset] [(.int 0)])) _
    refine XS.ifNo X4.here hx rfl (hb hby at_165) rfl ((if0 _ _).trans (teq ((by decide) : (0 : Int32) = (0 : Int32))).2) ?_
    refine XS.iload X4.here hx rfl (hb hby at_168) rfl ?_
    refine st5 _ ?_
    show Steps _ _ _ (T5.setTop (mkF m 173 #[vI p0, vI p1, vI p2, vI p3, .val (.int (p0 &&& (3 : Int32))), .val (.int (oP p1)), .val (.int (oP p2)), .val (.int (oP p3)), vA x2_a_, .unset] [(.int 0)])) _
    refine XS.ifNo X5.here hx rfl (hb hby at_173) rfl ((if0 _ _).trans (teq ((by decide) : (0 : Int32) = (0 : Int32))).2) ?_
    refine XS.iload X5.here hx rfl (hb hby at_176) rfl ?_
    refine st6 _ ?_
    show Steps _ _ _ (T6.setTop (mkF m 181 #[vI p0, vI p1, vI p2, vI p3, .val (.int (p0 &&& (3 : Int32))), .val (.int (oP p1)), .val (.int (oP p2)), .val (.int (oP p3)), vA x2_a_, .unset] [(.int 1)])) _
    refine XS.ifNo X6.here hx rfl (hb hby at_181) rfl ((if0 _ _).trans (feq ((by decide) : ¬ ((1 : Int32) = (0 : Int32)))).1) ?_
    refine XS.iconst X6.here hx rfl (hb hby at_184) ?_
    refine XS.goto X6.here hx rfl (pc0 := 185) (pc' := 189) rfl (hb hby at_185) (by decide) (by decide) ?_
    refine XS.istore X6.here hx rfl (hb hby at_189) rfl (l' := #[vI p0, vI p1, vI p2, vI p3, .val (.int (p0 &&& (3 : Int32))), .val (.int (oP p1)), .val (.int (oP p2)), .val (.int (oP p3)), vA x2_a_, vI 1]) rfl ?_
    refine XS.aload X6.here hx rfl (hb hby at_191) rfl rfl ?_
    refine st7 _ ?_
    show Steps _ _ _ (T7.setTop (mkF m 196 #[vI p0, vI p1, vI p2, vI p3, .val (.int (p0 &&& (3 : Int32))), .val (.int (oP p1)), .val (.int (oP p2)), .val (.int (oP p3)), vA x2_a_, vI 1] [(.int 1)])) _
    refine XS.iload X7.here hx rfl (hb hby at_196) rfl ?_
    refine XS.icmpNo X7.here hx rfl (hb hby at_198) rfl (teq ((by decide) : (1 : Int32) = (1 : Int32))).2 ?_
    refine XS.iconst X7.here hx rfl (hb hby at_201) ?_
    refine XS.goto X7.here hx rfl (pc0 := 202) (pc' := 206) rfl (hb hby at_202) (by decide) (by decide) ?_
    exact retN X7 hx (t := .boolean) Bd.returns (by simp) (hb hby at_206) hr
  · show Q_law Z p0 p1 p2 p3 cs sf h0 n0 _ T7.heap _
    rw [(Kq7 : T7.heap = h2)]
    exact ⟨rfl, N7⟩
theorem rm_law_3_3 (l : Launch) (Z : State) (a0 : Array Value) (hw : HW Z a0) (ws : List Jvm.Cond) (p0 : Int32) (p1 : Int32) (p2 : Int32) (p3 : Int32) (cs : Int32) (sf : Value) (h0 : Heap) (n0 : Nat) (Z0 : n0 ≤ h0.size) (P0 : Old Z n0 h0) (P1 : sta0 Z (.int cs)) (P2 : sta1 Z (.int 1)) (P3 : sta2 Z (.int 0)) (P4 : sta3 Z (.int 8)) (P5 : sta4 Z sf) (hcs : ¬ (cs = (0 : Int32))) (hsf : sf.isRef = true) (kq0 : ¬ ((p0 &&& (3 : Int32)) = (0 : Int32))) (kq1 : ¬ ((p0 &&& (3 : Int32)) = (1 : Int32))) (kq2 : ¬ ((p0 &&& (3 : Int32)) = (2 : Int32))) (u0 : ¬ ((oP p1) = (10 : Int32))) (v0 : ¬ ((oP p1) = (13 : Int32))) (u1 : ¬ ((oP p2) = (10 : Int32))) (v1 : ¬ ((oP p2) = (13 : Int32))) (u2 : ¬ ((oP p3) = (10 : Int32))) (v2 : ¬ ((oP p3) = (13 : Int32))) :
    MetFree l x (head1 (Jvm.Cond.code x code maxLocals ret :: ws) room_1) (fun as' U => as' = #[(.int p0), (.int p1), (.int p2), (.int p3)] ∧ Z.Warmed39 U.vm ∧ U.heap = h0 ∧ CHv Z own_EL U.vm h0) (fun _ _ _ _ _ => True) (fun _ U o U' => ∃ v L, o = .returned v ∧ Q_law Z p0 p1 p2 p3 cs sf h0 n0 v U'.heap L ∧ ReturnedEndW U o U' L room_1.cells room_1.slots) := by
  refine MetFree.of_bodySF (plainFor_of_name pn_3) hisR ?_
  intro p e s m args below meth c s₁ Bd hml0 hP hK
  obtain ⟨rfl, hZ, hh, hCH⟩ := hP
  have hx := Bd.exec
  have hby := Bd.bytes
  have hml : c.maxLocals = 10 := hml0
  have hown : (s.setVm s.vm).vm.findClass "com/example/branchward/branchward/IdsHoldsLineBreakPinLaw" = some m.cls := findClass_of_methodNamed Bd.named
  have hnm := (name_of_methodNamed Bd.named Bd.method).1
  have X0 : Stand p l e room_1 (s.setVm s.vm) m #[(.int p0), (.int p1), (.int p2), (.int p3)] below meth c s₁ [] 0 0 := Stand.of_body Bd
  have e0 : s₁.heap = h0 := by rw [← hh, Bd.state]; rfl
  have N0 := Fr.nil n0
  have hZ : Z.Warmed39 (s.setVm s.vm).vm := hZ
  have hS0 : s.Since s.vm h0.size := (State.WarmedH.refl s).since _
  have hk0 : h0.size ≤ h0.size := Nat.le_refl _
  have C0 : CHr Z own_EL s.vm h0 s.vm h0 := CHr.refl hCH
  obtain ⟨T1, h1, L1, X1, e1, N1, Kq1, r1_0, st1⟩ := pz_pre X0 hx hw hZ hown hby hml p0 p1 p2 p3 e0 N0 (by omega) P0 (by decide) (by decide) (by decide) (by decide)
  have z1' := Kq1.1
  obtain ⟨T2, h2, L2, x2_a_, X2, e2, N2, Kq2, r2_0, r2_1, r2_2, st2⟩ := pz_mk3 X1 hx hw hZ hown hby hml p0 p1 p2 p3 ((oP p1)) ((oP p2)) ((oP p3)) cs e1 N1 (by omega) r1_0 P1 P2 P3 P4 hcs (own_oP p1) (own_oP p2) (own_oP p3) (by decide) (by decide) (by decide) (by decide)
  have z2' := Kq2.1
  have lt3 := own_l r2_0.lt
  obtain ⟨_, _, ⟨T4, L4, k4, n4⟩, -, X4, ⟨Lc4, hQ4, l4, y4, z4⟩, st4⟩ := Jvm.LawKit.callS X2 hx (y := m_4) hown (mvT hZ (w_80 hw)) (mvT hZ (w_81 hw)) (mvT hZ (w_2 hw)) (mvT hZ (w_82 hw)) (by decide) (backOf (W := 0) (rm_br0 l Z a0 hw [] ((oP p1)) h2 n0 (by omega) u0 v0) hZ (w_82 hw) (w_2 hw) (by decide) (by decide)) (g := (mkF m 162 #[vI p0, vI p1, vI p2, vI p3, .val (.int (p0 &&& (3 : Int32))), .val (.int (oP p1)), .val (.int (oP p2)), .val (.int (oP p3)), vA x2_a_, .unset] [(.int (oP p1))])) rfl (by rw [hml]; rfl) (argsL := [(.int (oP p1))]) (rest := []) (lenOf pd_20 rfl) rfl (Nat.le_of_eq rfl) (hb hby at_162) (fun _ _ => ⟨rfl, e2, (by decide : 4 + 0 ≤ _), (by decide : 16 + 0 ≤ _)⟩)
  dsimp only [Pt.U, Pt.locs, Pt.cells, Pt.slots] at X4 l4 y4 z4 st4 hQ4
  rw [l4, y4, z4] at X4
  obtain ⟨rfl, Nq4, Kq4⟩ := hQ4
  have N4 := Fr.app N2 Nq4
  obtain ⟨_, _, ⟨T5, L5, k5, n5⟩, -, X5, ⟨Lc5, hQ5, l5, y5, z5⟩, st5⟩ := Jvm.LawKit.callS X4 hx (y := m_4) hown (mvT hZ (w_80 hw)) (mvT hZ (w_81 hw)) (mvT hZ (w_2 hw)) (mvT hZ (w_82 hw)) (by decide) (backOf (W := 0) (rm_br0 l Z a0 hw [] ((oP p2)) h2 n0 (by omega) u1 v1) hZ (w_82 hw) (w_2 hw) (by decide) (by decide)) (g := (mkF m 170 #[vI p0, vI p1, vI p2, vI p3, .val (.int (p0 &&& (3 : Int32))), .val (.int (oP p1)), .val (.int (oP p2)), .val (.int (oP p3)), vA x2_a_, .unset] [(.int (oP p2))])) rfl (by rw [hml]; rfl) (argsL := [(.int (oP p2))]) (rest := []) (lenOf pd_20 rfl) rfl (Nat.le_of_eq rfl) (hb hby at_170) (fun _ _ => ⟨rfl, Kq4, (by decide : 4 + 0 ≤ _), (by decide : 16 + 0 ≤ _)⟩)
  dsimp only [Pt.U, Pt.locs, Pt.cells, Pt.slots] at X5 l5 y5 z5 st5 hQ5
  rw [l5, y5, z5] at X5
  obtain ⟨rfl, Nq5, Kq5⟩ := hQ5
  have N5 := Fr.app N4 Nq5
  obtain ⟨_, _, ⟨T6, L6, k6, n6⟩, -, X6, ⟨Lc6, hQ6, l6, y6, z6⟩, st6⟩ := Jvm.LawKit.callS X5 hx (y := m_4) hown (mvT hZ (w_80 hw)) (mvT hZ (w_81 hw)) (mvT hZ (w_2 hw)) (mvT hZ (w_82 hw)) (by decide) (backOf (W := 0) (rm_br0 l Z a0 hw [] ((oP p3)) h2 n0 (by omega) u2 v2) hZ (w_82 hw) (w_2 hw) (by decide) (by decide)) (g := (mkF m 178 #[vI p0, vI p1, vI p2, vI p3, .val (.int (p0 &&& (3 : Int32))), .val (.int (oP p1)), .val (.int (oP p2)), .val (.int (oP p3)), vA x2_a_, .unset] [(.int (oP p3))])) rfl (by rw [hml]; rfl) (argsL := [(.int (oP p3))]) (rest := []) (lenOf pd_20 rfl) rfl (Nat.le_of_eq rfl) (hb hby at_178) (fun _ _ => ⟨rfl, Kq5, (by decide : 4 + 0 ≤ _), (by decide : 16 + 0 ≤ _)⟩)
  dsimp only [Pt.U, Pt.locs, Pt.cells, Pt.slots] at X6 l6 y6 z6 st6 hQ6
  rw [l6, y6, z6] at X6
  obtain ⟨rfl, Nq6, Kq6⟩ := hQ6
  have N6 := Fr.app N5 Nq6
  obtain ⟨_, _, ⟨T7, L7, k7, n7⟩, -, X7, ⟨Lc7, hQ7, l7, y7, z7⟩, st7⟩ := Jvm.LawKit.callS X6 hx (y := m_30) hown (mvT hZ (w_26 hw)) (mvT hZ (w_27 hw)) (mvT hZ (w_28 hw)) (mvT hZ (w_29 hw)) (by decide) (backOf (W := 0) (rm_hbC3 l Z a0 hw [] x2_a_ cs sf ((oP p1)) ((oP p2)) ((oP p3)) h2 n0 (by omega) r2_2 P1 r2_0 P2 P3 P4 P5 r2_1 hcs hsf (own_oP p1) (own_oP p2) (own_oP p3) ⟨u0, u1, u2⟩ ⟨v0, v1, v2⟩) hZ (w_29 hw) (w_28 hw) (by decide) (by decide)) (g := (mkF m 193 #[vI p0, vI p1, vI p2, vI p3, .val (.int (p0 &&& (3 : Int32))), .val (.int (oP p1)), .val (.int (oP p2)), .val (.int (oP p3)), vA x2_a_, vI 0] [(.ref x2_a_)])) rfl (by rw [hml]; rfl) (argsL := [(.ref x2_a_)]) (rest := []) (lenOf pd_21 rfl) rfl (Nat.le_of_eq rfl) (hb hby at_193) (fun _ _ => ⟨rfl, Kq6, (by decide : 4 + 0 ≤ _), (by decide : 16 + 0 ≤ _)⟩)
  dsimp only [Pt.U, Pt.locs, Pt.cells, Pt.slots] at X7 l7 y7 z7 st7 hQ7
  rw [l7, y7, z7] at X7
  obtain ⟨rfl, Nq7, Kq7⟩ := hQ7
  have N7 := Fr.app N6 Nq7
  obtain ⟨fs, hr, hrun, hended, hEnd⟩ := X7.leaveW hS0 (by first | omega | (rw [(Kq7 : T7.heap = h2)]; omega)) (v := some (.int 1)) (fun h => by rw [Bd.returns] at h; cases h)
  refine ⟨_, _, castTop (ef_17 m p0 p1 p2 p3) ?_, hrun, hended, _, _, rfl, ?_, hEnd.1, hEnd.2.1, hEnd.2.2.1, hEnd.2.2.2.mono (by decide) (by decide)⟩
  · show Steps _ _ _ (s₁.setTop (mkF m 0 #[vI p0, vI p1, vI p2, vI p3, .unset, .unset, .unset, .unset, .unset, .unset] [])) _
    refine st1 _ ?_
    show Steps _ _ _ (T1.setTop (mkF m 23 #[vI p0, vI p1, vI p2, vI p3, .val (.int (p0 &&& (3 : Int32))), .val (.int (oP p1)), .val (.int (oP p2)), .val (.int (oP p3)), .unset, .unset] [])) _
    refine XS.iload X1.here hx rfl (hb hby at_23) rfl ?_
    refine XS.ifYes X1.here hx rfl (pc0 := 25) (pc' := 46) rfl (hb hby at_25) rfl ((if0 _ _).trans (feq (kq0 : ¬ ((p0 &&& (3 : Int32)) = (0 : Int32)))).2) (by decide) (by decide) ?_
    refine XS.iload X1.here hx rfl (hb hby at_46) rfl ?_
    refine XS.iconst X1.here hx rfl (hb hby at_48) ?_
    refine XS.icmpYes X1.here hx rfl (pc0 := 49) (pc' := 79) rfl (hb hby at_49) rfl (feq (kq1 : ¬ ((p0 &&& (3 : Int32)) = (1 : Int32)))).2 (by decide) (by decide) ?_
    refine XS.iload X1.here hx rfl (hb hby at_79) rfl ?_
    refine XS.iconst X1.here hx rfl (hb hby at_81) ?_
    refine XS.icmpYes X1.here hx rfl (pc0 := 82) (pc' := 133) rfl (hb hby at_82) rfl (feq (kq2 : ¬ ((p0 &&& (3 : Int32)) = (2 : Int32)))).2 (by decide) (by decide) ?_
    refine st2 _ ?_
    show Steps _ _ _ (T2.setTop (mkF m 160 #[vI p0, vI p1, vI p2, vI p3, .val (.int (p0 &&& (3 : Int32))), .val (.int (oP p1)), .val (.int (oP p2)), .val (.int (oP p3)), vA x2_a_, .unset] [])) _
    refine XS.iload X2.here hx rfl (hb hby at_160) rfl ?_
    refine st4 _ ?_
    show Steps _ _ _ (T4.setTop (mkF m 165 #[vI p0, vI p1, vI p2, vI p3, .val (.int (p0 &&& (3 : Int32))), .val (.int (oP p1)), .val (.int (oP p2)), .val (.int (oP p3)), vA x2_a_, .unset] [(.int 0)])) _
    refine XS.ifNo X4.here hx rfl (hb hby at_165) rfl ((if0 _ _).trans (teq ((by decide) : (0 : Int32) = (0 : Int32))).2) ?_
    refine XS.iload X4.here hx rfl (hb hby at_168) rfl ?_
    refine st5 _ ?_
    show Steps _ _ _ (T5.setTop (mkF m 173 #[vI p0, vI p1, vI p2, vI p3, .val (.int (p0 &&& (3 : Int32))), .val (.int (oP p1)), .val (.int (oP p2)), .val (.int (oP p3)), vA x2_a_, .unset] [(.int 0)])) _
    refine XS.ifNo X5.here hx rfl (hb hby at_173) rfl ((if0 _ _).trans (teq ((by decide) : (0 : Int32) = (0 : Int32))).2) ?_
    refine XS.iload X5.here hx rfl (hb hby at_176) rfl ?_
    refine st6 _ ?_
    show Steps _ _ _ (T6.setTop (mkF m 181 #[vI p0, vI p1, vI p2, vI p3, .val (.int (p0 &&& (3 : Int32))), .val (.int (oP p1)), .val (.int (oP p2)), .val (.int (oP p3)), vA x2_a_, .unset] [(.int 0)])) _
    refine XS.ifYes X6.here hx rfl (pc0 := 181) (pc' := 188) rfl (hb hby at_181) rfl ((if0 _ _).trans (teq ((by decide) : (0 : Int32) = (0 : Int32))).1) (by decide) (by decide) ?_
    refine XS.iconst X6.here hx rfl (hb hby at_188) ?_
    refine XS.istore X6.here hx rfl (hb hby at_189) rfl (l' := #[vI p0, vI p1, vI p2, vI p3, .val (.int (p0 &&& (3 : Int32))), .val (.int (oP p1)), .val (.int (oP p2)), .val (.int (oP p3)), vA x2_a_, vI 0]) rfl ?_
    refine XS.aload X6.here hx rfl (hb hby at_191) rfl rfl ?_
    refine st7 _ ?_
    show Steps _ _ _ (T7.setTop (mkF m 196 #[vI p0, vI p1, vI p2, vI p3, .val (.int (p0 &&& (3 : Int32))), .val (.int (oP p1)), .val (.int (oP p2)), .val (.int (oP p3)), vA x2_a_, vI 0] [(.int 0)])) _
    refine XS.iload X7.here hx rfl (hb hby at_196) rfl ?_
    refine XS.icmpNo X7.here hx rfl (hb hby at_198) rfl (teq ((by decide) : (0 : Int32) = (0 : Int32))).2 ?_
    refine XS.iconst X7.here hx rfl (hb hby at_201) ?_
    refine XS.goto X7.here hx rfl (pc0 := 202) (pc' := 206) rfl (hb hby at_202) (by decide) (by decide) ?_
    exact retN X7 hx (t := .boolean) Bd.returns (by simp) (hb hby at_206) hr
  · show Q_law Z p0 p1 p2 p3 cs sf h0 n0 _ T7.heap _
    rw [(Kq7 : T7.heap = h2)]
    exact ⟨rfl, N7⟩
theorem rm_law_0 (l : Launch) (Z : State) (a0 : Array Value) (hw : HW Z a0) (ws : List Jvm.Cond) (p0 : Int32) (p1 : Int32) (p2 : Int32) (p3 : Int32) (cs : Int32) (sf : Value) (h0 : Heap) (n0 : Nat) (Z0 : n0 ≤ h0.size) (P0 : Old Z n0 h0) (P1 : sta0 Z (.int cs)) (P2 : sta1 Z (.int 1)) (P3 : sta2 Z (.int 0)) (P4 : sta3 Z (.int 8)) (P5 : sta4 Z sf) (hcs : ¬ (cs = (0 : Int32))) (hsf : sf.isRef = true) (n0' : (p0 &&& (3 : Int32)) = (0 : Int32)) :
    MetFree l x (head1 (Jvm.Cond.code x code maxLocals ret :: ws) room_1) (fun as' U => as' = #[(.int p0), (.int p1), (.int p2), (.int p3)] ∧ Z.Warmed39 U.vm ∧ U.heap = h0 ∧ CHv Z own_EL U.vm h0) (fun _ _ _ _ _ => True) (fun _ U o U' => ∃ v L, o = .returned v ∧ Q_law Z p0 p1 p2 p3 cs sf h0 n0 v U'.heap L ∧ ReturnedEndW U o U' L room_1.cells room_1.slots) := by
  refine MetFree.of_bodySF (plainFor_of_name pn_3) hisR ?_
  intro p e s m args below meth c s₁ Bd hml0 hP hK
  obtain ⟨rfl, hZ, hh, hCH⟩ := hP
  have hx := Bd.exec
  have hby := Bd.bytes
  have hml : c.maxLocals = 10 := hml0
  have hown : (s.setVm s.vm).vm.findClass "com/example/branchward/branchward/IdsHoldsLineBreakPinLaw" = some m.cls := findClass_of_methodNamed Bd.named
  have hnm := (name_of_methodNamed Bd.named Bd.method).1
  have X0 : Stand p l e room_1 (s.setVm s.vm) m #[(.int p0), (.int p1), (.int p2), (.int p3)] below meth c s₁ [] 0 0 := Stand.of_body Bd
  have e0 : s₁.heap = h0 := by rw [← hh, Bd.state]; rfl
  have N0 := Fr.nil n0
  have hZ : Z.Warmed39 (s.setVm s.vm).vm := hZ
  have hS0 : s.Since s.vm h0.size := (State.WarmedH.refl s).since _
  have hk0 : h0.size ≤ h0.size := Nat.le_refl _
  have C0 : CHr Z own_EL s.vm h0 s.vm h0 := CHr.refl hCH
  obtain ⟨_, _, ⟨T1, L1, k1, n1⟩, -, X1, ⟨Lc1, hQ1, l1, y1, z1⟩, st1⟩ := Jvm.LawKit.callS X0 hx (y := m_3) hown (mvT hZ (w_0 hw)) (mvT hZ (w_1 hw)) (mvT hZ (w_2 hw)) (mvT hZ (w_3 hw)) (by decide) (backOf (W := 0) (rm_pick l Z a0 hw [] p1 h0 n0 (by omega) ) hZ (w_3 hw) (w_2 hw) (by decide) (by decide)) (g := (mkF m 6 #[vI p0, vI p1, vI p2, vI p3, .val (.int (p0 &&& (3 : Int32))), .unset, .unset, .unset, .unset, .unset] [(.int p1)])) rfl (by rw [hml]; rfl) (argsL := [(.int p1)]) (rest := []) (lenOf pd_18 rfl) rfl (Nat.le_of_eq rfl) (hb hby at_6) (fun _ _ => ⟨rfl, e0, (by decide : 0 + 0 ≤ _), (by decide : 0 + 0 ≤ _)⟩)
  dsimp only [Pt.U, Pt.locs, Pt.cells, Pt.slots] at X1 l1 y1 z1 st1 hQ1
  rw [l1, y1, z1] at X1
  obtain ⟨rfl, Nq1, Kq1⟩ := hQ1
  have N1 := Fr.app N0 Nq1
  obtain ⟨_, _, ⟨T2, L2, k2, n2⟩, -, X2, ⟨Lc2, hQ2, l2, y2, z2⟩, st2⟩ := Jvm.LawKit.callS X1 hx (y := m_3) hown (mvT hZ (w_0 hw)) (mvT hZ (w_1 hw)) (mvT hZ (w_2 hw)) (mvT hZ (w_3 hw)) (by decide) (backOf (W := 0) (rm_pick l Z a0 hw [] p2 h0 n0 (by omega) ) hZ (w_3 hw) (w_2 hw) (by decide) (by decide)) (g := (mkF m 12 #[vI p0, vI p1, vI p2, vI p3, .val (.int (p0 &&& (3 : Int32))), .val (.int (oP p1)), .unset, .unset, .unset, .unset] [(.int p2)])) rfl (by rw [hml]; rfl) (argsL := [(.int p2)]) (rest := []) (lenOf pd_18 rfl) rfl (Nat.le_of_eq rfl) (hb hby at_12) (fun _ _ => ⟨rfl, Kq1, (by decide : 0 + 0 ≤ _), (by decide : 0 + 0 ≤ _)⟩)
  dsimp only [Pt.U, Pt.locs, Pt.cells, Pt.slots] at X2 l2 y2 z2 st2 hQ2
  rw [l2, y2, z2] at X2
  obtain ⟨rfl, Nq2, Kq2⟩ := hQ2
  have N2 := Fr.app N1 Nq2
  obtain ⟨_, _, ⟨T3, L3, k3, n3⟩, -, X3, ⟨Lc3, hQ3, l3, y3, z3⟩, st3⟩ := Jvm.LawKit.callS X2 hx (y := m_3) hown (mvT hZ (w_0 hw)) (mvT hZ (w_1 hw)) (mvT hZ (w_2 hw)) (mvT hZ (w_3 hw)) (by decide) (backOf (W := 0) (rm_pick l Z a0 hw [] p3 h0 n0 (by omega) ) hZ (w_3 hw) (w_2 hw) (by decide) (by decide)) (g := (mkF m 18 #[vI p0, vI p1, vI p2, vI p3, .val (.int (p0 &&& (3 : Int32))), .val (.int (oP p1)), .val (.int (oP p2)), .unset, .unset, .unset] [(.int p3)])) rfl (by rw [hml]; rfl) (argsL := [(.int p3)]) (rest := []) (lenOf pd_18 rfl) rfl (Nat.le_of_eq rfl) (hb hby at_18) (fun _ _ => ⟨rfl, Kq2, (by decide : 0 + 0 ≤ _), (by decide : 0 + 0 ≤ _)⟩)
  dsimp only [Pt.U, Pt.locs, Pt.cells, Pt.slots] at X3 l3 y3 z3 st3 hQ3
  rw [l3, y3, z3] at X3
  obtain ⟨rfl, Nq3, Kq3⟩ := hQ3
  have N3 := Fr.app N2 Nq3
  obtain ⟨T4, h4, X4, e4, E4, A4, D4, -, st4⟩ := newO X3 hx hZ hown (w_4 hw) (w_5 hw) (w_6 hw) Kq3 (g := (mkF m 28 #[vI p0, vI p1, vI p2, vI p3, .val (.int (p0 &&& (3 : Int32))), .val (.int (oP p1)), .val (.int (oP p2)), .val (.int (oP p3)), .unset, .unset] [])) rfl (hb hby at_28) (by decide) (by decide)
  obtain ⟨b4, g4⟩ : ∃ z, z = h0.size := ⟨_, rfl⟩
  rw [← g4] at A4 D4 st4
  have z4 := E4.1
  have C4 := C0.trans (CHr.ext E4 C0.1)
  have lt5 := own_l A4.lt
  have sf4 := Safe.ext E4 C0.1 (Safe.new (Nat.le_of_eq g4.symm))
  have F4_20 : Fld Z h4 b4 "java/lang/String" "value" "[B" .null := D4 (Or.inr (w_20 hw)) (ty := (.array .byte)) (by decide)
  have F4_21 : Fld Z h4 b4 "java/lang/String" "coder" "B" (.int 0) := D4 (Or.inr (w_21 hw)) (ty := .byte) (by decide)
  obtain ⟨T6, h6, k6, X6, e6, E6, A6, st6⟩ := newP X4 hx hZ (aty := .char) (w_7 hw) e4 (g := (mkF m 33 #[vI p0, vI p1, vI p2, vI p3, .val (.int (p0 &&& (3 : Int32))), .val (.int (oP p1)), .val (.int (oP p2)), .val (.int (oP p3)), .unset, .unset] [(.int 0), (.ref b4), (.ref b4)])) rfl (hb hby at_33) rfl (by decide) (cap := 0) (by decide) (by decide) (by decide) (by decide)
  obtain ⟨b6, g6⟩ : ∃ z, z = h4.size := ⟨_, rfl⟩
  rw [← g6] at A6 st6
  have z6 := E6.1
  have C6 := C4.trans (CHr.ext E6 C4.1)
  have V6 : Arv Z h6 b6 k6 .char (0 : Int32) [] (.int 0) := (Arv.new A6 (by decide)).pad (pad_rep [] (.int 0) 0)
  have lt7 := own_l V6.lt
  have f9 := A4.ext E6
  have f10 := F4_20.ext E6
  have f11 := F4_21.ext E6
  obtain ⟨_, _, ⟨T8, L8, k8, n8⟩, -, X8, hSb8, hgr8, ⟨Lc8, hQ8, l8, y8, z8, Cs8⟩, st8⟩ := X6.specialBackS hx (y := m_15) rfl hown (mvT hZ (w_8 hw)) (mvT hZ (w_9 hw)) (mvT hZ (w_10 hw)) (by decide) (backOfSH (W := 1) (rm_s3_0 l Z a0 hw [] b4 b6 ((0 : Int32)) k6 ([]) h6 n0 (by omega) f9 f10 f11 (by omega) V6) hZ (w_10 hw) (w_6 hw) (by decide) (by decide) (own_EW hw) C6.1) (g := (mkF m 35 #[vI p0, vI p1, vI p2, vI p3, .val (.int (p0 &&& (3 : Int32))), .val (.int (oP p1)), .val (.int (oP p2)), .val (.int (oP p3)), .unset, .unset] [(.ref b6), (.ref b4), (.ref b4)])) rfl (by rw [hml]; rfl) (Steps.refl _) (a := b4) (argsL := [(.ref b6)]) (rest := [(.ref b4)]) (lenOf pd_19 rfl) rfl (Nat.le_of_eq rfl) (hb hby at_35) (fun _ _ => ⟨rfl, e6, (by decide : 2 + 4 ≤ _), (by decide : 4 + 8 ≤ _)⟩)
  dsimp only [Pt.U, Pt.locs, Pt.cells, Pt.slots] at X8 l8 y8 z8 st8 hQ8 hSb8 hgr8 Cs8
  rw [l8, y8, z8] at X8
  rw [e6] at hgr8
  obtain ⟨X8, hS8, hZ8, hown8⟩ := rebS hS0 (by omega) X8 hSb8 hgr8 hZ hown
  have hk8 : T8.heap.size ≤ T8.heap.size := Nat.le_refl _
  obtain ⟨x8_b, x8_k, rfl, Nq8, Kq8, r8_0, r8_1, r8_2, r8_3⟩ := hQ8
  have N8 := Fr.app N3 Nq8
  have C8 := C6.trans Cs8
  have z8' := Kq8.1
  have lt12 := own_l r8_0.lt
  have lt13 := own_l r8_1.lt
  have lt14 := own_l r8_2.lt
  have lt15 := own_l r8_3.lt
  have f17 := P0.ext E4
  have f18 := f17.ext E6
  have f19 := f18.keep Kq8 (allS (by omega) all0)
  obtain ⟨_, _, ⟨T16, L16, k16, n16⟩, -, X16, ⟨Lc16, hQ16, l16, y16, z16⟩, st16⟩ := Jvm.LawKit.callS X8 hx (y := m_30) hown8 (mvT hZ8 (w_26 hw)) (mvT hZ8 (w_27 hw)) (mvT hZ8 (w_28 hw)) (mvT hZ8 (w_29 hw)) (by decide) (backOf (W := 0) (rm_hb0 l Z a0 hw [] b4 x8_b x8_k ([]) ((.int 0)) cs T8.heap n0 (by omega) f19 P1 r8_0 r8_2 r8_1 r8_3 hcs) hZ8 (w_29 hw) (w_28 hw) (by decide) (by decide)) (g := (mkF m 193 #[vI p0, vI p1, vI p2, vI p3, .val (.int (p0 &&& (3 : Int32))), .val (.int (oP p1)), .val (.int (oP p2)), .val (.int (oP p3)), vA b4, vI 0] [(.ref b4)])) rfl (by rw [hml]; rfl) (argsL := [(.ref b4)]) (rest := []) (lenOf pd_21 rfl) rfl (Nat.le_of_eq rfl) (hb hby at_193) (fun _ _ => ⟨rfl, rfl, (by decide : 6 + 0 ≤ _), (by decide : 12 + 0 ≤ _)⟩)
  dsimp only [Pt.U, Pt.locs, Pt.cells, Pt.slots] at X16 l16 y16 z16 st16 hQ16
  rw [l16, y16, z16] at X16
  obtain ⟨rfl, Nq16, Kq16⟩ := hQ16
  have N16 := Fr.app N8 Nq16
  obtain ⟨fs, hr, hrun, hended, hEnd⟩ := X16.leaveW hS8 (by first | omega | (rw [(Kq16 : T16.heap = T8.heap)]; omega)) (v := some (.int 1)) (fun h => by rw [Bd.returns] at h; cases h)
  refine ⟨_, _, castTop (ef_17 m p0 p1 p2 p3) ?_, hrun, hended, _, _, rfl, ?_, hEnd.1, hEnd.2.1, hEnd.2.2.1, hEnd.2.2.2.mono (by decide) (by decide)⟩
  · show Steps _ _ _ (s₁.setTop (mkF m 0 #[vI p0, vI p1, vI p2, vI p3, .unset, .unset, .unset, .unset, .unset, .unset] [])) _
    refine XS.iloadN X0.here hx rfl (hb hby at_0) rfl ?_
    refine XS.iconst X0.here hx rfl (hb hby at_1) ?_
    refine XS.iand X0.here hx rfl (hb hby at_2) rfl ?_
    refine XS.istore X0.here hx rfl (hb hby at_3) rfl (l' := #[vI p0, vI p1, vI p2, vI p3, .val (.int (p0 &&& (3 : Int32))), .unset, .unset, .unset, .unset, .unset]) rfl ?_
    refine XS.iloadN X0.here hx rfl (hb hby at_5) rfl ?_
    refine st1 _ ?_
    show Steps _ _ _ (T1.setTop (mkF m 9 #[vI p0, vI p1, vI p2, vI p3, .val (.int (p0 &&& (3 : Int32))), .unset, .unset, .unset, .unset, .unset] [(.int (oP p1))])) _
    refine XS.istore X1.here hx rfl (hb hby at_9) rfl (l' := #[vI p0, vI p1, vI p2, vI p3, .val (.int (p0 &&& (3 : Int32))), .val (.int (oP p1)), .unset, .unset, .unset, .unset]) rfl ?_
    refine XS.iloadN X1.here hx rfl (hb hby at_11) rfl ?_
    refine st2 _ ?_
    show Steps _ _ _ (T2.setTop (mkF m 15 #[vI p0, vI p1, vI p2, vI p3, .val (.int (p0 &&& (3 : Int32))), .val (.int (oP p1)), .unset, .unset, .unset, .unset] [(.int (oP p2))])) _
    refine XS.istore X2.here hx rfl (hb hby at_15) rfl (l' := #[vI p0, vI p1, vI p2, vI p3, .val (.int (p0 &&& (3 : Int32))), .val (.int (oP p1)), .val (.int (oP p2)), .unset, .unset, .unset]) rfl ?_
    refine XS.iloadN X2.here hx rfl (hb hby at_17) rfl ?_
    refine st3 _ ?_
    show Steps _ _ _ (T3.setTop (mkF m 21 #[vI p0, vI p1, vI p2, vI p3, .val (.int (p0 &&& (3 : Int32))), .val (.int (oP p1)), .val (.int (oP p2)), .unset, .unset, .unset] [(.int (oP p3))])) _
    refine XS.istore X3.here hx rfl (hb hby at_21) rfl (l' := #[vI p0, vI p1, vI p2, vI p3, .val (.int (p0 &&& (3 : Int32))), .val (.int (oP p1)), .val (.int (oP p2)), .val (.int (oP p3)), .unset, .unset]) rfl ?_
    refine XS.iload X3.here hx rfl (hb hby at_23) rfl ?_
    refine XS.ifNo X3.here hx rfl (hb hby at_25) rfl ((if0 _ _).trans (teq (n0' : (p0 &&& (3 : Int32)) = (0 : Int32))).2) ?_
    refine st4 _ ?_
    show Steps _ _ _ (T4.setTop (mkF m 31 #[vI p0, vI p1, vI p2, vI p3, .val (.int (p0 &&& (3 : Int32))), .val (.int (oP p1)), .val (.int (oP p2)), .val (.int (oP p3)), .unset, .unset] [(.ref b4)])) _
    refine XS.dup X4.here hx rfl (hb hby at_31) rfl rfl ?_
    refine XS.iconst X4.here hx rfl (hb hby at_32) ?_
    refine st6 _ ?_
    show Steps _ _ _ (T6.setTop (mkF m 35 #[vI p0, vI p1, vI p2, vI p3, .val (.int (p0 &&& (3 : Int32))), .val (.int (oP p1)), .val (.int (oP p2)), .val (.int (oP p3)), .unset, .unset] [(.ref b6), (.ref b4), (.ref b4)])) _
    refine st8.trans ?_
    show Steps _ _ _ (T8.setTop (mkF m 38 #[vI p0, vI p1, vI p2, vI p3, .val (.int (p0 &&& (3 : Int32))), .val (.int (oP p1)), .val (.int (oP p2)), .val (.int (oP p3)), .unset, .unset] [(.ref b4)])) _
    refine XS.astore X8.here hx rfl (hb hby at_38) rfl rfl (l' := #[vI p0, vI p1, vI p2, vI p3, .val (.int (p0 &&& (3 : Int32))), .val (.int (oP p1)), .val (.int (oP p2)), .val (.int (oP p3)), vA b4, .unset]) rfl ?_
    refine XS.iconst X8.here hx rfl (hb hby at_40) ?_
    refine XS.istore X8.here hx rfl (hb hby at_41) rfl (l' := #[vI p0, vI p1, vI p2, vI p3, .val (.int (p0 &&& (3 : Int32))), .val (.int (oP p1)), .val (.int (oP p2)), .val (.int (oP p3)), vA b4, vI 0]) rfl ?_
    refine XS.goto X8.here hx rfl (pc0 := 43) (pc' := 191) rfl (hb hby at_43) (by decide) (by decide) ?_
    refine XS.aload X8.here hx rfl (hb hby at_191) rfl rfl ?_
    refine st16 _ ?_
    show Steps _ _ _ (T16.setTop (mkF m 196 #[vI p0, vI p1, vI p2, vI p3, .val (.int (p0 &&& (3 : Int32))), .val (.int (oP p1)), .val (.int (oP p2)), .val (.int (oP p3)), vA b4, vI 0] [(.int 0)])) _
    refine XS.iload X16.here hx rfl (hb hby at_196) rfl ?_
    refine XS.icmpNo X16.here hx rfl (hb hby at_198) rfl (teq ((by decide) : (0 : Int32) = (0 : Int32))).2 ?_
    refine XS.iconst X16.here hx rfl (hb hby at_201) ?_
    refine XS.goto X16.here hx rfl (pc0 := 202) (pc' := 206) rfl (hb hby at_202) (by decide) (by decide) ?_
    exact retN X16 hx (t := .boolean) Bd.returns (by simp) (hb hby at_206) hr
  · show Q_law Z p0 p1 p2 p3 cs sf h0 n0 _ T16.heap _
    rw [(Kq16 : T16.heap = T8.heap)]
    exact ⟨rfl, N16⟩
theorem rm_law (l : Launch) (Z : State) (a0 : Array Value) (hw : HW Z a0) (ws : List Jvm.Cond) (p0 : Int32) (p1 : Int32) (p2 : Int32) (p3 : Int32) (cs : Int32) (sf : Value) (h0 : Heap) (n0 : Nat) (Z0 : n0 ≤ h0.size) (P0 : Old Z n0 h0) (P1 : sta0 Z (.int cs)) (P2 : sta1 Z (.int 1)) (P3 : sta2 Z (.int 0)) (P4 : sta3 Z (.int 8)) (P5 : sta4 Z sf) (hcs : ¬ (cs = (0 : Int32))) (hsf : sf.isRef = true) :
    MetFree l x (head1 (Jvm.Cond.code x code maxLocals ret :: ws) room_1) (fun as' U => as' = #[(.int p0), (.int p1), (.int p2), (.int p3)] ∧ Z.Warmed39 U.vm ∧ U.heap = h0 ∧ CHv Z own_EL U.vm h0) (fun _ _ _ _ _ => True) (fun _ U o U' => ∃ v L, o = .returned v ∧ Q_law Z p0 p1 p2 p3 cs sf h0 n0 v U'.heap L ∧ ReturnedEndW U o U' L room_1.cells room_1.slots) := by
  by_cases kq0 : (p0 &&& (3 : Int32)) = (0 : Int32)
  · exact rm_law_0 l Z a0 hw ws p0 p1 p2 p3 cs sf h0 n0 Z0 P0 P1 P2 P3 P4 P5 hcs hsf kq0
  by_cases kq1 : (p0 &&& (3 : Int32)) = (1 : Int32)
  · by_cases u0 : (oP p1) = (10 : Int32)
    · exact rm_law_1_0 l Z a0 hw ws p0 p1 p2 p3 cs sf h0 n0 Z0 P0 P1 P2 P3 P4 P5 hcs hsf kq0 kq1  (Or.inl u0)
    by_cases v0 : (oP p1) = (13 : Int32)
    · exact rm_law_1_0 l Z a0 hw ws p0 p1 p2 p3 cs sf h0 n0 Z0 P0 P1 P2 P3 P4 P5 hcs hsf kq0 kq1  (Or.inr v0)
    exact rm_law_1_1 l Z a0 hw ws p0 p1 p2 p3 cs sf h0 n0 Z0 P0 P1 P2 P3 P4 P5 hcs hsf kq0 kq1 u0 v0
  by_cases kq2 : (p0 &&& (3 : Int32)) = (2 : Int32)
  · by_cases u0 : (oP p1) = (10 : Int32)
    · exact rm_law_2_0 l Z a0 hw ws p0 p1 p2 p3 cs sf h0 n0 Z0 P0 P1 P2 P3 P4 P5 hcs hsf kq0 kq1 kq2  (Or.inl u0)
    by_cases v0 : (oP p1) = (13 : Int32)
    · exact rm_law_2_0 l Z a0 hw ws p0 p1 p2 p3 cs sf h0 n0 Z0 P0 P1 P2 P3 P4 P5 hcs hsf kq0 kq1 kq2  (Or.inr v0)
    by_cases u1 : (oP p2) = (10 : Int32)
    · exact rm_law_2_1 l Z a0 hw ws p0 p1 p2 p3 cs sf h0 n0 Z0 P0 P1 P2 P3 P4 P5 hcs hsf kq0 kq1 kq2 u0 v0 (Or.inl u1)
    by_cases v1 : (oP p2) = (13 : Int32)
    · exact rm_law_2_1 l Z a0 hw ws p0 p1 p2 p3 cs sf h0 n0 Z0 P0 P1 P2 P3 P4 P5 hcs hsf kq0 kq1 kq2 u0 v0 (Or.inr v1)
    exact rm_law_2_2 l Z a0 hw ws p0 p1 p2 p3 cs sf h0 n0 Z0 P0 P1 P2 P3 P4 P5 hcs hsf kq0 kq1 kq2 u0 v0 u1 v1
  by_cases u0 : (oP p1) = (10 : Int32)
  · exact rm_law_3_0 l Z a0 hw ws p0 p1 p2 p3 cs sf h0 n0 Z0 P0 P1 P2 P3 P4 P5 hcs hsf kq0 kq1 kq2  (Or.inl u0)
  by_cases v0 : (oP p1) = (13 : Int32)
  · exact rm_law_3_0 l Z a0 hw ws p0 p1 p2 p3 cs sf h0 n0 Z0 P0 P1 P2 P3 P4 P5 hcs hsf kq0 kq1 kq2  (Or.inr v0)
  by_cases u1 : (oP p2) = (10 : Int32)
  · exact rm_law_3_1 l Z a0 hw ws p0 p1 p2 p3 cs sf h0 n0 Z0 P0 P1 P2 P3 P4 P5 hcs hsf kq0 kq1 kq2 u0 v0 (Or.inl u1)
  by_cases v1 : (oP p2) = (13 : Int32)
  · exact rm_law_3_1 l Z a0 hw ws p0 p1 p2 p3 cs sf h0 n0 Z0 P0 P1 P2 P3 P4 P5 hcs hsf kq0 kq1 kq2 u0 v0 (Or.inr v1)
  by_cases u2 : (oP p3) = (10 : Int32)
  · exact rm_law_3_2 l Z a0 hw ws p0 p1 p2 p3 cs sf h0 n0 Z0 P0 P1 P2 P3 P4 P5 hcs hsf kq0 kq1 kq2 u0 v0 u1 v1 (Or.inl u2)
  by_cases v2 : (oP p3) = (13 : Int32)
  · exact rm_law_3_2 l Z a0 hw ws p0 p1 p2 p3 cs sf h0 n0 Z0 P0 P1 P2 P3 P4 P5 hcs hsf kq0 kq1 kq2 u0 v0 u1 v1 (Or.inr v2)
  exact rm_law_3_3 l Z a0 hw ws p0 p1 p2 p3 cs sf h0 n0 Z0 P0 P1 P2 P3 P4 P5 hcs hsf kq0 kq1 kq2 u0 v0 u1 v1 u2 v2
set_option maxRecDepth 65536 in
set_option maxHeartbeats 40000000 in
theorem comes_1 {Post : Tables → Env → Array Value → State → Outcome → State → Prop} (hpost : ∀ tb e args s v u, (limb_1_1.after args s (.returned v) u = true ∧ limb_1_2.after args s (.returned v) u = true ∧ True) → ReturnedEndW s (.returned v) u (Jvm.fieldLocs frame_1_writes args s ++ Jvm.arrayLocs frame_1_arrays args s ++ Jvm.staticLocs frame_1_statics s) 24 1152 → Post tb e args s (.returned v) u) :
    ArmFor flags0 classFile x code maxLocals ret World_1 tables_1 room_1 Calls_1 rest_1 Pre_1 Post := by
  intro l hfl _ _ p e ha hc hk s m args below hf hA hF happ hP
  obtain ⟨hcalls, hrest, hpre⟩ := hP
  obtain ⟨-, -, -, hnamed, -, -, -, hat⟩ := (Spec.applies_iff hf).mp happ
  obtain ⟨hg, hn⟩ := and_e (Cond.before_iff.mp (show (Jvm.Cond.and given_1 narrow_1).before args s = true from hpre))
  obtain ⟨hcount, hq0⟩ := and_e hg
  obtain ⟨hk0, hq1⟩ := and_e hq0
  obtain ⟨hk1, hq2⟩ := and_e hq1
  obtain ⟨hk2, hq3⟩ := and_e hq2
  obtain ⟨w0, w1, w2, w3, rfl⟩ : ∃ w0 w1 w2 w3 : Value, args = #[w0, w1, w2, w3] := by
    have hs : args.size = 4 := by simpa [Cond.value, given_1] using hcount
    obtain ⟨L⟩ := args
    match L, hs with
    | [w0, w1, w2, w3], _ => exact ⟨w0, w1, w2, w3, rfl⟩
  have hw := fun d (hd : d ∈ tables_1) => atoms_spec (ws := Jvm.Cond.code x code maxLocals ret :: tables_1) hat d (List.mem_cons_of_mem _ hd)
  obtain ⟨hsets, hown0⟩ := atoms_of _ (rest_1_c_eq ▸ (show rest_1_c.before _ s = true from hrest))
  have hfit : Fit s := fun {y c} hc i hi => by
    obtain ⟨ha, rfl⟩ := Array.getElem?_eq_some_iff.mp hc
    have q := List.all_eq_true.mp ((Array.all_eq_true_iff_forall_mem.mp hF) _ (Array.getElem_mem ha)) i (List.mem_range.mpr hi)
    simpa [Array.getElem?_eq_getElem hi] using q
  obtain ⟨i0, ev0⟩ := is_v hk0
  obtain rfl : w0 = (.int i0) := Option.some.inj ev0
  obtain ⟨i1, ev1⟩ := is_v hk1
  obtain rfl : w1 = (.int i1) := Option.some.inj ev1
  obtain ⟨i2, ev2⟩ := is_v hk2
  obtain rfl : w2 = (.int i2) := Option.some.inj ev2
  obtain ⟨i3, ev3⟩ := is_v hq3
  obtain rfl : w3 = (.int i3) := Option.some.inj ev3
  obtain ⟨cs, e4⟩ := is_v (Cond.before_iff.mp (hsets _ (List.mem_of_getElem? (i := 1) rfl)))
  have S4 : Sta s s.heap "java/lang/String" "COMPACT_STRINGS" "Z" (.int cs) := Sta.start e4 (Or.inl (hsets _ (List.mem_of_getElem? (i := 0) rfl)))
  have c4 : ¬ (cs = (0 : Int32)) := gotF (Cond.eq_ints e4 (Term.int_eval (0))) (not_v (Cond.before_iff.mp (hsets _ (List.mem_of_getElem? (i := 2) rfl))))
  obtain ⟨sf, e5, r5⟩ := isR_v (Cond.before_iff.mp (hsets _ (List.mem_of_getElem? (i := 8) rfl)))
  have S5 : Sta s s.heap "jdk/internal/util/Preconditions" "SIOOBE_FORMATTER" "Ljava/util/function/BiFunction;" sf := Sta.start e5 (Or.inl (hsets _ (List.mem_of_getElem? (i := 7) rfl)))
  have S6 : Sta s s.heap "java/lang/StringUTF16" "$assertionsDisabled" "Z" (.int 1) := Sta.start (eqv_i (Term.int_eval (1)) (Cond.before_iff.mp (hsets _ (List.mem_of_getElem? (i := 12) rfl)))) (Or.inl (hsets _ (List.mem_of_getElem? (i := 11) rfl)))
  have S7 : Sta s s.heap "java/lang/StringUTF16" "HI_BYTE_SHIFT" "I" (.int 0) := Sta.start (eqv_i (Term.int_eval (0)) (Cond.before_iff.mp (hsets _ (List.mem_of_getElem? (i := 15) rfl)))) (Or.inl (hsets _ (List.mem_of_getElem? (i := 14) rfl)))
  have S8 : Sta s s.heap "java/lang/StringUTF16" "LO_BYTE_SHIFT" "I" (.int 8) := Sta.start (eqv_i (Term.int_eval (8)) (Cond.before_iff.mp (hsets _ (List.mem_of_getElem? (i := 18) rfl)))) (Or.inl (hsets _ (List.mem_of_getElem? (i := 17) rfl)))
  have hCH : CHv s own_EL s.vm s.heap := CHv.start (own_EW hw) (fun p hp => hcalls.1 p hp) (hsets _ (List.mem_of_getElem? (i := 2) rfl)) (w_19 hw) (w_5 hw)
  obtain ⟨n, o, h1, h2, h3, _, L, rfl, ⟨rfl, N⟩, hq⟩ := rm_law l s _ hw tables_1 i0 i1 i2 i3 cs sf s.heap s.heap.size (Nat.le_refl _) (Old.start s) S4 S6 S7 S8 S5 c4 r5 p e ha hc hk s m _ below hf ((Spec.applies_iff_loose hf).mp happ).1 ⟨rfl, State.Warmed39.refl s, rfl, hCH⟩ trivial
  refine ⟨n, _, h1, h2, h3, hpost _ _ _ _ _ _ ⟨Cond.after_iff.mpr rfl, Cond.after_iff.mpr (eq_i res_at (Term.int_eval (1)) rfl), trivial⟩ ⟨hq.1, hq.2.1, hq.2.2.1, (hq.2.2.2.sift fun y hy => Or.inr (N y hy)).mono (by decide) (by decide)⟩⟩
theorem main_1_1 : Claimed_1_1 := comes_1 fun _ _ _ _ _ _ h hF => ⟨h.1, hF⟩
theorem main_1_2 : Claimed_1_2 := comes_1 fun _ _ _ _ _ _ h hF => ⟨h.2.1, hF⟩
end Jvm.Pilot.@@N@@
namespace Jvm.Pilot.@@N@@
open Jvm Jvm.ClassFile Sem Op Lib Jvm.Free Jvm.Stand Jvm.Pilot.@@N@@.Jvm.D
/-! MADE BY PROGRAM (witnessworld.py) out of the Statement's table words and the real class files: 21 classes; the members and pool entries that the words name. The judged class is class 1, her method 3. -/
namespace start1
open Jvm.ClassFile
def u (s : String) : CpInfo := .utf8 (stringToUtf16 s)
/-- a pool by its gaps: so many unusable entries, then the entry; so many at the end -/
def gap : Nat → List CpInfo → List CpInfo
  | 0, r => r
  | n + 1, r => .unusable :: gap n r
def poolList (es : List (Nat × CpInfo)) (last : Nat) : List CpInfo := es.foldr (fun e r => gap e.1 (e.2 :: r)) (gap last [])
def pool (es : List (Nat × CpInfo)) (last : Nat) : Array CpInfo := ⟨poolList es last⟩
def fileOf (pool : Array CpInfo) (this : Nat) (attrs : Array Attribute := #[]) (ms : Array MethodInfo := #[]) (fl : Nat := 33) (sup : Nat := 0) (ifs : Array Nat := #[]) (fds : Array FieldInfo := #[]) : ClassFile where
  minorVersion := 0
  majorVersion := 65
  constantPool := pool
  accessFlags := fl
  thisClass := this
  superClass := sup
  interfaces := ifs
  fields := fds
  methods := ms
  attributes := attrs
def plain (name : String) (sup : Option ClassId) : Class where
  name := name
  kind := .ordinary
  loader := none
  accessFlags := 33
  super := sup
  interfaces := #[]
  cf := none
  fields := #[]
  methods := #[]
  instanceTypes := #[]
  staticTypes := #[]
  resolved := #[]
  callSites := []
  init := .initialized
  statics := none
  mirror := none

def pool0 : Array CpInfo := pool [(5, u "<init>"), (0, u "()V"), (1, .class_ 10), (1, u "java/lang/Object")] 113

def k0c0 : Code := { maxStack := 0, maxLocals := 1, code := object_method_1_code, exceptionTable := #[], attributes := #[] }
def k0m0 : Method := { name := "<init>", desc := "()V", sig := { parameters := [], returnType := none }, accessFlags := 1, code := some k0c0 }
/-- java/lang/Object -/
def k0 : Class := { plain "java/lang/Object" none with
  accessFlags := 33
  interfaces := #[]
  cf := some (fileOf pool0 8 #[] #[{ accessFlags := 1, nameIndex := 5, descriptorIndex := 6, attributes := #[] }] 33 0 #[] #[])
  fields := #[]
  methods := #[k0m0]
  instanceTypes := #[]
  staticTypes := #[]
  resolved := Array.replicate 124 none
  statics := none }

def pool1 : Array CpInfo := pool [(2, .class_ 4), (1, u "java/lang/Object"), (0, u "<init>"), (0, u "()V"), (0, .methodref 8 9), (0, .class_ 10), (0, .nameAndType 11 12), (0, u "com/example/branchward/branchward/IdsHoldsLineBreakPinLaw"), (0, u "pick"), (0, u "(I)C"), (0, .class_ 14), (0, u "java/lang/String"), (0, .methodref 13 16), (0, .nameAndType 5 17), (0, u "([C)V"), (0, .methodref 8 19), (0, .nameAndType 20 21), (0, u "br"), (0, u "(C)Z"), (0, .methodref 23 24), (0, .class_ 25), (0, .nameAndType 26 27), (0, u "com/example/branchward/branchward/Ids"), (0, u "holdsLineBreak"), (0, u "(Ljava/lang/String;)Z"), (3, u "law"), (0, u "(IIII)Z")] 2

def k1m0 : Method := { name := "<init>", desc := "()V", sig := { parameters := [], returnType := none }, accessFlags := 1, code := none }
def k1c1 : Code := { maxStack := 2, maxLocals := 2, code := method_2_code, exceptionTable := #[], attributes := #[] }
def k1m1 : Method := { name := "pick", desc := "(I)C", sig := { parameters := [.int], returnType := some .char }, accessFlags := 10, code := some k1c1 }
def k1c2 : Code := { maxStack := 2, maxLocals := 1, code := method_3_code, exceptionTable := #[], attributes := #[] }
def k1m2 : Method := { name := "br", desc := "(C)Z", sig := { parameters := [.char], returnType := some .boolean }, accessFlags := 10, code := some k1c2 }
def k1c3 : Code := { maxStack := 6, maxLocals := 10, code := code, exceptionTable := #[], attributes := #[] }
def k1m3 : Method := { name := "law", desc := "(IIII)Z", sig := { parameters := [.int, .int, .int, .int], returnType := some .boolean }, accessFlags := 9, code := some k1c3 }
/-- com/example/branchward/branchward/IdsHoldsLineBreakPinLaw -/
def k1 : Class := { plain "com/example/branchward/branchward/IdsHoldsLineBreakPinLaw" (some 0) with
  accessFlags := 49
  interfaces := #[]
  cf := some (fileOf pool1 8 #[] #[{ accessFlags := 1, nameIndex := 5, descriptorIndex := 6, attributes := #[] }, { accessFlags := 10, nameIndex := 11, descriptorIndex := 12, attributes := #[] }, { accessFlags := 10, nameIndex := 20, descriptorIndex := 21, attributes := #[] }, { accessFlags := 9, nameIndex := 31, descriptorIndex := 32, attributes := #[] }] 49 2 #[] #[])
  fields := #[]
  methods := #[k1m0, k1m1, k1m2, k1m3]
  instanceTypes := #[]
  staticTypes := #[]
  resolved := Array.replicate 35 none
  statics := none }

def pool2 : Array CpInfo := pool [(1, .class_ 2), (0, u "java/io/Serializable"), (0, .class_ 4), (0, u "java/lang/Object")] 2

/-- java/io/Serializable -/
def k2 : Class := { plain "java/io/Serializable" (some 0) with
  accessFlags := 1537
  interfaces := #[]
  cf := some (fileOf pool2 1 #[] #[] 1537 3 #[] #[])
  fields := #[]
  methods := #[]
  instanceTypes := #[]
  staticTypes := #[]
  resolved := Array.replicate 7 none
  statics := none }

def pool3 : Array CpInfo := pool [(1, .class_ 2), (0, u "java/lang/Comparable"), (0, .class_ 4), (0, u "java/lang/Object")] 7

/-- java/lang/Comparable -/
def k3 : Class := { plain "java/lang/Comparable" (some 0) with
  accessFlags := 1537
  interfaces := #[]
  cf := some (fileOf pool3 1 #[] #[] 1537 3 #[] #[])
  fields := #[]
  methods := #[]
  instanceTypes := #[]
  staticTypes := #[]
  resolved := Array.replicate 12 none
  statics := none }

def pool4 : Array CpInfo := pool [(2, .class_ 4), (1, u "java/lang/CharSequence"), (42, .class_ 48), (0, u "java/lang/CharSequence$1CodePointIterator"), (10, .class_ 60), (0, u "java/lang/CharSequence$1CharIterator"), (5, .class_ 67), (0, u "java/lang/Object")] 63

/-- java/lang/CharSequence -/
def k4 : Class := { plain "java/lang/CharSequence" (some 0) with
  accessFlags := 1537
  interfaces := #[]
  cf := some (fileOf pool4 2 #[.nestMembers #[47, 59]] #[] 1537 66 #[] #[])
  fields := #[]
  methods := #[]
  instanceTypes := #[]
  staticTypes := #[]
  resolved := Array.replicate 131 none
  statics := none }

def pool5 : Array CpInfo := pool [(1, .class_ 2), (0, u "java/lang/constant/Constable"), (0, .class_ 4), (0, u "java/lang/Object")] 6

/-- java/lang/constant/Constable -/
def k5 : Class := { plain "java/lang/constant/Constable" (some 0) with
  accessFlags := 1537
  interfaces := #[]
  cf := some (fileOf pool5 1 #[] #[] 1537 3 #[] #[])
  fields := #[]
  methods := #[]
  instanceTypes := #[]
  staticTypes := #[]
  resolved := Array.replicate 11 none
  statics := none }

def pool6 : Array CpInfo := pool [(1, .class_ 2), (0, u "java/lang/constant/ConstantDesc"), (0, .class_ 4), (0, u "java/lang/Object")] 32

/-- java/lang/constant/ConstantDesc -/
def k6 : Class := { plain "java/lang/constant/ConstantDesc" (some 0) with
  accessFlags := 1537
  interfaces := #[]
  cf := some (fileOf pool6 1 #[] #[] 1537 3 #[] #[])
  fields := #[]
  methods := #[]
  instanceTypes := #[]
  staticTypes := #[]
  resolved := Array.replicate 37 none
  statics := none }

def pool7 : Array CpInfo := pool [(1, .methodref 2 3), (0, .class_ 4), (0, .nameAndType 5 6), (0, u "java/lang/Object"), (0, u "<init>"), (0, u "()V"), (0, .string 8), (0, u ""), (0, .fieldref 10 11), (0, .class_ 12), (0, .nameAndType 13 14), (0, u "java/lang/String"), (0, u "value"), (0, u "[B"), (0, .fieldref 10 16), (0, .nameAndType 17 18), (0, u "coder"), (0, u "B"), (2, u "hash"), (0, u "I"), (2, u "hashIsZero"), (0, u "Z"), (0, .methodref 10 28), (0, .nameAndType 5 29), (0, u "([CIILjava/lang/Void;)V"), (8, .fieldref 10 39), (0, .nameAndType 40 26), (0, u "COMPACT_STRINGS"), (1, .class_ 44), (1, u "java/lang/StringUTF16"), (0, u "compress"), (1, .methodref 42 48), (0, .nameAndType 49 50), (0, u "coderFromArrayLen"), (0, u "([BI)B"), (56, .class_ 109), (1, u "java/lang/StringLatin1"), (32, u "()Z"), (34, .methodref 42 178), (0, .nameAndType 45 179), (0, u "([CII)[B"), (154, u "()I"), (0, .methodref 10 336), (0, .nameAndType 17 337), (0, u "()B"), (154, .methodref 10 493), (0, .nameAndType 494 142), (0, u "isLatin1"), (10, .methodref 10 506), (0, .nameAndType 507 334), (0, u "length"), (5, u "checkFromToIndex"), (9, u "checkBoundsBeginEnd"), (0, u "(III)V"), (50, .class_ 576), (0, u "java/lang/CharSequence"), (22, u "CASE_INSENSITIVE_ORDER"), (0, u "Ljava/util/Comparator;"), (32, .methodref 10 634), (0, .nameAndType 635 636), (0, u "indexOf"), (0, u "(II)I"), (0, .methodref 107 638), (0, .nameAndType 635 639), (0, u "([BIII)I"), (0, .methodref 42 638), (124, u "(I)I"), (244, u "([C)V"), (42, .fieldref 1054 1055), (0, .class_ 1056), (0, .nameAndType 1057 1058), (0, u "jdk/internal/util/Preconditions"), (0, u "SIOOBE_FORMATTER"), (0, u "Ljava/util/function/BiFunction;"), (3, .methodref 1054 1063), (0, .nameAndType 513 1064), (0, u "(IIILjava/util/function/BiFunction;)I"), (36, u "serialPersistentFields"), (0, u "[Ljava/io/ObjectStreamField;"), (0, .class_ 1104), (0, u "java/lang/String$CaseInsensitiveComparator"), (1, .class_ 1107), (0, u "java/io/Serializable"), (0, .class_ 1109), (0, u "java/lang/Comparable"), (0, .class_ 1111), (0, u "java/lang/constant/Constable"), (0, .class_ 1113), (0, u "java/lang/constant/ConstantDesc"), (2, u "serialVersionUID"), (0, u "J"), (3, u "REPL"), (0, u "C"), (2, u "LATIN1"), (1, u "UTF16")] 323

def k7m0 : Method := { name := "<init>", desc := "()V", sig := { parameters := [], returnType := none }, accessFlags := 1, code := none }
def k7c1 : Code := { maxStack := 5, maxLocals := 2, code := jdk_42_method_3_code, exceptionTable := #[], attributes := #[] }
def k7m1 : Method := { name := "<init>", desc := "([C)V", sig := { parameters := [(.array .char)], returnType := none }, accessFlags := 1, code := some k7c1 }
def k7c2 : Code := { maxStack := 2, maxLocals := 1, code := jdk_42_method_54_code, exceptionTable := #[], attributes := #[] }
def k7m2 : Method := { name := "length", desc := "()I", sig := { parameters := [], returnType := some .int }, accessFlags := 1, code := some k7c2 }
def k7c3 : Code := { maxStack := 3, maxLocals := 2, code := jdk_42_method_79_code, exceptionTable := #[], attributes := #[] }
def k7m3 : Method := { name := "indexOf", desc := "(I)I", sig := { parameters := [.int], returnType := some .int }, accessFlags := 1, code := some k7c3 }
def k7c4 : Code := { maxStack := 4, maxLocals := 3, code := jdk_42_method_80_code, exceptionTable := #[], attributes := #[] }
def k7m4 : Method := { name := "indexOf", desc := "(II)I", sig := { parameters := [.int, .int], returnType := some .int }, accessFlags := 1, code := some k7c4 }
def k7c5 : Code := { maxStack := 4, maxLocals := 6, code := jdk_42_method_149_code, exceptionTable := #[], attributes := #[] }
def k7m5 : Method := { name := "<init>", desc := "([CIILjava/lang/Void;)V", sig := { parameters := [(.array .char), .int, .int, (.object "java/lang/Void")], returnType := none }, accessFlags := 2, code := some k7c5 }
def k7c6 : Code := { maxStack := 1, maxLocals := 1, code := jdk_42_method_152_code, exceptionTable := #[], attributes := #[] }
def k7m6 : Method := { name := "coder", desc := "()B", sig := { parameters := [], returnType := some .byte }, accessFlags := 0, code := some k7c6 }
def k7c7 : Code := { maxStack := 1, maxLocals := 1, code := jdk_42_method_154_code, exceptionTable := #[], attributes := #[] }
def k7m7 : Method := { name := "isLatin1", desc := "()Z", sig := { parameters := [], returnType := some .boolean }, accessFlags := 0, code := some k7c7 }
def k7c8 : Code := { maxStack := 4, maxLocals := 3, code := jdk_42_method_158_code, exceptionTable := #[], attributes := #[] }
def k7m8 : Method := { name := "checkBoundsBeginEnd", desc := "(III)V", sig := { parameters := [.int, .int, .int], returnType := none }, accessFlags := 8, code := some k7c8 }
/-- java/lang/String -/
def k7 : Class := { plain "java/lang/String" (some 0) with
  accessFlags := 49
  interfaces := #[2, 3, 4, 5, 6]
  cf := some (fileOf pool7 10 #[.nestMembers #[1103]] #[{ accessFlags := 1, nameIndex := 5, descriptorIndex := 6, attributes := #[] }, { accessFlags := 1, nameIndex := 5, descriptorIndex := 1010, attributes := #[] }, { accessFlags := 1, nameIndex := 507, descriptorIndex := 334, attributes := #[] }, { accessFlags := 1, nameIndex := 635, descriptorIndex := 765, attributes := #[] }, { accessFlags := 1, nameIndex := 635, descriptorIndex := 636, attributes := #[] }, { accessFlags := 2, nameIndex := 5, descriptorIndex := 29, attributes := #[] }, { accessFlags := 0, nameIndex := 17, descriptorIndex := 337, attributes := #[] }, { accessFlags := 0, nameIndex := 494, descriptorIndex := 142, attributes := #[] }, { accessFlags := 8, nameIndex := 523, descriptorIndex := 524, attributes := #[] }] 49 2 #[1106, 1108, 575, 1110, 1112] #[{ accessFlags := 18, nameIndex := 13, descriptorIndex := 14, attributes := #[] }, { accessFlags := 18, nameIndex := 17, descriptorIndex := 18, attributes := #[] }, { accessFlags := 2, nameIndex := 21, descriptorIndex := 22, attributes := #[] }, { accessFlags := 2, nameIndex := 25, descriptorIndex := 26, attributes := #[] }, { accessFlags := 26, nameIndex := 1116, descriptorIndex := 1117, attributes := #[] }, { accessFlags := 24, nameIndex := 40, descriptorIndex := 26, attributes := #[] }, { accessFlags := 26, nameIndex := 1101, descriptorIndex := 1102, attributes := #[] }, { accessFlags := 26, nameIndex := 1121, descriptorIndex := 1122, attributes := #[] }, { accessFlags := 25, nameIndex := 599, descriptorIndex := 600, attributes := #[] }, { accessFlags := 24, nameIndex := 1125, descriptorIndex := 18, attributes := #[] }, { accessFlags := 24, nameIndex := 1127, descriptorIndex := 18, attributes := #[] }])
  fields := #[{ name := "value", type := (.array .byte), accessFlags := 18, slot := 0, constantValue := 0 }, { name := "coder", type := .byte, accessFlags := 18, slot := 1, constantValue := 0 }, { name := "hash", type := .int, accessFlags := 2, slot := 2, constantValue := 0 }, { name := "hashIsZero", type := .boolean, accessFlags := 2, slot := 3, constantValue := 0 }, { name := "serialVersionUID", type := .long, accessFlags := 26, slot := 0, constantValue := 0 }, { name := "COMPACT_STRINGS", type := .boolean, accessFlags := 24, slot := 1, constantValue := 0 }, { name := "serialPersistentFields", type := (.array (.object "java/io/ObjectStreamField")), accessFlags := 26, slot := 2, constantValue := 0 }, { name := "REPL", type := .char, accessFlags := 26, slot := 3, constantValue := 0 }, { name := "CASE_INSENSITIVE_ORDER", type := (.object "java/util/Comparator"), accessFlags := 25, slot := 4, constantValue := 0 }, { name := "LATIN1", type := .byte, accessFlags := 24, slot := 5, constantValue := 0 }, { name := "UTF16", type := .byte, accessFlags := 24, slot := 6, constantValue := 0 }]
  methods := #[k7m0, k7m1, k7m2, k7m3, k7m4, k7m5, k7m6, k7m7, k7m8]
  instanceTypes := #[(.array .byte), .byte, .int, .boolean]
  staticTypes := #[.long, .boolean, (.array (.object "java/io/ObjectStreamField")), .char, (.object "java/util/Comparator"), .byte, .byte]
  resolved := Array.replicate 1451 none
  statics := some 0 }

def pool8 : Array CpInfo := pool [(2, .class_ 4), (1, u "java/lang/Object"), (0, u "<init>"), (0, u "()V"), (0, .methodref 8 9), (0, .class_ 10), (0, .nameAndType 11 12), (0, u "java/lang/String"), (0, u "indexOf"), (0, u "(I)I"), (27, .class_ 42), (1, u "com/example/branchward/branchward/Ids"), (0, u "BYTE_ORDER"), (0, u "Ljava/util/Comparator;"), (4, u "holdsLineBreak"), (0, u "(Ljava/lang/String;)Z")] 26

def k8m0 : Method := { name := "<init>", desc := "()V", sig := { parameters := [], returnType := none }, accessFlags := 2, code := none }
def k8c1 : Code := { maxStack := 2, maxLocals := 1, code := prog_28_method_2_code, exceptionTable := #[], attributes := #[] }
def k8m1 : Method := { name := "holdsLineBreak", desc := "(Ljava/lang/String;)Z", sig := { parameters := [(.object "java/lang/String")], returnType := some .boolean }, accessFlags := 8, code := some k8c1 }
/-- com/example/branchward/branchward/Ids -/
def k8 : Class := { plain "com/example/branchward/branchward/Ids" (some 0) with
  accessFlags := 48
  interfaces := #[]
  cf := some (fileOf pool8 40 #[] #[{ accessFlags := 2, nameIndex := 5, descriptorIndex := 6, attributes := #[] }, { accessFlags := 8, nameIndex := 49, descriptorIndex := 50, attributes := #[] }] 48 2 #[] #[{ accessFlags := 24, nameIndex := 43, descriptorIndex := 44, attributes := #[] }])
  fields := #[{ name := "BYTE_ORDER", type := (.object "java/util/Comparator"), accessFlags := 24, slot := 0, constantValue := 0 }]
  methods := #[k8m0, k8m1]
  instanceTypes := #[]
  staticTypes := #[(.object "java/util/Comparator")]
  resolved := Array.replicate 77 none
  statics := none }

def pool9 : Array CpInfo := pool [(4, .class_ 6), (1, u "java/lang/Object"), (0, u "<init>"), (0, u "()V"), (5, .class_ 16), (1, u "java/lang/StringLatin1"), (21, .methodref 39 40), (0, .class_ 41), (0, .nameAndType 42 43), (0, u "java/lang/Math"), (0, u "min"), (0, u "(II)I"), (44, .methodref 14 89), (0, .nameAndType 90 91), (0, u "canEncode"), (0, u "(I)Z"), (0, .methodref 39 93), (0, .nameAndType 94 43), (0, u "max"), (0, .methodref 14 96), (0, .nameAndType 97 98), (0, u "indexOfChar"), (0, u "([BIII)I"), (2, u "indexOf"), (19, u "$assertionsDisabled"), (0, u "Z"), (98, .class_ 223), (1, u "java/lang/StringLatin1$LinesSpliterator"), (166, .class_ 391), (0, u "java/lang/StringLatin1$CharsSpliterator")] 3

def k9m0 : Method := { name := "<init>", desc := "()V", sig := { parameters := [], returnType := none }, accessFlags := 0, code := none }
def k9c1 : Code := { maxStack := 2, maxLocals := 1, code := jdk_43_method_4_code, exceptionTable := #[], attributes := #[] }
def k9m1 : Method := { name := "canEncode", desc := "(I)Z", sig := { parameters := [.int], returnType := some .boolean }, accessFlags := 9, code := some k9c1 }
def k9c2 : Code := { maxStack := 4, maxLocals := 4, code := jdk_43_method_22_code, exceptionTable := #[], attributes := #[] }
def k9m2 : Method := { name := "indexOf", desc := "([BIII)I", sig := { parameters := [(.array .byte), .int, .int, .int], returnType := some .int }, accessFlags := 9, code := some k9c2 }
def k9c3 : Code := { maxStack := 2, maxLocals := 6, code := jdk_43_method_23_code, exceptionTable := #[], attributes := #[] }
def k9m3 : Method := { name := "indexOfChar", desc := "([BIII)I", sig := { parameters := [(.array .byte), .int, .int, .int], returnType := some .int }, accessFlags := 10, code := some k9c3 }
/-- java/lang/StringLatin1 -/
def k9 : Class := { plain "java/lang/StringLatin1" (some 0) with
  accessFlags := 48
  interfaces := #[]
  cf := some (fileOf pool9 14 #[.nestMembers #[390, 221]] #[{ accessFlags := 0, nameIndex := 7, descriptorIndex := 8, attributes := #[] }, { accessFlags := 9, nameIndex := 90, descriptorIndex := 91, attributes := #[] }, { accessFlags := 9, nameIndex := 101, descriptorIndex := 98, attributes := #[] }, { accessFlags := 10, nameIndex := 97, descriptorIndex := 98, attributes := #[] }] 48 4 #[] #[{ accessFlags := 4120, nameIndex := 121, descriptorIndex := 122, attributes := #[] }])
  fields := #[{ name := "$assertionsDisabled", type := .boolean, accessFlags := 4120, slot := 0, constantValue := 0 }]
  methods := #[k9m0, k9m1, k9m2, k9m3]
  instanceTypes := #[]
  staticTypes := #[.boolean]
  resolved := Array.replicate 395 none
  statics := none }

def pool10 : Array CpInfo := pool [(1, .class_ 2), (0, u "java/lang/Math"), (1, .class_ 6), (1, u "java/lang/Object"), (0, u "<init>"), (0, u "()V"), (89, .class_ 100), (1, u "java/lang/Math$RandomNumberGeneratorHolder"), (71, u "negativeZeroFloatBits"), (0, u "J"), (2, u "negativeZeroDoubleBits"), (21, u "max"), (2, u "min"), (43, u "$assertionsDisabled"), (0, u "Z"), (88, u "(II)I"), (2, u "twoToTheDoubleScaleDown"), (0, u "D"), (4, u "twoToTheDoubleScaleUp"), (9, u "E"), (3, u "PI"), (2, u "TAU"), (2, u "DEGREES_TO_RADIANS"), (0, u "RADIANS_TO_DEGREES")] 94

def k10m0 : Method := { name := "<init>", desc := "()V", sig := { parameters := [], returnType := none }, accessFlags := 2, code := none }
def k10c1 : Code := { maxStack := 2, maxLocals := 2, code := jdk_29_method_65_code, exceptionTable := #[], attributes := #[] }
def k10m1 : Method := { name := "max", desc := "(II)I", sig := { parameters := [.int, .int], returnType := some .int }, accessFlags := 9, code := some k10c1 }
def k10c2 : Code := { maxStack := 2, maxLocals := 2, code := jdk_29_method_69_code, exceptionTable := #[], attributes := #[] }
def k10m2 : Method := { name := "min", desc := "(II)I", sig := { parameters := [.int, .int], returnType := some .int }, accessFlags := 9, code := some k10c2 }
/-- java/lang/Math -/
def k10 : Class := { plain "java/lang/Math" (some 0) with
  accessFlags := 49
  interfaces := #[]
  cf := some (fileOf pool10 1 #[.nestMembers #[98]] #[{ accessFlags := 2, nameIndex := 7, descriptorIndex := 8, attributes := #[] }, { accessFlags := 9, nameIndex := 198, descriptorIndex := 335, attributes := #[] }, { accessFlags := 9, nameIndex := 201, descriptorIndex := 335, attributes := #[] }] 49 4 #[] #[{ accessFlags := 25, nameIndex := 354, descriptorIndex := 339, attributes := #[] }, { accessFlags := 25, nameIndex := 358, descriptorIndex := 339, attributes := #[] }, { accessFlags := 25, nameIndex := 361, descriptorIndex := 339, attributes := #[] }, { accessFlags := 26, nameIndex := 364, descriptorIndex := 339, attributes := #[] }, { accessFlags := 26, nameIndex := 365, descriptorIndex := 339, attributes := #[] }, { accessFlags := 26, nameIndex := 172, descriptorIndex := 173, attributes := #[] }, { accessFlags := 26, nameIndex := 176, descriptorIndex := 173, attributes := #[] }, { accessFlags := 8, nameIndex := 344, descriptorIndex := 339, attributes := #[] }, { accessFlags := 8, nameIndex := 338, descriptorIndex := 339, attributes := #[] }, { accessFlags := 4120, nameIndex := 245, descriptorIndex := 246, attributes := #[] }])
  fields := #[{ name := "E", type := .double, accessFlags := 25, slot := 0, constantValue := 0 }, { name := "PI", type := .double, accessFlags := 25, slot := 1, constantValue := 0 }, { name := "TAU", type := .double, accessFlags := 25, slot := 2, constantValue := 0 }, { name := "DEGREES_TO_RADIANS", type := .double, accessFlags := 26, slot := 3, constantValue := 0 }, { name := "RADIANS_TO_DEGREES", type := .double, accessFlags := 26, slot := 4, constantValue := 0 }, { name := "negativeZeroFloatBits", type := .long, accessFlags := 26, slot := 5, constantValue := 0 }, { name := "negativeZeroDoubleBits", type := .long, accessFlags := 26, slot := 6, constantValue := 0 }, { name := "twoToTheDoubleScaleUp", type := .double, accessFlags := 8, slot := 7, constantValue := 0 }, { name := "twoToTheDoubleScaleDown", type := .double, accessFlags := 8, slot := 8, constantValue := 0 }, { name := "$assertionsDisabled", type := .boolean, accessFlags := 4120, slot := 9, constantValue := 0 }]
  methods := #[k10m0, k10m1, k10m2]
  instanceTypes := #[]
  staticTypes := #[.double, .double, .double, .double, .double, .long, .long, .double, .double, .boolean]
  resolved := Array.replicate 460 none
  statics := none }

def pool11 : Array CpInfo := pool [(3, .class_ 4), (0, u "java/lang/String"), (1, .class_ 8), (1, u "java/lang/Object"), (0, u "<init>"), (0, u "()V"), (0, .methodref 12 13), (0, .class_ 14), (0, .nameAndType 15 16), (0, u "java/lang/StringUTF16"), (0, u "newBytesLength"), (0, u "(I)I"), (3, .integer 1073741823), (23, .fieldref 12 45), (0, .nameAndType 46 47), (0, u "$assertionsDisabled"), (0, u "Z"), (0, .methodref 12 49), (0, .nameAndType 50 51), (0, u "length"), (0, u "([B)I"), (7, .fieldref 12 60), (0, .nameAndType 61 62), (0, u "HI_BYTE_SHIFT"), (0, u "I"), (0, .fieldref 12 64), (0, .nameAndType 65 62), (0, u "LO_BYTE_SHIFT"), (5, .methodref 12 72), (0, .nameAndType 73 74), (0, u "getChar"), (0, u "([BI)C"), (21, .methodref 12 97), (0, .nameAndType 98 99), (0, u "checkBoundsBeginEnd"), (0, u "(II[B)V"), (7, .methodref 12 108), (0, .nameAndType 109 110), (0, u "newBytesFor"), (0, u "(I)[B"), (0, .methodref 12 112), (0, .nameAndType 113 114), (0, u "putChar"), (0, u "([BII)V"), (0, .methodref 12 116), (0, .nameAndType 117 118), (0, u "compress"), (0, u "([CI[BII)I"), (0, .methodref 12 120), (0, .nameAndType 121 122), (0, u "toBytes"), (0, u "([CII)[B"), (60, .methodref 184 185), (0, .class_ 186), (0, .nameAndType 187 188), (0, u "java/lang/Math"), (0, u "min"), (0, u "(II)I"), (35, .methodref 184 225), (0, .nameAndType 226 188), (0, u "max"), (0, .integer 65536), (0, .methodref 12 229), (0, .nameAndType 230 231), (0, u "indexOfChar"), (0, u "([BIII)I"), (9, .methodref 3 242), (0, .nameAndType 98 243), (0, u "(III)V"), (0, .methodref 12 245), (0, .nameAndType 246 231), (0, u "indexOfCharUnsafe"), (14, u "coderFromArrayLen"), (0, u "([BI)B"), (5, u "indexOf"), (100, .class_ 371), (1, u "java/lang/StringUTF16$LinesSpliterator"), (58, u "MAX_LENGTH"), (196, .class_ 628), (0, u "java/lang/StringUTF16$CodePointsSpliterator"), (0, .class_ 630), (0, u "java/lang/StringUTF16$CharsSpliterator")] 4

def k11m0 : Method := { name := "<init>", desc := "()V", sig := { parameters := [], returnType := none }, accessFlags := 0, code := none }
def k11c1 : Code := { maxStack := 1, maxLocals := 1, code := jdk_52_method_2_code, exceptionTable := #[], attributes := #[] }
def k11m1 : Method := { name := "newBytesFor", desc := "(I)[B", sig := { parameters := [.int], returnType := some (.array .byte) }, accessFlags := 9, code := some k11c1 }
def k11c2 : Code := { maxStack := 4, maxLocals := 1, code := jdk_52_method_3_code, exceptionTable := #[], attributes := #[] }
def k11m2 : Method := { name := "newBytesLength", desc := "(I)I", sig := { parameters := [.int], returnType := some .int }, accessFlags := 9, code := some k11c2 }
def k11c3 : Code := { maxStack := 4, maxLocals := 3, code := jdk_52_method_4_code, exceptionTable := #[], attributes := #[] }
def k11m3 : Method := { name := "putChar", desc := "([BII)V", sig := { parameters := [(.array .byte), .int, .int], returnType := none }, accessFlags := 8, code := some k11c3 }
def k11c4 : Code := { maxStack := 3, maxLocals := 2, code := jdk_52_method_5_code, exceptionTable := #[], attributes := #[] }
def k11m4 : Method := { name := "getChar", desc := "([BI)C", sig := { parameters := [(.array .byte), .int], returnType := some .char }, accessFlags := 8, code := some k11c4 }
def k11c5 : Code := { maxStack := 2, maxLocals := 1, code := jdk_52_method_6_code, exceptionTable := #[], attributes := #[] }
def k11m5 : Method := { name := "length", desc := "([B)I", sig := { parameters := [(.array .byte)], returnType := some .int }, accessFlags := 9, code := some k11c5 }
def k11c6 : Code := { maxStack := 4, maxLocals := 5, code := jdk_52_method_14_code, exceptionTable := #[], attributes := #[] }
def k11m6 : Method := { name := "toBytes", desc := "([CII)[B", sig := { parameters := [(.array .char), .int, .int], returnType := some (.array .byte) }, accessFlags := 9, code := some k11c6 }
def k11c7 : Code := { maxStack := 2, maxLocals := 2, code := jdk_52_method_15_code, exceptionTable := #[], attributes := #[] }
def k11m7 : Method := { name := "coderFromArrayLen", desc := "([BI)B", sig := { parameters := [(.array .byte), .int], returnType := some .byte }, accessFlags := 8, code := some k11c7 }
def k11c8 : Code := { maxStack := 5, maxLocals := 6, code := jdk_52_method_16_code, exceptionTable := #[], attributes := #[] }
def k11m8 : Method := { name := "compress", desc := "([CII)[B", sig := { parameters := [(.array .char), .int, .int], returnType := some (.array .byte) }, accessFlags := 9, code := some k11c8 }
def k11c9 : Code := { maxStack := 3, maxLocals := 7, code := jdk_52_method_21_code, exceptionTable := #[], attributes := #[] }
def k11m9 : Method := { name := "compress", desc := "([CI[BII)I", sig := { parameters := [(.array .char), .int, (.array .byte), .int, .int], returnType := some .int }, accessFlags := 9, code := some k11c9 }
def k11c10 : Code := { maxStack := 4, maxLocals := 4, code := jdk_52_method_40_code, exceptionTable := #[], attributes := #[] }
def k11m10 : Method := { name := "indexOf", desc := "([BIII)I", sig := { parameters := [(.array .byte), .int, .int, .int], returnType := some .int }, accessFlags := 9, code := some k11c10 }
def k11c11 : Code := { maxStack := 4, maxLocals := 4, code := jdk_52_method_47_code, exceptionTable := #[], attributes := #[] }
def k11m11 : Method := { name := "indexOfChar", desc := "([BIII)I", sig := { parameters := [(.array .byte), .int, .int, .int], returnType := some .int }, accessFlags := 10, code := some k11c11 }
def k11c12 : Code := { maxStack := 2, maxLocals := 5, code := jdk_52_method_48_code, exceptionTable := #[], attributes := #[] }
def k11m12 : Method := { name := "indexOfCharUnsafe", desc := "([BIII)I", sig := { parameters := [(.array .byte), .int, .int, .int], returnType := some .int }, accessFlags := 10, code := some k11c12 }
def k11c13 : Code := { maxStack := 3, maxLocals := 3, code := jdk_52_method_93_code, exceptionTable := #[], attributes := #[] }
def k11m13 : Method := { name := "checkBoundsBeginEnd", desc := "(II[B)V", sig := { parameters := [.int, .int, (.array .byte)], returnType := none }, accessFlags := 9, code := some k11c13 }
/-- java/lang/StringUTF16 -/
def k11 : Class := { plain "java/lang/StringUTF16" (some 0) with
  accessFlags := 48
  interfaces := #[]
  cf := some (fileOf pool11 12 #[.nestMembers #[627, 629, 369]] #[{ accessFlags := 0, nameIndex := 9, descriptorIndex := 10, attributes := #[] }, { accessFlags := 9, nameIndex := 109, descriptorIndex := 110, attributes := #[] }, { accessFlags := 9, nameIndex := 15, descriptorIndex := 16, attributes := #[] }, { accessFlags := 8, nameIndex := 113, descriptorIndex := 114, attributes := #[] }, { accessFlags := 8, nameIndex := 73, descriptorIndex := 74, attributes := #[] }, { accessFlags := 9, nameIndex := 50, descriptorIndex := 51, attributes := #[] }, { accessFlags := 9, nameIndex := 121, descriptorIndex := 122, attributes := #[] }, { accessFlags := 8, nameIndex := 261, descriptorIndex := 262, attributes := #[] }, { accessFlags := 9, nameIndex := 117, descriptorIndex := 122, attributes := #[] }, { accessFlags := 9, nameIndex := 117, descriptorIndex := 118, attributes := #[] }, { accessFlags := 9, nameIndex := 268, descriptorIndex := 231, attributes := #[] }, { accessFlags := 10, nameIndex := 230, descriptorIndex := 231, attributes := #[] }, { accessFlags := 10, nameIndex := 246, descriptorIndex := 231, attributes := #[] }, { accessFlags := 9, nameIndex := 98, descriptorIndex := 99, attributes := #[] }] 48 6 #[] #[{ accessFlags := 26, nameIndex := 61, descriptorIndex := 62, attributes := #[] }, { accessFlags := 26, nameIndex := 65, descriptorIndex := 62, attributes := #[] }, { accessFlags := 24, nameIndex := 430, descriptorIndex := 62, attributes := #[] }, { accessFlags := 4120, nameIndex := 46, descriptorIndex := 47, attributes := #[] }])
  fields := #[{ name := "HI_BYTE_SHIFT", type := .int, accessFlags := 26, slot := 0, constantValue := 0 }, { name := "LO_BYTE_SHIFT", type := .int, accessFlags := 26, slot := 1, constantValue := 0 }, { name := "MAX_LENGTH", type := .int, accessFlags := 24, slot := 2, constantValue := 0 }, { name := "$assertionsDisabled", type := .boolean, accessFlags := 4120, slot := 3, constantValue := 0 }]
  methods := #[k11m0, k11m1, k11m2, k11m3, k11m4, k11m5, k11m6, k11m7, k11m8, k11m9, k11m10, k11m11, k11m12, k11m13]
  instanceTypes := #[]
  staticTypes := #[.int, .int, .int, .boolean]
  resolved := Array.replicate 635 none
  statics := some 1 }

def pool12 : Array CpInfo := pool [(2, .class_ 4), (1, u "java/lang/Object"), (0, u "<init>"), (0, u "()V"), (17, .class_ 26), (1, u "jdk/internal/util/Preconditions"), (20, u "checkFromToIndex"), (7, .class_ 56), (0, u "jdk/internal/util/Preconditions$4"), (57, .class_ 115), (0, u "jdk/internal/util/Preconditions$1"), (7, u "SIOOBE_FORMATTER"), (0, u "Ljava/util/function/BiFunction;"), (0, .class_ 126), (0, u "jdk/internal/util/Preconditions$2"), (3, u "AIOOBE_FORMATTER"), (0, .class_ 132), (0, u "jdk/internal/util/Preconditions$3"), (3, u "IOOBE_FORMATTER"), (46, u "(IIILjava/util/function/BiFunction;)I")] 10

def k12m0 : Method := { name := "<init>", desc := "()V", sig := { parameters := [], returnType := none }, accessFlags := 1, code := none }
def k12c1 : Code := { maxStack := 4, maxLocals := 4, code := jdk_41_method_12_code, exceptionTable := #[], attributes := #[] }
def k12m1 : Method := { name := "checkFromToIndex", desc := "(IIILjava/util/function/BiFunction;)I", sig := { parameters := [.int, .int, .int, (.object "java/util/function/BiFunction")], returnType := some .int }, accessFlags := 9, code := some k12c1 }
/-- jdk/internal/util/Preconditions -/
def k12 : Class := { plain "jdk/internal/util/Preconditions" (some 0) with
  accessFlags := 33
  interfaces := #[]
  cf := some (fileOf pool12 24 #[.nestMembers #[55, 131, 125, 114]] #[{ accessFlags := 1, nameIndex := 5, descriptorIndex := 6, attributes := #[] }, { accessFlags := 9, nameIndex := 47, descriptorIndex := 183, attributes := #[] }] 33 2 #[] #[{ accessFlags := 25, nameIndex := 123, descriptorIndex := 124, attributes := #[] }, { accessFlags := 25, nameIndex := 130, descriptorIndex := 124, attributes := #[] }, { accessFlags := 25, nameIndex := 136, descriptorIndex := 124, attributes := #[] }])
  fields := #[{ name := "SIOOBE_FORMATTER", type := (.object "java/util/function/BiFunction"), accessFlags := 25, slot := 0, constantValue := 0 }, { name := "AIOOBE_FORMATTER", type := (.object "java/util/function/BiFunction"), accessFlags := 25, slot := 1, constantValue := 0 }, { name := "IOOBE_FORMATTER", type := (.object "java/util/function/BiFunction"), accessFlags := 25, slot := 2, constantValue := 0 }]
  methods := #[k12m0, k12m1]
  instanceTypes := #[]
  staticTypes := #[(.object "java/util/function/BiFunction"), (.object "java/util/function/BiFunction"), (.object "java/util/function/BiFunction")]
  resolved := Array.replicate 194 none
  statics := some 2 }

def pool13 : Array CpInfo := pool [(9, u "<init>"), (6, .class_ 18), (1, u "java/lang/Object"), (0, u "()V"), (1, .class_ 23), (1, u "jdk/internal/util/ArraysSupport"), (0, u "LOG2_ARRAY_LONG_INDEX_SCALE"), (0, u "I"), (2, u "U"), (0, u "Ljdk/internal/misc/Unsafe;"), (8, u "BIG_ENDIAN"), (0, u "Z"), (8, u "LOG2_BYTE_BIT_SIZE"), (4, u "LOG2_ARRAY_INT_INDEX_SCALE"), (54, u "JLA"), (0, u "Ljdk/internal/access/JavaLangAccess;"), (11, u "LOG2_ARRAY_BOOLEAN_INDEX_SCALE"), (9, u "LOG2_ARRAY_BYTE_INDEX_SCALE"), (5, u "LOG2_ARRAY_CHAR_INDEX_SCALE"), (5, u "LOG2_ARRAY_SHORT_INDEX_SCALE"), (18, u "LOG2_ARRAY_FLOAT_INDEX_SCALE"), (24, u "LOG2_ARRAY_DOUBLE_INDEX_SCALE"), (89, u "T_BOOLEAN"), (2, u "T_CHAR"), (1, u "T_FLOAT"), (1, u "T_DOUBLE"), (1, u "T_BYTE"), (1, u "T_SHORT"), (1, u "T_INT"), (1, u "T_LONG"), (1, u "SOFT_MAX_ARRAY_LENGTH")] 83

def k13m0 : Method := { name := "<init>", desc := "()V", sig := { parameters := [], returnType := none }, accessFlags := 2, code := none }
/-- jdk/internal/util/ArraysSupport -/
def k13 : Class := { plain "jdk/internal/util/ArraysSupport" (some 0) with
  accessFlags := 33
  interfaces := #[]
  cf := some (fileOf pool13 21 #[] #[{ accessFlags := 2, nameIndex := 9, descriptorIndex := 19, attributes := #[] }] 33 16 #[] #[{ accessFlags := 24, nameIndex := 28, descriptorIndex := 29, attributes := #[] }, { accessFlags := 26, nameIndex := 38, descriptorIndex := 39, attributes := #[] }, { accessFlags := 25, nameIndex := 121, descriptorIndex := 25, attributes := #[] }, { accessFlags := 25, nameIndex := 131, descriptorIndex := 25, attributes := #[] }, { accessFlags := 25, nameIndex := 137, descriptorIndex := 25, attributes := #[] }, { accessFlags := 25, nameIndex := 143, descriptorIndex := 25, attributes := #[] }, { accessFlags := 25, nameIndex := 53, descriptorIndex := 25, attributes := #[] }, { accessFlags := 25, nameIndex := 24, descriptorIndex := 25, attributes := #[] }, { accessFlags := 25, nameIndex := 162, descriptorIndex := 25, attributes := #[] }, { accessFlags := 25, nameIndex := 187, descriptorIndex := 25, attributes := #[] }, { accessFlags := 26, nameIndex := 48, descriptorIndex := 25, attributes := #[] }, { accessFlags := 25, nameIndex := 277, descriptorIndex := 25, attributes := #[] }, { accessFlags := 25, nameIndex := 280, descriptorIndex := 25, attributes := #[] }, { accessFlags := 25, nameIndex := 282, descriptorIndex := 25, attributes := #[] }, { accessFlags := 25, nameIndex := 284, descriptorIndex := 25, attributes := #[] }, { accessFlags := 25, nameIndex := 286, descriptorIndex := 25, attributes := #[] }, { accessFlags := 25, nameIndex := 288, descriptorIndex := 25, attributes := #[] }, { accessFlags := 25, nameIndex := 290, descriptorIndex := 25, attributes := #[] }, { accessFlags := 25, nameIndex := 292, descriptorIndex := 25, attributes := #[] }, { accessFlags := 26, nameIndex := 108, descriptorIndex := 109, attributes := #[] }, { accessFlags := 25, nameIndex := 294, descriptorIndex := 25, attributes := #[] }])
  fields := #[{ name := "U", type := (.object "jdk/internal/misc/Unsafe"), accessFlags := 24, slot := 0, constantValue := 0 }, { name := "BIG_ENDIAN", type := .boolean, accessFlags := 26, slot := 1, constantValue := 0 }, { name := "LOG2_ARRAY_BOOLEAN_INDEX_SCALE", type := .int, accessFlags := 25, slot := 2, constantValue := 0 }, { name := "LOG2_ARRAY_BYTE_INDEX_SCALE", type := .int, accessFlags := 25, slot := 3, constantValue := 0 }, { name := "LOG2_ARRAY_CHAR_INDEX_SCALE", type := .int, accessFlags := 25, slot := 4, constantValue := 0 }, { name := "LOG2_ARRAY_SHORT_INDEX_SCALE", type := .int, accessFlags := 25, slot := 5, constantValue := 0 }, { name := "LOG2_ARRAY_INT_INDEX_SCALE", type := .int, accessFlags := 25, slot := 6, constantValue := 0 }, { name := "LOG2_ARRAY_LONG_INDEX_SCALE", type := .int, accessFlags := 25, slot := 7, constantValue := 0 }, { name := "LOG2_ARRAY_FLOAT_INDEX_SCALE", type := .int, accessFlags := 25, slot := 8, constantValue := 0 }, { name := "LOG2_ARRAY_DOUBLE_INDEX_SCALE", type := .int, accessFlags := 25, slot := 9, constantValue := 0 }, { name := "LOG2_BYTE_BIT_SIZE", type := .int, accessFlags := 26, slot := 10, constantValue := 0 }, { name := "T_BOOLEAN", type := .int, accessFlags := 25, slot := 11, constantValue := 0 }, { name := "T_CHAR", type := .int, accessFlags := 25, slot := 12, constantValue := 0 }, { name := "T_FLOAT", type := .int, accessFlags := 25, slot := 13, constantValue := 0 }, { name := "T_DOUBLE", type := .int, accessFlags := 25, slot := 14, constantValue := 0 }, { name := "T_BYTE", type := .int, accessFlags := 25, slot := 15, constantValue := 0 }, { name := "T_SHORT", type := .int, accessFlags := 25, slot := 16, constantValue := 0 }, { name := "T_INT", type := .int, accessFlags := 25, slot := 17, constantValue := 0 }, { name := "T_LONG", type := .int, accessFlags := 25, slot := 18, constantValue := 0 }, { name := "JLA", type := (.object "jdk/internal/access/JavaLangAccess"), accessFlags := 26, slot := 19, constantValue := 0 }, { name := "SOFT_MAX_ARRAY_LENGTH", type := .int, accessFlags := 25, slot := 20, constantValue := 0 }]
  methods := #[k13m0]
  instanceTypes := #[]
  staticTypes := #[(.object "jdk/internal/misc/Unsafe"), .boolean, .int, .int, .int, .int, .int, .int, .int, .int, .int, .int, .int, .int, .int, .int, .int, .int, .int, (.object "jdk/internal/access/JavaLangAccess"), .int]
  resolved := Array.replicate 378 none
  statics := none }

def pool14 : Array CpInfo := pool [(1, u "java/lang/Cloneable"), (0, .class_ 1), (0, u "java/lang/Object"), (0, .class_ 3)] 3

/-- java/lang/Cloneable -/
def k14 : Class := { plain "java/lang/Cloneable" (some 0) with
  accessFlags := 1537
  interfaces := #[]
  cf := some (fileOf pool14 2 #[] #[] 1537 4 #[] #[])
  fields := #[]
  methods := #[]
  instanceTypes := #[]
  staticTypes := #[]
  resolved := Array.replicate 8 none
  statics := none }

/-- the primitive byte -/
def k15 : Class := { plain "byte" none with kind := .primitive 'B', accessFlags := 0x411 }
/-- [B -/
def k16 : Class := { plain "[B" (some 0) with kind := .array 15 .byte, interfaces := #[14, 2], accessFlags := 1041 }

/-- the primitive char -/
def k17 : Class := { plain "char" none with kind := .primitive 'C', accessFlags := 0x411 }
/-- [C -/
def k18 : Class := { plain "[C" (some 0) with kind := .array 17 .char, interfaces := #[14, 2], accessFlags := 1041 }

/-- the primitive int -/
def k19 : Class := { plain "int" none with kind := .primitive 'I', accessFlags := 0x411 }
/-- [I -/
def k20 : Class := { plain "[I" (some 0) with kind := .array 19 .int, interfaces := #[14, 2], accessFlags := 1041 }

def heap : Heap := #[{ cls := 7, slots := #[.long 0, .int 1, .null, .int 0, .null, .int 0, .int 0], vm := .statics 7 },
  { cls := 11, slots := #[.int 0, .int 8, .int 0, .int 1], vm := .statics 11 },
  { cls := 12, slots := #[.null, .null, .null], vm := .statics 12 }]
def classes : Array Class := #[k0, k1, k2, k3, k4, k5, k6, k7, k8, k9, k10, k11, k12, k13, k14, k15, k16, k17, k18, k19, k20]
def interned : List (Array UInt16 × Addr) := []
def slotsUsed : Nat := 14
def theMethod : MethodId := ⟨1, 3⟩
def args0 : Array Value := #[.int 3, .int 65, .int 66, .int 4]
def aboutOver (below : List Frame) : State where
  vm := { classes := classes, interned := interned.toArray }
  heap := heap
  slotsUsed := slotsUsed
  threads := #[{ frames := .invoking theMethod args0 :: below }]
def below0 : List Frame := [.native { method := ⟨0, 0⟩, args := #[] }]
def about1 : State := aboutOver below0
def p0 : Program := .bare "" "" ""
def e0 : Env := launch0.env 0 0 0
theorem w_frames : about1.frames = Frame.invoking theMethod args0 :: below0 := rfl
set_option maxRecDepth 65536 in
theorem w_args : argsFit about1.vm theMethod args0 = true := by decide +kernel
set_option maxRecDepth 65536 in
theorem w_heap : heapFits about1 = true := by decide +kernel
set_option maxRecDepth 65536 in
theorem w_runnable : about1.curStatus? = some .runnable := by decide +kernel
set_option maxRecDepth 65536 in
theorem w_alone : about1.alone = true := by decide +kernel
set_option maxRecDepth 65536 in
theorem w_named : about1.methodNamed? x = some theMethod := by decide +kernel
set_option maxRecDepth 65536 in
theorem w_hears : about1.hears theMethod below0 = true := by decide +kernel
set_option maxRecDepth 65536 in
theorem w_ripe : about1.ripe theMethod args0 below0 = true := by decide +kernel
theorem w_running : about1.status = .running := rfl
set_option maxRecDepth 65536 in
theorem w_room : about1.hasRoom e0.platform room_1 = true :=
  launch0.hasRoom_least _ room_1 (by decide +kernel) (by decide +kernel) (by decide +kernel) (by decide +kernel) (by decide +kernel) (by decide +kernel)
theorem allAtoms_all (ts : List Jvm.Cond) (a : Array Jvm.Value) (st : Jvm.State) : (allAtoms ts).before a st = ts.all (fun c => c.before a st) := by
  induction ts with
  | nil => rfl
  | cons c t ih =>
    show (Jvm.Cond.and c (allAtoms t)).before a st = _
    rw [Jvm.Cond.before_and, ih, List.all_cons]
def words1 : List Jvm.Cond := Jvm.Cond.code x code maxLocals ret :: tables_1
/-- a 'code' word, met by the world's own term for the bytes: nothing is compared byte by byte -/
theorem code_word {y : MethodName} {bytes : ByteArray} {mx : Nat} {rt : Option FieldType} {a : Array Value} {s : State} {m : MethodId} {meth : Method} {c : Code} (h1 : s.methodNamed? y = some m) (h2 : s.vm.method? m = some meth) (h3 : meth.code = some c) (h4 : c.code = bytes)
    (h5 : (c.maxLocals == mx && c.exceptionTable.isEmpty && decide (c.maxStack ≤ mostOperands) && decide (meth.sig.returnType = rt) && !meth.locks && decide (parseMethodDescriptor y.desc = some meth.sig)) = true) : (Jvm.Cond.code y bytes mx rt).before a s = true := by
  simp only [Bool.and_eq_true, beq_iff_eq, Bool.not_eq_true', decide_eq_true_eq] at h5
  obtain ⟨⟨⟨⟨⟨g1, g2⟩, g3⟩, g4⟩, g5⟩, g6⟩ := h5
  simp [Cond.before, Cond.holds, Cond.value, h1, h2, h3, h4, g1, g2, g3, g4, g5, g6]
def isCode : Jvm.Cond → Bool
  | .code _ _ _ _ => true
  | _ => false
theorem all_split {L : List Jvm.Cond} {P : Jvm.Cond → Bool} (h1 : L.all (fun c => isCode c || P c) = true) (h2 : ∀ c ∈ L.filter isCode, P c = true) : L.all P = true := by
  refine List.all_eq_true.mpr fun c hc => ?_
  have h := List.all_eq_true.mp h1 c hc
  rcases Bool.eq_false_or_eq_true (isCode c) with hi | hi
  · exact h2 c (List.mem_filter.mpr ⟨hc, hi⟩)
  · simpa [hi] using h
set_option maxRecDepth 65536 in
theorem w_c0 : (Jvm.Cond.code x code maxLocals ret).before args0 about1 = true := code_word (m := ⟨1, 3⟩) (meth := k1m3) (c := k1c3) (by decide +kernel) rfl rfl rfl (by decide +kernel)
set_option maxRecDepth 65536 in
theorem w_c1 : (Jvm.Cond.code ({ cls := "com/example/branchward/branchward/IdsHoldsLineBreakPinLaw", name := "pick", desc := "(I)C" } : Jvm.MethodName) method_2_code (2 : Nat) (Option.some Jvm.ClassFile.FieldType.char)).before args0 about1 = true := code_word (m := ⟨1, 1⟩) (meth := k1m1) (c := k1c1) (by decide +kernel) rfl rfl rfl (by decide +kernel)
set_option maxRecDepth 65536 in
theorem w_c2 : (Jvm.Cond.code ({ cls := "java/lang/String", name := "<init>", desc := "([C)V" } : Jvm.MethodName) jdk_42_method_3_code (2 : Nat) (Option.none : Option Jvm.ClassFile.FieldType)).before args0 about1 = true := code_word (m := ⟨7, 1⟩) (meth := k7m1) (c := k7c1) (by decide +kernel) rfl rfl rfl (by decide +kernel)
set_option maxRecDepth 65536 in
theorem w_c3 : (Jvm.Cond.code ({ cls := "java/lang/String", name := "<init>", desc := "([CIILjava/lang/Void;)V" } : Jvm.MethodName) jdk_42_method_149_code (6 : Nat) (Option.none : Option Jvm.ClassFile.FieldType)).before args0 about1 = true := code_word (m := ⟨7, 5⟩) (meth := k7m5) (c := k7c5) (by decide +kernel) rfl rfl rfl (by decide +kernel)
set_option maxRecDepth 65536 in
theorem w_c4 : (Jvm.Cond.code ({ cls := "java/lang/Object", name := "<init>", desc := "()V" } : Jvm.MethodName) object_method_1_code (1 : Nat) (Option.none : Option Jvm.ClassFile.FieldType)).before args0 about1 = true := code_word (m := ⟨0, 0⟩) (meth := k0m0) (c := k0c0) (by decide +kernel) rfl rfl rfl (by decide +kernel)
set_option maxRecDepth 65536 in
theorem w_c5 : (Jvm.Cond.code ({ cls := "com/example/branchward/branchward/Ids", name := "holdsLineBreak", desc := "(Ljava/lang/String;)Z" } : Jvm.MethodName) prog_28_method_2_code (1 : Nat) (Option.some Jvm.ClassFile.FieldType.boolean)).before args0 about1 = true := code_word (m := ⟨8, 1⟩) (meth := k8m1) (c := k8c1) (by decide +kernel) rfl rfl rfl (by decide +kernel)
set_option maxRecDepth 65536 in
theorem w_c6 : (Jvm.Cond.code ({ cls := "java/lang/String", name := "indexOf", desc := "(I)I" } : Jvm.MethodName) jdk_42_method_79_code (2 : Nat) (Option.some Jvm.ClassFile.FieldType.int)).before args0 about1 = true := code_word (m := ⟨7, 3⟩) (meth := k7m3) (c := k7c3) (by decide +kernel) rfl rfl rfl (by decide +kernel)
set_option maxRecDepth 65536 in
theorem w_c7 : (Jvm.Cond.code ({ cls := "java/lang/String", name := "indexOf", desc := "(II)I" } : Jvm.MethodName) jdk_42_method_80_code (3 : Nat) (Option.some Jvm.ClassFile.FieldType.int)).before args0 about1 = true := code_word (m := ⟨7, 4⟩) (meth := k7m4) (c := k7c4) (by decide +kernel) rfl rfl rfl (by decide +kernel)
set_option maxRecDepth 65536 in
theorem w_c8 : (Jvm.Cond.code ({ cls := "java/lang/String", name := "isLatin1", desc := "()Z" } : Jvm.MethodName) jdk_42_method_154_code (1 : Nat) (Option.some Jvm.ClassFile.FieldType.boolean)).before args0 about1 = true := code_word (m := ⟨7, 7⟩) (meth := k7m7) (c := k7c7) (by decide +kernel) rfl rfl rfl (by decide +kernel)
set_option maxRecDepth 65536 in
theorem w_c9 : (Jvm.Cond.code ({ cls := "java/lang/String", name := "length", desc := "()I" } : Jvm.MethodName) jdk_42_method_54_code (1 : Nat) (Option.some Jvm.ClassFile.FieldType.int)).before args0 about1 = true := code_word (m := ⟨7, 2⟩) (meth := k7m2) (c := k7c2) (by decide +kernel) rfl rfl rfl (by decide +kernel)
set_option maxRecDepth 65536 in
theorem w_c10 : (Jvm.Cond.code ({ cls := "java/lang/String", name := "coder", desc := "()B" } : Jvm.MethodName) jdk_42_method_152_code (1 : Nat) (Option.some Jvm.ClassFile.FieldType.byte)).before args0 about1 = true := code_word (m := ⟨7, 6⟩) (meth := k7m6) (c := k7c6) (by decide +kernel) rfl rfl rfl (by decide +kernel)
set_option maxRecDepth 65536 in
theorem w_c11 : (Jvm.Cond.code ({ cls := "java/lang/StringLatin1", name := "indexOf", desc := "([BIII)I" } : Jvm.MethodName) jdk_43_method_22_code (4 : Nat) (Option.some Jvm.ClassFile.FieldType.int)).before args0 about1 = true := code_word (m := ⟨9, 2⟩) (meth := k9m2) (c := k9c2) (by decide +kernel) rfl rfl rfl (by decide +kernel)
set_option maxRecDepth 65536 in
theorem w_c12 : (Jvm.Cond.code ({ cls := "java/lang/StringLatin1", name := "canEncode", desc := "(I)Z" } : Jvm.MethodName) jdk_43_method_4_code (1 : Nat) (Option.some Jvm.ClassFile.FieldType.boolean)).before args0 about1 = true := code_word (m := ⟨9, 1⟩) (meth := k9m1) (c := k9c1) (by decide +kernel) rfl rfl rfl (by decide +kernel)
set_option maxRecDepth 65536 in
theorem w_c13 : (Jvm.Cond.code ({ cls := "java/lang/Math", name := "max", desc := "(II)I" } : Jvm.MethodName) jdk_29_method_65_code (2 : Nat) (Option.some Jvm.ClassFile.FieldType.int)).before args0 about1 = true := code_word (m := ⟨10, 1⟩) (meth := k10m1) (c := k10c1) (by decide +kernel) rfl rfl rfl (by decide +kernel)
set_option maxRecDepth 65536 in
theorem w_c14 : (Jvm.Cond.code ({ cls := "java/lang/Math", name := "min", desc := "(II)I" } : Jvm.MethodName) jdk_29_method_69_code (2 : Nat) (Option.some Jvm.ClassFile.FieldType.int)).before args0 about1 = true := code_word (m := ⟨10, 2⟩) (meth := k10m2) (c := k10c2) (by decide +kernel) rfl rfl rfl (by decide +kernel)
set_option maxRecDepth 65536 in
theorem w_c15 : (Jvm.Cond.code ({ cls := "java/lang/StringUTF16", name := "compress", desc := "([CII)[B" } : Jvm.MethodName) jdk_52_method_16_code (6 : Nat) (Option.some (Jvm.ClassFile.FieldType.array Jvm.ClassFile.FieldType.byte))).before args0 about1 = true := code_word (m := ⟨11, 8⟩) (meth := k11m8) (c := k11c8) (by decide +kernel) rfl rfl rfl (by decide +kernel)
set_option maxRecDepth 65536 in
theorem w_c16 : (Jvm.Cond.code ({ cls := "java/lang/StringUTF16", name := "compress", desc := "([CI[BII)I" } : Jvm.MethodName) jdk_52_method_21_code (7 : Nat) (Option.some Jvm.ClassFile.FieldType.int)).before args0 about1 = true := code_word (m := ⟨11, 9⟩) (meth := k11m9) (c := k11c9) (by decide +kernel) rfl rfl rfl (by decide +kernel)
set_option maxRecDepth 65536 in
theorem w_c17 : (Jvm.Cond.code ({ cls := "java/lang/StringUTF16", name := "coderFromArrayLen", desc := "([BI)B" } : Jvm.MethodName) jdk_52_method_15_code (2 : Nat) (Option.some Jvm.ClassFile.FieldType.byte)).before args0 about1 = true := code_word (m := ⟨11, 7⟩) (meth := k11m7) (c := k11c7) (by decide +kernel) rfl rfl rfl (by decide +kernel)
set_option maxRecDepth 65536 in
theorem w_c18 : (Jvm.Cond.code ({ cls := "com/example/branchward/branchward/IdsHoldsLineBreakPinLaw", name := "br", desc := "(C)Z" } : Jvm.MethodName) method_3_code (1 : Nat) (Option.some Jvm.ClassFile.FieldType.boolean)).before args0 about1 = true := code_word (m := ⟨1, 2⟩) (meth := k1m2) (c := k1c2) (by decide +kernel) rfl rfl rfl (by decide +kernel)
set_option maxRecDepth 65536 in
theorem w_c19 : (Jvm.Cond.code ({ cls := "java/lang/StringLatin1", name := "indexOfChar", desc := "([BIII)I" } : Jvm.MethodName) jdk_43_method_23_code (6 : Nat) (Option.some Jvm.ClassFile.FieldType.int)).before args0 about1 = true := code_word (m := ⟨9, 3⟩) (meth := k9m3) (c := k9c3) (by decide +kernel) rfl rfl rfl (by decide +kernel)
set_option maxRecDepth 65536 in
theorem w_c20 : (Jvm.Cond.code ({ cls := "java/lang/StringUTF16", name := "toBytes", desc := "([CII)[B" } : Jvm.MethodName) jdk_52_method_14_code (5 : Nat) (Option.some (Jvm.ClassFile.FieldType.array Jvm.ClassFile.FieldType.byte))).before args0 about1 = true := code_word (m := ⟨11, 6⟩) (meth := k11m6) (c := k11c6) (by decide +kernel) rfl rfl rfl (by decide +kernel)
set_option maxRecDepth 65536 in
theorem w_c21 : (Jvm.Cond.code ({ cls := "java/lang/StringUTF16", name := "newBytesFor", desc := "(I)[B" } : Jvm.MethodName) jdk_52_method_2_code (1 : Nat) (Option.some (Jvm.ClassFile.FieldType.array Jvm.ClassFile.FieldType.byte))).before args0 about1 = true := code_word (m := ⟨11, 1⟩) (meth := k11m1) (c := k11c1) (by decide +kernel) rfl rfl rfl (by decide +kernel)
set_option maxRecDepth 65536 in
theorem w_c22 : (Jvm.Cond.code ({ cls := "java/lang/StringUTF16", name := "newBytesLength", desc := "(I)I" } : Jvm.MethodName) jdk_52_method_3_code (1 : Nat) (Option.some Jvm.ClassFile.FieldType.int)).before args0 about1 = true := code_word (m := ⟨11, 2⟩) (meth := k11m2) (c := k11c2) (by decide +kernel) rfl rfl rfl (by decide +kernel)
set_option maxRecDepth 65536 in
theorem w_c23 : (Jvm.Cond.code ({ cls := "java/lang/StringUTF16", name := "putChar", desc := "([BII)V" } : Jvm.MethodName) jdk_52_method_4_code (3 : Nat) (Option.none : Option Jvm.ClassFile.FieldType)).before args0 about1 = true := code_word (m := ⟨11, 3⟩) (meth := k11m3) (c := k11c3) (by decide +kernel) rfl rfl rfl (by decide +kernel)
set_option maxRecDepth 65536 in
theorem w_c24 : (Jvm.Cond.code ({ cls := "java/lang/StringUTF16", name := "getChar", desc := "([BI)C" } : Jvm.MethodName) jdk_52_method_5_code (2 : Nat) (Option.some Jvm.ClassFile.FieldType.char)).before args0 about1 = true := code_word (m := ⟨11, 4⟩) (meth := k11m4) (c := k11c4) (by decide +kernel) rfl rfl rfl (by decide +kernel)
set_option maxRecDepth 65536 in
theorem w_c25 : (Jvm.Cond.code ({ cls := "java/lang/StringUTF16", name := "indexOf", desc := "([BIII)I" } : Jvm.MethodName) jdk_52_method_40_code (4 : Nat) (Option.some Jvm.ClassFile.FieldType.int)).before args0 about1 = true := code_word (m := ⟨11, 10⟩) (meth := k11m10) (c := k11c10) (by decide +kernel) rfl rfl rfl (by decide +kernel)
set_option maxRecDepth 65536 in
theorem w_c26 : (Jvm.Cond.code ({ cls := "java/lang/StringUTF16", name := "indexOfChar", desc := "([BIII)I" } : Jvm.MethodName) jdk_52_method_47_code (4 : Nat) (Option.some Jvm.ClassFile.FieldType.int)).before args0 about1 = true := code_word (m := ⟨11, 11⟩) (meth := k11m11) (c := k11c11) (by decide +kernel) rfl rfl rfl (by decide +kernel)
set_option maxRecDepth 65536 in
theorem w_c27 : (Jvm.Cond.code ({ cls := "java/lang/StringUTF16", name := "checkBoundsBeginEnd", desc := "(II[B)V" } : Jvm.MethodName) jdk_52_method_93_code (3 : Nat) (Option.none : Option Jvm.ClassFile.FieldType)).before args0 about1 = true := code_word (m := ⟨11, 13⟩) (meth := k11m13) (c := k11c13) (by decide +kernel) rfl rfl rfl (by decide +kernel)
set_option maxRecDepth 65536 in
theorem w_c28 : (Jvm.Cond.code ({ cls := "java/lang/StringUTF16", name := "length", desc := "([B)I" } : Jvm.MethodName) jdk_52_method_6_code (1 : Nat) (Option.some Jvm.ClassFile.FieldType.int)).before args0 about1 = true := code_word (m := ⟨11, 5⟩) (meth := k11m5) (c := k11c5) (by decide +kernel) rfl rfl rfl (by decide +kernel)
set_option maxRecDepth 65536 in
theorem w_c29 : (Jvm.Cond.code ({ cls := "java/lang/String", name := "checkBoundsBeginEnd", desc := "(III)V" } : Jvm.MethodName) jdk_42_method_158_code (3 : Nat) (Option.none : Option Jvm.ClassFile.FieldType)).before args0 about1 = true := code_word (m := ⟨7, 8⟩) (meth := k7m8) (c := k7c8) (by decide +kernel) rfl rfl rfl (by decide +kernel)
set_option maxRecDepth 65536 in
theorem w_c30 : (Jvm.Cond.code ({ cls := "jdk/internal/util/Preconditions", name := "checkFromToIndex", desc := "(IIILjava/util/function/BiFunction;)I" } : Jvm.MethodName) jdk_41_method_12_code (4 : Nat) (Option.some Jvm.ClassFile.FieldType.int)).before args0 about1 = true := code_word (m := ⟨12, 1⟩) (meth := k12m1) (c := k12c1) (by decide +kernel) rfl rfl rfl (by decide +kernel)
set_option maxRecDepth 65536 in
theorem w_c31 : (Jvm.Cond.code ({ cls := "java/lang/StringUTF16", name := "indexOfCharUnsafe", desc := "([BIII)I" } : Jvm.MethodName) jdk_52_method_48_code (5 : Nat) (Option.some Jvm.ClassFile.FieldType.int)).before args0 about1 = true := code_word (m := ⟨11, 12⟩) (meth := k11m12) (c := k11c12) (by decide +kernel) rfl rfl rfl (by decide +kernel)
def codes1 : List Jvm.Cond := [Jvm.Cond.code x code maxLocals ret, Jvm.Cond.code ({ cls := "com/example/branchward/branchward/IdsHoldsLineBreakPinLaw", name := "pick", desc := "(I)C" } : Jvm.MethodName) method_2_code (2 : Nat) (Option.some Jvm.ClassFile.FieldType.char), Jvm.Cond.code ({ cls := "java/lang/String", name := "<init>", desc := "([C)V" } : Jvm.MethodName) jdk_42_method_3_code (2 : Nat) (Option.none : Option Jvm.ClassFile.FieldType), Jvm.Cond.code ({ cls := "java/lang/String", name := "<init>", desc := "([CIILjava/lang/Void;)V" } : Jvm.MethodName) jdk_42_method_149_code (6 : Nat) (Option.none : Option Jvm.ClassFile.FieldType), Jvm.Cond.code ({ cls := "java/lang/Object", name := "<init>", desc := "()V" } : Jvm.MethodName) object_method_1_code (1 : Nat) (Option.none : Option Jvm.ClassFile.FieldType), Jvm.Cond.code ({ cls := "com/example/branchward/branchward/Ids", name := "holdsLineBreak", desc := "(Ljava/lang/String;)Z" } : Jvm.MethodName) prog_28_method_2_code (1 : Nat) (Option.some Jvm.ClassFile.FieldType.boolean), Jvm.Cond.code ({ cls := "java/lang/String", name := "indexOf", desc := "(I)I" } : Jvm.MethodName) jdk_42_method_79_code (2 : Nat) (Option.some Jvm.ClassFile.FieldType.int), Jvm.Cond.code ({ cls := "java/lang/String", name := "indexOf", desc := "(II)I" } : Jvm.MethodName) jdk_42_method_80_code (3 : Nat) (Option.some Jvm.ClassFile.FieldType.int), Jvm.Cond.code ({ cls := "java/lang/String", name := "isLatin1", desc := "()Z" } : Jvm.MethodName) jdk_42_method_154_code (1 : Nat) (Option.some Jvm.ClassFile.FieldType.boolean), Jvm.Cond.code ({ cls := "java/lang/String", name := "length", desc := "()I" } : Jvm.MethodName) jdk_42_method_54_code (1 : Nat) (Option.some Jvm.ClassFile.FieldType.int), Jvm.Cond.code ({ cls := "java/lang/String", name := "coder", desc := "()B" } : Jvm.MethodName) jdk_42_method_152_code (1 : Nat) (Option.some Jvm.ClassFile.FieldType.byte), Jvm.Cond.code ({ cls := "java/lang/StringLatin1", name := "indexOf", desc := "([BIII)I" } : Jvm.MethodName) jdk_43_method_22_code (4 : Nat) (Option.some Jvm.ClassFile.FieldType.int), Jvm.Cond.code ({ cls := "java/lang/StringLatin1", name := "canEncode", desc := "(I)Z" } : Jvm.MethodName) jdk_43_method_4_code (1 : Nat) (Option.some Jvm.ClassFile.FieldType.boolean), Jvm.Cond.code ({ cls := "java/lang/Math", name := "max", desc := "(II)I" } : Jvm.MethodName) jdk_29_method_65_code (2 : Nat) (Option.some Jvm.ClassFile.FieldType.int), Jvm.Cond.code ({ cls := "java/lang/Math", name := "min", desc := "(II)I" } : Jvm.MethodName) jdk_29_method_69_code (2 : Nat) (Option.some Jvm.ClassFile.FieldType.int), Jvm.Cond.code ({ cls := "java/lang/StringUTF16", name := "compress", desc := "([CII)[B" } : Jvm.MethodName) jdk_52_method_16_code (6 : Nat) (Option.some (Jvm.ClassFile.FieldType.array Jvm.ClassFile.FieldType.byte)), Jvm.Cond.code ({ cls := "java/lang/StringUTF16", name := "compress", desc := "([CI[BII)I" } : Jvm.MethodName) jdk_52_method_21_code (7 : Nat) (Option.some Jvm.ClassFile.FieldType.int), Jvm.Cond.code ({ cls := "java/lang/StringUTF16", name := "coderFromArrayLen", desc := "([BI)B" } : Jvm.MethodName) jdk_52_method_15_code (2 : Nat) (Option.some Jvm.ClassFile.FieldType.byte), Jvm.Cond.code ({ cls := "com/example/branchward/branchward/IdsHoldsLineBreakPinLaw", name := "br", desc := "(C)Z" } : Jvm.MethodName) method_3_code (1 : Nat) (Option.some Jvm.ClassFile.FieldType.boolean), Jvm.Cond.code ({ cls := "java/lang/StringLatin1", name := "indexOfChar", desc := "([BIII)I" } : Jvm.MethodName) jdk_43_method_23_code (6 : Nat) (Option.some Jvm.ClassFile.FieldType.int), Jvm.Cond.code ({ cls := "java/lang/StringUTF16", name := "toBytes", desc := "([CII)[B" } : Jvm.MethodName) jdk_52_method_14_code (5 : Nat) (Option.some (Jvm.ClassFile.FieldType.array Jvm.ClassFile.FieldType.byte)), Jvm.Cond.code ({ cls := "java/lang/StringUTF16", name := "newBytesFor", desc := "(I)[B" } : Jvm.MethodName) jdk_52_method_2_code (1 : Nat) (Option.some (Jvm.ClassFile.FieldType.array Jvm.ClassFile.FieldType.byte)), Jvm.Cond.code ({ cls := "java/lang/StringUTF16", name := "newBytesLength", desc := "(I)I" } : Jvm.MethodName) jdk_52_method_3_code (1 : Nat) (Option.some Jvm.ClassFile.FieldType.int), Jvm.Cond.code ({ cls := "java/lang/StringUTF16", name := "putChar", desc := "([BII)V" } : Jvm.MethodName) jdk_52_method_4_code (3 : Nat) (Option.none : Option Jvm.ClassFile.FieldType), Jvm.Cond.code ({ cls := "java/lang/StringUTF16", name := "getChar", desc := "([BI)C" } : Jvm.MethodName) jdk_52_method_5_code (2 : Nat) (Option.some Jvm.ClassFile.FieldType.char), Jvm.Cond.code ({ cls := "java/lang/StringUTF16", name := "indexOf", desc := "([BIII)I" } : Jvm.MethodName) jdk_52_method_40_code (4 : Nat) (Option.some Jvm.ClassFile.FieldType.int), Jvm.Cond.code ({ cls := "java/lang/StringUTF16", name := "indexOfChar", desc := "([BIII)I" } : Jvm.MethodName) jdk_52_method_47_code (4 : Nat) (Option.some Jvm.ClassFile.FieldType.int), Jvm.Cond.code ({ cls := "java/lang/StringUTF16", name := "checkBoundsBeginEnd", desc := "(II[B)V" } : Jvm.MethodName) jdk_52_method_93_code (3 : Nat) (Option.none : Option Jvm.ClassFile.FieldType), Jvm.Cond.code ({ cls := "java/lang/StringUTF16", name := "length", desc := "([B)I" } : Jvm.MethodName) jdk_52_method_6_code (1 : Nat) (Option.some Jvm.ClassFile.FieldType.int), Jvm.Cond.code ({ cls := "java/lang/String", name := "checkBoundsBeginEnd", desc := "(III)V" } : Jvm.MethodName) jdk_42_method_158_code (3 : Nat) (Option.none : Option Jvm.ClassFile.FieldType), Jvm.Cond.code ({ cls := "jdk/internal/util/Preconditions", name := "checkFromToIndex", desc := "(IIILjava/util/function/BiFunction;)I" } : Jvm.MethodName) jdk_41_method_12_code (4 : Nat) (Option.some Jvm.ClassFile.FieldType.int), Jvm.Cond.code ({ cls := "java/lang/StringUTF16", name := "indexOfCharUnsafe", desc := "([BIII)I" } : Jvm.MethodName) jdk_52_method_48_code (5 : Nat) (Option.some Jvm.ClassFile.FieldType.int)]
set_option maxRecDepth 65536 in
theorem codes_eq : words1.filter isCode = codes1 := rfl
theorem w_codes : ∀ c ∈ words1.filter isCode, c.before args0 about1 = true := by
  rw [codes_eq]
  intro c hc
  simp only [codes1, List.mem_cons, List.not_mem_nil, or_false] at hc
  rcases hc with rfl | rfl | rfl | rfl | rfl | rfl | rfl | rfl | rfl | rfl | rfl | rfl | rfl | rfl | rfl | rfl | rfl | rfl | rfl | rfl | rfl | rfl | rfl | rfl | rfl | rfl | rfl | rfl | rfl | rfl | rfl | rfl
  · exact w_c0
  · exact w_c1
  · exact w_c2
  · exact w_c3
  · exact w_c4
  · exact w_c5
  · exact w_c6
  · exact w_c7
  · exact w_c8
  · exact w_c9
  · exact w_c10
  · exact w_c11
  · exact w_c12
  · exact w_c13
  · exact w_c14
  · exact w_c15
  · exact w_c16
  · exact w_c17
  · exact w_c18
  · exact w_c19
  · exact w_c20
  · exact w_c21
  · exact w_c22
  · exact w_c23
  · exact w_c24
  · exact w_c25
  · exact w_c26
  · exact w_c27
  · exact w_c28
  · exact w_c29
  · exact w_c30
  · exact w_c31
set_option maxRecDepth 65536 in
theorem w_t1 : (words1.take 24).all (fun c => isCode c || c.before args0 about1) = true := by decide +kernel
set_option maxRecDepth 65536 in
theorem w_t2 : ((words1.drop 24).take 24).all (fun c => isCode c || c.before args0 about1) = true := by decide +kernel
set_option maxRecDepth 65536 in
theorem w_t3 : (((words1.drop 24).drop 24).take 24).all (fun c => isCode c || c.before args0 about1) = true := by decide +kernel
set_option maxRecDepth 65536 in
theorem w_t4 : ((((words1.drop 24).drop 24).drop 24).take 24).all (fun c => isCode c || c.before args0 about1) = true := by decide +kernel
set_option maxRecDepth 65536 in
theorem w_t5 : (((((words1.drop 24).drop 24).drop 24).drop 24).take 24).all (fun c => isCode c || c.before args0 about1) = true := by decide +kernel
set_option maxRecDepth 65536 in
theorem w_t6 : (((((words1.drop 24).drop 24).drop 24).drop 24).drop 24).all (fun c => isCode c || c.before args0 about1) = true := by decide +kernel
theorem w_tables : (allAtoms (Jvm.Cond.code x code maxLocals ret :: tables_1)).before args0 about1 = true := by
  rw [allAtoms_all]
  show words1.all (fun c => c.before args0 about1) = true
  refine all_split ?_ w_codes
  rw [← List.take_append_drop 24 words1, List.all_append, w_t1, ← List.take_append_drop 24 (words1.drop 24), List.all_append, w_t2, ← List.take_append_drop 24 ((words1.drop 24).drop 24), List.all_append, w_t3, ← List.take_append_drop 24 (((words1.drop 24).drop 24).drop 24), List.all_append, w_t4, ← List.take_append_drop 24 ((((words1.drop 24).drop 24).drop 24).drop 24), List.all_append, w_t5, w_t6]
  rfl
set_option maxRecDepth 65536 in
theorem w_rest : rest_1_c.before args0 about1 = true := by decide +kernel
set_option maxRecDepth 65536 in
theorem w_case : (Jvm.Cond.and given_1 narrow_1).before args0 about1 = true := by decide +kernel
set_option maxRecDepth 65536 in
theorem w_consts : constsHeld consts_1 about1 := Jvm.Lit.constsHeldB_iff.mp (by decide +kernel)
theorem w_applies : (headSpec (Jvm.Cond.code x code maxLocals ret :: tables_1) room_1).applies x e0.platform about1 = true :=
  (Spec.applies_iff w_frames).mpr ⟨w_running, w_runnable, w_alone, w_named, w_hears, w_ripe, w_room, w_tables⟩
theorem atStart : AtStart classFile x code maxLocals ret World_1 tables_1 room_1 Calls_1 rest_1 Pre_1 launch0 p0 e0 about1 theMethod args0 below0 :=
  ⟨lists_1, trivial, launch0.admits_env _ _ _, launch0.least_env, fairChoices_fair.cas, fairChoices_fair.clock, w_frames, w_args, w_heap, w_applies, ⟨w_consts, trivial⟩, w_rest, w_case⟩
end start1
theorem witness_1 : WitnessClaimed_1 := ⟨start1.p0, start1.e0, start1.about1, start1.theMethod, start1.args0, start1.below0, start1.atStart⟩
end Jvm.Pilot.@@N@@
